import JvmDerived
import JvmDerived.Pilot.@@N@@Statement
import JvmDerived.Pilot.@@N@@Code
set_option linter.unusedVariables false
set_option linter.unusedSimpArgs false
namespace Jvm.OwnW
open Sem ClassFile Op Lib Jvm.Stand Jvm.Free Jvm.LawKit Jvm.RoadKit
theorem adr_ne {a b : Nat} (h : a < b ∨ b < a) : @Ne Addr a b := fun z => by
  have z : @Eq Nat a b := z
  omega
/-- what was written lies in one of 'ws' or is new -/
def Fw (ws : List Addr) (N : Nat) (L : List Loc) : Prop := ∀ y ∈ L, y.base ∈ ws ∨ N ≤ y.base
theorem Fw.nil (ws : List Addr) (N : Nat) : Fw ws N [] := fun _ q => nomatch q
theorem Fw.app {ws : List Addr} {N : Nat} {L L' : List Loc} (A : Fw ws N L) (B : Fw ws N L') : Fw ws N (L ++ L') := fun y q => (List.mem_append.mp q).elim (A y) (B y)
theorem Fw.snoc {ws : List Addr} {N : Nat} {L : List Loc} {a : Addr} {sl : Nat} (A : Fw ws N L) (q : a ∈ ws ∨ N ≤ a) : Fw ws N (L ++ [⟨a, sl⟩]) := A.app fun y hy => by cases List.mem_singleton.mp hy; exact q
/-- where a walk stands: what was written is new, the heap, the figures within the room -/
def Pos (p : Program) (l : Launch) (e : Env) (R : Room) (s : State) (m : MethodId) (args : Array Value) (below : List Frame) (meth : Method) (c : Code) (Z : State) (own : String) (ws : List Addr) (bd : Nat) (T : State) (h : Heap) (k n : Nat) : Prop :=
  (∃ locs, Stand p l e R s m args below meth c T locs k n ∧ Fw ws bd locs) ∧ T.heap = h ∧ bd ≤ h.size ∧ Z.Warmed39 s.vm ∧ p.tables.exec = Jvm.exec ∧ s.vm.findClass own = some m.cls ∧ meth.locks = false ∧ k ≤ R.cells ∧ n ≤ R.slots
/-- the walk that stands at the frame g in T comes to its return, and Q holds of what it returns and of the heap it leaves -/
def Done (p : Program) (l : Launch) (e : Env) (R : Room) (s : State) (m : MethodId) (args : Array Value) (below : List Frame) (meth : Method) (c : Code) (Z : State) (own : String) (ws : List Addr) (bd : Nat) (Q : Option Value → Heap → Prop) (T : State) (g : JFrame) : Prop :=
  ∃ v T' h' k n, Pos p l e R s m args below meth c Z own ws bd T' h' k n ∧ (meth.sig.returnType = none → v = none) ∧ Q v h' ∧
    ∀ fs, (∀ (f : JFrame) (acts : List Action), f.method = m → f.locked = none → f.entered = [] → (doReturn e (T'.setTop f) acts v).1 = T'.setFrames fs) → Steps p.tables e below (T.setTop g) (T'.setFrames fs)
/-- a method's contract, asked at one heap and one row of arguments; it writes what lies in 'ws' and what it makes, alone -/
def OMet (l : Launch) (y : MethodName) (bytes : ByteArray) (maxL : Nat) (ret : Option FieldType) (wd : List Cond) (rm : Room) (Z : State) (h : Heap) (ws : List Addr) (as' : Array Value) (Q : Option Value → Heap → Prop) : Prop :=
  MetFree l y (head1 (Cond.code y bytes maxL ret :: wd) rm) (fun a U => a = as' ∧ Z.Warmed39 U.vm ∧ U.heap = h) (fun _ _ _ _ _ => True) (fun _ U o U' => ∃ v L, o = .returned v ∧ (Q v U'.heap ∧ Fw ws h.size L ∧ Keep h U'.heap ws) ∧ FrameEnd U o U' L rm.cells rm.slots)
section A
variable {p : Program} {l : Launch} {e : Env} {R : Room} {s : State} {m : MethodId} {args : Array Value} {below : List Frame} {meth : Method} {c : Code} {Z : State} {own : String} {ws : List Addr} {bd : Nat} {T : State} {h h' : Heap} {k n : Nat} {a0 : Array Value} {Q : Option Value → Heap → Prop} {pc pc' : Nat} {Ls : Array Slot} {st : List Value} {T₁ : State} {g₁ : JFrame}
theorem Pos.here (P : Pos p l e R s m args below meth c Z own ws bd T h k n) : At T m c below := by obtain ⟨⟨_, X, _⟩, _⟩ := P; exact X.here
theorem Pos.x (P : Pos p l e R s m args below meth c Z own ws bd T h k n) : p.tables.exec = Jvm.exec := P.2.2.2.2.1
theorem Pos.ge (P : Pos p l e R s m args below meth c Z own ws bd T h k n) : bd ≤ h.size := P.2.2.1
theorem Pos.wa (P : Pos p l e R s m args below meth c Z own ws bd T h k n) : Z.Warmed39 s.vm := P.2.2.2.1
theorem Pos.more (P : Pos p l e R s m args below meth c Z own ws bd T h k n) {k' n' : Nat} (hk : k ≤ k') (hn : n ≤ n') (hk' : k' ≤ R.cells) (hn' : n' ≤ R.slots) : Pos p l e R s m args below meth c Z own ws bd T h k' n' := by
  obtain ⟨⟨L, X, N'⟩, a, b, c, d, f, g, _, _⟩ := P
  exact ⟨⟨L, X.more hk hn, N'⟩, a, b, c, d, f, g, hk', hn'⟩
theorem Pos.cast {k' n' : Nat} (P : Pos p l e R s m args below meth c Z own ws bd T h k n) (hk : k = k') (hn : n = n') : Pos p l e R s m args below meth c Z own ws bd T h k' n' := by subst hk hn; exact P
theorem Done.step {T' : State} {g g' : JFrame} (hs : ∀ t, Steps p.tables e below (T'.setTop g') t → Steps p.tables e below (T.setTop g) t) (D : Done p l e R s m args below meth c Z own ws bd Q T' g') : Done p l e R s m args below meth c Z own ws bd Q T g := by
  obtain ⟨v, T1, h1, k1, n1, P, hv, hq, st⟩ := D
  exact ⟨v, T1, h1, k1, n1, P, hv, hq, fun fs hl => hs _ (st fs hl)⟩
theorem Done.stepL {st' : List Value} (hs : ∀ t, Steps p.tables e below (T.setTop (mkF m pc' Ls st')) t → Steps p.tables e below (T.setTop (mkF m pc Ls st)) t) (D : Done p l e R s m args below meth c Z own ws bd Q T (mkF m pc' Ls st')) : Done p l e R s m args below meth c Z own ws bd Q T (mkF m pc Ls st) := Done.step hs D
theorem Done.imp {Q' : Option Value → Heap → Prop} {g : JFrame} (D : Done p l e R s m args below meth c Z own ws bd Q T g) (q : ∀ v h, Q v h → Q' v h) : Done p l e R s m args below meth c Z own ws bd Q' T g := by
  obtain ⟨v, T1, h1, k1, n1, P, hv, hq, st⟩ := D
  exact ⟨v, T1, h1, k1, n1, P, hv, q _ _ hq, st⟩
theorem keepOf {u : State} {L : List Loc} (q : s.sameButNew u L k n) (F : Fw ws s.heap.size L) : Keep s.heap u.heap ws := by
  obtain ⟨-, h1, -, -, -, H⟩ := q
  refine ⟨h1, fun x cl hx hn => ?_, fun x cl hx => ?_⟩
  · obtain ⟨c', e1, e2, e3, e4⟩ := H x cl hx
    have hlt := (Array.getElem?_eq_some_iff.mp hx).1
    have es : c'.slots = cl.slots := by
      apply Array.ext_getElem?
      intro i
      exact e4 i fun hm => (F _ hm).elim (fun z => hn z) (fun z => absurd z (Nat.not_le.mpr hlt))
    rw [e1, e2, es]
  · obtain ⟨c', e1, e2, e3, e4⟩ := H x cl hx
    exact ⟨c', e1, by rw [e2], by rw [e2], e3⟩
/-- a contract out of a walk -/
theorem OMet.of {y : MethodName} {bytes : ByteArray} {maxL : Nat} {ret : Option FieldType} {wd : List Cond} {rm : Room} {as' : Array Value} {nm : String} (hy : plainFor y = true) (hyc : y.cls = own) (hyn : y.name = nm)
    (H : ∀ p e s m below meth c s₁, Pos p l e rm s m as' below meth c Z own ws h.size s₁ h 0 0 → c.code = bytes → c.maxLocals = maxL → meth.sig.returnType = ret → meth.name = nm → Done p l e rm s m as' below meth c Z own ws h.size Q s₁ (entryFrame m as' maxL)) :
    OMet l y bytes maxL ret wd rm Z h ws as' Q := by
  subst hyc hyn
  refine MetFree.of_bodySF hy hisR ?_
  intro p e s m args below meth c s₁ Bd hml hP hK
  obtain ⟨rfl, hZ, hh⟩ := hP
  have hown : s.vm.findClass y.cls = some m.cls := findClass_of_methodNamed Bd.named
  have hnm := (name_of_methodNamed Bd.named Bd.method).1
  have X0 : Stand p l e rm s m args below meth c s₁ [] 0 0 := Stand.of_body Bd
  have e0 : s₁.heap = h := by rw [← hh, Bd.state]; rfl
  obtain ⟨v, T', h', k, n, ⟨⟨L, X, N⟩, eT, _, _, _, _, hlk, hk, hnn⟩, hv, hq, st⟩ := H p e s m below meth c s₁ ⟨⟨[], X0, Fw.nil _ _⟩, e0, Nat.le_refl _, hZ, Bd.exec, hown, Bd.notSynchronized, Nat.zero_le _, Nat.zero_le _⟩ Bd.bytes hml Bd.returns hnm
  obtain ⟨fs, hr, hrun, hended, hW, hsame⟩ := X.leave (v := v) hv hlk
  refine ⟨_, _, st fs hr, hrun, hended, v, L, rfl, ⟨?_, N, ?_⟩, ⟨_, rfl⟩, hW, hsame.mono hk hnn⟩
  · rw [show (T'.setFrames fs).heap = T'.heap from rfl, eT]
    exact hq
  · subst hh
    have q := keepOf hsame N
    exact q
/-! returns -/
theorem wRet {w : Value} {t : FieldType} {i : Instr} (P : Pos p l e R s m args below meth c Z own ws bd T h k n) (hret : meth.sig.returnType = some t) (hn : narrow t w = w)
    (hi : (i = .ireturn ∧ (t = .int ∨ t = .boolean ∨ t = .byte ∨ t = .char ∨ t = .short) ∧ ∃ z, w = .int z) ∨ (i = .lreturn ∧ t = .long ∧ ∃ z, w = .long z) ∨ (i = .dreturn ∧ t = .double ∧ ∃ z, w = .double z) ∨ (i = .freturn ∧ t = .float ∧ ∃ z, w = .float z) ∨ (i = .areturn ∧ t.isReference = true ∧ w.isRef = true))
    (hd : decode c.code pc = .ok (i, 1)) (hq : Q (some w) h) : Done p l e R s m args below meth c Z own ws bd Q T (mkF m pc Ls (w :: st)) := by
  obtain ⟨⟨L, X, N'⟩, r⟩ := id P
  exact ⟨some w, T, h, k, n, P, (fun q => by rw [hret] at q; cases q), hq, fun fs hl => retOut X P.x hret hn hi hd hl⟩
theorem wRetI {z : Int32} (P : Pos p l e R s m args below meth c Z own ws bd T h k n) (hret : meth.sig.returnType = some .int) (hd : decode c.code pc = .ok (.ireturn, 1)) (hq : Q (some (.int z)) h) : Done p l e R s m args below meth c Z own ws bd Q T (mkF m pc Ls (.int z :: st)) :=
  wRet P hret rfl (Or.inl ⟨rfl, Or.inl rfl, z, rfl⟩) hd hq
theorem wRetJ {z : Int64} (P : Pos p l e R s m args below meth c Z own ws bd T h k n) (hret : meth.sig.returnType = some .long) (hd : decode c.code pc = .ok (.lreturn, 1)) (hq : Q (some (.long z)) h) : Done p l e R s m args below meth c Z own ws bd Q T (mkF m pc Ls (.long z :: st)) :=
  wRet P hret rfl (Or.inr (Or.inl ⟨rfl, rfl, z, rfl⟩)) hd hq
theorem wRetD {z : UInt64} (P : Pos p l e R s m args below meth c Z own ws bd T h k n) (hret : meth.sig.returnType = some .double) (hd : decode c.code pc = .ok (.dreturn, 1)) (hq : Q (some (.double z)) h) : Done p l e R s m args below meth c Z own ws bd Q T (mkF m pc Ls (.double z :: st)) :=
  wRet P hret rfl (Or.inr (Or.inr (Or.inl ⟨rfl, rfl, z, rfl⟩))) hd hq
theorem wRetA {w : Value} {t : FieldType} (P : Pos p l e R s m args below meth c Z own ws bd T h k n) (hret : meth.sig.returnType = some t) (ht : t.isReference = true) (hw : w.isRef = true) (hd : decode c.code pc = .ok (.areturn, 1)) (hq : Q (some w) h) : Done p l e R s m args below meth c Z own ws bd Q T (mkF m pc Ls (w :: st)) :=
  wRet P hret (by cases w <;> first | rfl | (simp [Value.isRef] at hw; done) | (cases t <;> first | rfl | (simp [FieldType.isReference] at ht))) (Or.inr (Or.inr (Or.inr (Or.inr ⟨rfl, ht, hw⟩)))) hd hq
theorem wRetN {z : Int32} {t : FieldType} (P : Pos p l e R s m args below meth c Z own ws bd T h k n) (hret : meth.sig.returnType = some t) (ht : t = .boolean ∨ t = .byte ∨ t = .char ∨ t = .short) (hd : decode c.code pc = .ok (.ireturn, 1)) (hq : Q (some (.int (nar t z))) h) : Done p l e R s m args below meth c Z own ws bd Q T (mkF m pc Ls (.int z :: st)) := by
  obtain ⟨⟨L, X, N'⟩, r⟩ := id P
  exact ⟨_, T, h, k, n, P, (fun q => by rw [hret] at q; cases q), hq, fun fs hl => retN X P.x hret ht hd hl⟩
theorem wRetV (P : Pos p l e R s m args below meth c Z own ws bd T h k n) (hret : meth.sig.returnType = none) (hd : decode c.code pc = .ok (.return_, 1)) (hq : Q none h) : Done p l e R s m args below meth c Z own ws bd Q T (mkF m pc Ls []) := by
  obtain ⟨⟨L, X, N'⟩, r⟩ := id P
  exact ⟨none, T, h, k, n, P, fun _ => rfl, hq, fun fs hl => X.returnOut P.x hret hd hl⟩
/-! fields -/
theorem wGet {R0 O nm d host : String} {index : Nat} {a : Addr} {v : Value} (P : Pos p l e R s m args below meth c Z own ws bd T h k n) (w : (Cond.fieldLink own index R0 nm d).before a0 Z = true ∨ (Cond.fieldLinkNest own index R0 nm d host).before a0 Z = true) (via : Via Z R0 O nm d) (F : Fld Z h a O nm d v)
    (hd : decode c.code pc = .ok (.getfield index, 3)) (hp : pc + 3 = pc') (K : ∀ T', Pos p l e R s m args below meth c Z own ws bd T' h k n → Done p l e R s m args below meth c Z own ws bd Q T' (mkF m pc' Ls (v :: st))) : Done p l e R s m args below meth c Z own ws bd Q T (mkF m pc Ls (.ref a :: st)) := by
  obtain ⟨⟨L, X, N'⟩, eT, b, hZ, hx, ho, r⟩ := id P
  obtain ⟨T', X', e', stp⟩ := getF X hx hZ ho w via eT F (g := mkF m pc Ls (.ref a :: st)) rfl rfl hd
  subst hp
  exact Done.step stp (K T' ⟨⟨L, X', N'⟩, e', b, hZ, hx, ho, r⟩)
theorem wGetS {R0 O nm d host : String} {index : Nat} {v : Value} (P : Pos p l e R s m args below meth c Z own ws bd T h k n) (w : (Cond.fieldLink own index R0 nm d).before a0 Z = true ∨ (Cond.fieldLinkNest own index R0 nm d host).before a0 Z = true) (via : Via Z R0 O nm d) (F : Sta Z h O nm d v)
    (hd : decode c.code pc = .ok (.getstatic index, 3)) (hp : pc + 3 = pc') (K : ∀ T', Pos p l e R s m args below meth c Z own ws bd T' h k n → Done p l e R s m args below meth c Z own ws bd Q T' (mkF m pc' Ls (v :: st))) : Done p l e R s m args below meth c Z own ws bd Q T (mkF m pc Ls st) := by
  obtain ⟨⟨L, X, N'⟩, eT, b, hZ, hx, ho, r⟩ := id P
  obtain ⟨T', X', e', stp⟩ := getS2 X hx hZ ho w via eT F (g := mkF m pc Ls st) rfl hd
  subst hp
  exact Done.step stp (K T' ⟨⟨L, X', N'⟩, e', b, hZ, hx, ho, r⟩)
theorem wPut {R0 O nm d host C : String} {index kk : Nat} {ty : FieldType} {a : Addr} {v old : Value} (P : Pos p l e R s m args below meth c Z own ws bd T h k n) (w : (Cond.fieldLink own index R0 nm d).before a0 Z = true ∨ (Cond.fieldLinkNest own index R0 nm d host).before a0 Z = true) (via : Via Z R0 O nm d) (F : Fld Z h a O nm d old) (E : Exa Z h a C)
    (La : (Cond.lays C O nm d).before a0 Z = true ∨ ((Cond.laysFinal C O nm d).before a0 Z = true ∧ own = O ∧ meth.name = "<init>")) (wi : (Cond.instantiable C kk).before a0 Z = true) (hty : parseFieldDescriptor d = some ty) (hn : narrow ty v = v) (hf : fits ty v = true) (hge : a ∈ ws ∨ bd ≤ a)
    (hd : decode c.code pc = .ok (.putfield index, 3)) (hp : pc + 3 = pc') (K : ∀ T' h', Pos p l e R s m args below meth c Z own ws bd T' h' k n → Wr h h' a (Jvm.RoadKit.slotOf Z O nm d) v → Fld Z h' a O nm d v → Done p l e R s m args below meth c Z own ws bd Q T' (mkF m pc' Ls st)) : Done p l e R s m args below meth c Z own ws bd Q T (mkF m pc Ls (v :: .ref a :: st)) := by
  obtain ⟨⟨L, X, N'⟩, eT, b, hZ, hx, ho, r⟩ := id P
  obtain ⟨T', h', X', e', W, stp⟩ := putF X hx hZ ho w via eT F E La wi hty hn hf (g := mkF m pc Ls (v :: .ref a :: st)) rfl rfl hd
  subst hp
  exact Done.step stp (K T' h' ⟨⟨_, X', Fw.snoc N' hge⟩, e', by rw [W.size]; exact b, hZ, hx, ho, r⟩ W (F.same W))
theorem wPutN {R0 O nm d C : String} {index kk : Nat} {ty : FieldType} {a : Addr} {x x' : Int32} {old : Value} (P : Pos p l e R s m args below meth c Z own ws bd T h k n) (w : (Cond.fieldLink own index R0 nm d).before a0 Z = true) (via : Via Z R0 O nm d) (F : Fld Z h a O nm d old) (E : Exa Z h a C)
    (La : (Cond.lays C O nm d).before a0 Z = true ∨ ((Cond.laysFinal C O nm d).before a0 Z = true ∧ own = O ∧ meth.name = "<init>")) (wi : (Cond.instantiable C kk).before a0 Z = true) (hty : parseFieldDescriptor d = some ty) (hn : narrow ty (.int x) = .int x') (hf : fits ty (.int x') = true) (hge : a ∈ ws ∨ bd ≤ a)
    (hd : decode c.code pc = .ok (.putfield index, 3)) (hp : pc + 3 = pc') (K : ∀ T' h', Pos p l e R s m args below meth c Z own ws bd T' h' k n → Wr h h' a (Jvm.RoadKit.slotOf Z O nm d) (.int x') → Fld Z h' a O nm d (.int x') → Done p l e R s m args below meth c Z own ws bd Q T' (mkF m pc' Ls st)) : Done p l e R s m args below meth c Z own ws bd Q T (mkF m pc Ls (.int x :: .ref a :: st)) := by
  obtain ⟨⟨L, X, N'⟩, eT, b, hZ, hx, ho, r⟩ := id P
  obtain ⟨T', h', X', e', W, stp⟩ := putFN X hx hZ ho w via eT F E La wi (v' := .int x') hty hn hf (g := mkF m pc Ls (.int x :: .ref a :: st)) rfl rfl hd
  subst hp
  exact Done.step stp (K T' h' ⟨⟨_, X', Fw.snoc N' hge⟩, e', by rw [W.size]; exact b, hZ, hx, ho, r⟩ W (F.same W))
/-! objects and arrays -/
theorem wNew {C : String} {index nn : Nat} (P : Pos p l e R s m args below meth c Z own ws bd T h k n) (w : (Cond.classLink own index C).before a0 Z = true) (wi : (Cond.instantiable C nn).before a0 Z = true) (wz : (Cond.initialized C).before a0 Z = true)
    (hd : decode c.code pc = .ok (.new index, 3)) (hp : pc + 3 = pc') (hc : k + 1 ≤ R.cells) (hl : n + nn ≤ R.slots) {k' n' : Nat} (hk' : k + 1 = k') (hn' : n + nn = n')
    (K : ∀ T' h' a, a = h.size → h.size < h'.size → Pos p l e R s m args below meth c Z own ws bd T' h' k' n' → Ext h h' → Exa Z h' a C → (∀ {O nm d : String} {ty : FieldType}, Laid Z a0 C O nm d → parseFieldDescriptor d = some ty → Fld Z h' a O nm d (defaultValue ty)) → Done p l e R s m args below meth c Z own ws bd Q T' (mkF m pc' Ls (.ref a :: st))) : Done p l e R s m args below meth c Z own ws bd Q T (mkF m pc Ls st) := by
  obtain ⟨⟨L, X, N'⟩, eT, b, hZ, hx, ho, hlk, _, _⟩ := id P
  obtain ⟨T', h', X', e', E, A, D, -, stp⟩ := newO X hx hZ ho w wi wz eT (g := mkF m pc Ls st) rfl hd hc hl
  subst hp hk' hn'
  exact Done.step stp (K T' h' h.size rfl A.lt ⟨⟨L, X', N'⟩, e', Nat.le_trans b E.1, hZ, hx, ho, hlk, hc, hl⟩ E A D)
/-- an array by its places' values -/
def Ar (Z : State) (h : Heap) (a : Addr) (ty : FieldType) (n : Nat) (f : Nat → Value) : Prop := ∃ cl : Cell, Arr Z h a cl ty ∧ cl.slots.size = n ∧ n < 2147483648 ∧ ∀ i, i < n → cl.slots[i]? = some (f i)
def oupd {α : Type} (f : Nat → α) (i : Nat) (v : α) : Nat → α := fun j => if j = i then v else f j
theorem oupd_same {α : Type} (f : Nat → α) (i : Nat) (v : α) : oupd f i v i = v := if_pos rfl
theorem oupd_ne {α : Type} {f : Nat → α} {i j : Nat} {v : α} (q : j ≠ i) : oupd f i v j = f j := if_neg q
theorem Ar.lt {a : Addr} {ty : FieldType} {N : Nat} {f : Nat → Value} (A : Ar Z h a ty N f) : a < h.size := by obtain ⟨c, A, -⟩ := A; exact A.lt
theorem Ar.ltN {a : Addr} {ty : FieldType} {N : Nat} {f : Nat → Value} (A : Ar Z h a ty N f) : @LT.lt Nat instLTNat a h.size := A.lt
theorem exaN {a : Addr} {C : String} (E : Exa Z h a C) : @LT.lt Nat instLTNat a h.size := E.lt
theorem Ar.ext {a : Addr} {ty : FieldType} {N : Nat} {f : Nat → Value} (A : Ar Z h a ty N f) (E : Ext h h') : Ar Z h' a ty N f := by obtain ⟨c, A, r⟩ := A; exact ⟨c, A.ext E, r⟩
theorem Ar.other {a b : Addr} {sl : Nat} {v : Value} {ty : FieldType} {N : Nat} {f : Nat → Value} (A : Ar Z h b ty N f) (W : Wr h h' a sl v) (q : b ≠ a) : Ar Z h' b ty N f := by obtain ⟨c, A, r⟩ := A; exact ⟨c, A.other W q, r⟩
theorem Ar.keep {a : Addr} {ws : List Addr} {ty : FieldType} {N : Nat} {f : Nat → Value} (A : Ar Z h a ty N f) (K : Keep h h' ws) (q : a ∉ ws) : Ar Z h' a ty N f := by obtain ⟨c, A, r⟩ := A; exact ⟨c, ⟨K.2.1 a c A.1 q, A.2⟩, r⟩
theorem Ar.len {a : Addr} {ty : FieldType} {N : Nat} {f : Nat → Value} (A : Ar Z h a ty N f) : N < 2147483648 := by obtain ⟨c, A, r1, r2, -⟩ := A; exact r2
theorem Ar.congr {a : Addr} {ty : FieldType} {N : Nat} {f g : Nat → Value} (A : Ar Z h a ty N f) (q : ∀ i, i < N → f i = g i) : Ar Z h a ty N g := by obtain ⟨c, A, r1, r2, r3⟩ := A; exact ⟨c, A, r1, r2, fun i hi => by rw [← q i hi]; exact r3 i hi⟩
theorem in_of {cl : Cell} {N i : Nat} {j : Int32} (S : cl.slots.size = N) (hj : j.toInt = (i : Int)) (hi : i < N) : ¬ (j < 0 ∨ cl.slots.size ≤ j.toNatClampNeg) ∧ j.toNatClampNeg = i := by
  have e : j.toNatClampNeg = i := by rw [Int32.toNatClampNeg, hj]; omega
  refine ⟨?_, e⟩
  rw [S, e, Int32.lt_iff_toInt_lt, hj, show (0 : Int32).toInt = 0 from rfl]
  omega
theorem toI32 {N : Nat} (h : N < 2147483648) : (N.toInt32).toInt = (N : Int) := by
  rw [show N.toInt32 = Int32.ofNat N from rfl, Int32.toInt_ofNat_of_lt (by omega)]
theorem wNewA {aty : ArrayType} {z : Int32} {N cap : Nat} (P : Pos p l e R s m args below meth c Z own ws bd T h k n) (w : (Cond.arrayClass (newarray.typeOf aty)).before a0 Z = true) (hd : decode c.code pc = .ok (.newarray aty, 2)) (hp : pc + 2 = pc') (hz : z.toInt = (N : Int)) (hcap : N ≤ cap) (hb : cap * 8 ≤ 536870912) (hc : k + 1 ≤ R.cells) (hl : n + cap ≤ R.slots)
    {ad : String} (had : "[" ++ (newarray.typeOf aty).toString = ad) {ty : FieldType} {dv : Value} (hty : newarray.typeOf aty = ty) (hdv : defaultValue ty = dv) {k' n' : Nat} (hk' : k + 1 = k') (hn' : n + cap = n')
    (K : ∀ T' h' a, a = h.size → h.size < h'.size → Pos p l e R s m args below meth c Z own ws bd T' h' k' n' → Ext h h' → Ar Z h' a ty N (fun _ => dv) → Exa Z h' a ad → Done p l e R s m args below meth c Z own ws bd Q T' (mkF m pc' Ls (.ref a :: st))) : Done p l e R s m args below meth c Z own ws bd Q T (mkF m pc Ls (.int z :: st)) := by
  obtain ⟨⟨L, X, N'⟩, eT, b, hZ, hx, ho, hlk, _, _⟩ := id P
  have hz0 : ¬ z < 0 := by rw [Int32.lt_iff_toInt_lt, hz, show (0 : Int32).toInt = 0 from rfl]; omega
  have hzn : z.toNatClampNeg = N := by rw [Int32.toNatClampNeg, hz]; omega
  have hN := z.toInt_lt
  obtain ⟨T', h', kA, X', e', E, A, Ex, stp⟩ := newPE X hx hZ w eT (g := mkF m pc Ls (.int z :: st)) rfl hd rfl hz0 (by rw [hzn]; exact hcap) hb hc hl had
  subst hp hk' hn' hty hdv
  refine Done.step stp (K T' h' h.size rfl A.lt ⟨⟨L, X', N'⟩, e', Nat.le_trans b E.1, hZ, hx, ho, hlk, hc, hl⟩ E ⟨_, A, by rw [sz_new, hzn], by omega, fun i hi => ?_⟩ Ex)
  simp [newA, hzn, hi]
theorem wLen {ty : FieldType} {N : Nat} {f : Nat → Value} {a : Addr} (P : Pos p l e R s m args below meth c Z own ws bd T h k n) (A : Ar Z h a ty N f) {z : Int32} (hz : z.toInt = (N : Int)) (hd : decode c.code pc = .ok (.arraylength, 1)) (hp : pc + 1 = pc')
    (K : Done p l e R s m args below meth c Z own ws bd Q T (mkF m pc' Ls (.int z :: st))) : Done p l e R s m args below meth c Z own ws bd Q T (mkF m pc Ls (.ref a :: st)) := by
  obtain ⟨⟨L, X, N'⟩, eT, b, hZ, hx, ho, hlk, _, _⟩ := id P
  obtain ⟨cl, Ar, S, hN, H⟩ := A
  subst hp
  refine Done.step (fun t kk => X.arraylength hx (by rw [eT]; exact Ar.1) (State.isArrayOf_alike hZ.alike Ar.2.1) (g := mkF m pc Ls (.ref a :: st)) rfl rfl hd t ?_) K
  rw [S, show N.toInt32 = z from Int32.toInt_inj.mp (by rw [toI32 hN, hz])]
  exact kk
theorem wDaload {N i : Nat} {f : Nat → Value} {a : Addr} {j : Int32} (P : Pos p l e R s m args below meth c Z own ws bd T h k n) (A : Ar Z h a .double N f) (hj : j.toInt = (i : Int)) (hi : i < N) {v : Value} (hv : f i = v) (hd : decode c.code pc = .ok (.daload, 1)) (hp : pc + 1 = pc')
    (K : Done p l e R s m args below meth c Z own ws bd Q T (mkF m pc' Ls (v :: st))) : Done p l e R s m args below meth c Z own ws bd Q T (mkF m pc Ls (.int j :: .ref a :: st)) := by
  obtain ⟨⟨L, X, N'⟩, eT, b, hZ, hx, ho, hlk, _, _⟩ := id P
  obtain ⟨cl, Ar, S, hN, H⟩ := A
  obtain ⟨q1, q2⟩ := in_of S hj hi
  subst hp hv
  exact Done.step (fun t kk => X.daload hx (by rw [eT]; exact Ar.1) (State.isArrayOf_alike hZ.alike Ar.2.1) Ar.2.2 q1 (by rw [q2]; exact H i hi) (g := mkF m pc Ls (.int j :: .ref a :: st)) rfl rfl hd t kk) K
theorem wIaload {N i : Nat} {f : Nat → Value} {a : Addr} {j : Int32} (P : Pos p l e R s m args below meth c Z own ws bd T h k n) (A : Ar Z h a .int N f) (hj : j.toInt = (i : Int)) (hi : i < N) {v : Value} (hv : f i = v) (hd : decode c.code pc = .ok (.iaload, 1)) (hp : pc + 1 = pc')
    (K : Done p l e R s m args below meth c Z own ws bd Q T (mkF m pc' Ls (v :: st))) : Done p l e R s m args below meth c Z own ws bd Q T (mkF m pc Ls (.int j :: .ref a :: st)) := by
  obtain ⟨⟨L, X, N'⟩, eT, b, hZ, hx, ho, hlk, _, _⟩ := id P
  obtain ⟨cl, Ar, S, hN, H⟩ := A
  obtain ⟨q1, q2⟩ := in_of S hj hi
  subst hp hv
  exact Done.step (fun t kk => X.iaload hx (by rw [eT]; exact Ar.1) (State.isArrayOf_alike hZ.alike Ar.2.1) Ar.2.2 q1 (by rw [q2]; exact H i hi) (g := mkF m pc Ls (.int j :: .ref a :: st)) rfl rfl hd t kk) K
theorem wCaload {N i : Nat} {f : Nat → Value} {a : Addr} {j : Int32} (P : Pos p l e R s m args below meth c Z own ws bd T h k n) (A : Ar Z h a .char N f) (hj : j.toInt = (i : Int)) (hi : i < N) {v : Value} (hv : f i = v) (hd : decode c.code pc = .ok (.caload, 1)) (hp : pc + 1 = pc')
    (K : Done p l e R s m args below meth c Z own ws bd Q T (mkF m pc' Ls (v :: st))) : Done p l e R s m args below meth c Z own ws bd Q T (mkF m pc Ls (.int j :: .ref a :: st)) := by
  obtain ⟨⟨L, X, N'⟩, eT, b, hZ, hx, ho, hlk, _, _⟩ := id P
  obtain ⟨cl, Ar, S, hN, H⟩ := A
  obtain ⟨q1, q2⟩ := in_of S hj hi
  subst hp hv
  exact Done.step (fun t kk => X.caload hx (by rw [eT]; exact Ar.1) (State.isArrayOf_alike hZ.alike Ar.2.1) Ar.2.2 q1 (by rw [q2]; exact H i hi) (g := mkF m pc Ls (.int j :: .ref a :: st)) rfl rfl hd t kk) K
theorem wAaload {N i : Nat} {f : Nat → Value} {a : Addr} {j : Int32} {ty : FieldType} (P : Pos p l e R s m args below meth c Z own ws bd T h k n) (A : Ar Z h a ty N f) (hty : ty.isReference = true) (hj : j.toInt = (i : Int)) (hi : i < N) {v : Value} (hv : f i = v) (hd : decode c.code pc = .ok (.aaload, 1)) (hp : pc + 1 = pc')
    (K : Done p l e R s m args below meth c Z own ws bd Q T (mkF m pc' Ls (v :: st))) : Done p l e R s m args below meth c Z own ws bd Q T (mkF m pc Ls (.int j :: .ref a :: st)) := by
  obtain ⟨⟨L, X, N'⟩, eT, b, hZ, hx, ho, hlk, _, _⟩ := id P
  obtain ⟨cl, Ar, S, hN, H⟩ := A
  obtain ⟨q1, q2⟩ := in_of S hj hi
  subst hp hv
  exact Done.step (fun t kk => X.aaload hx (by rw [eT]; exact Ar.1) (State.isArrayOf_alike hZ.alike Ar.2.1) hty Ar.2.2 q1 (by rw [q2]; exact H i hi) (g := mkF m pc Ls (.int j :: .ref a :: st)) rfl rfl hd t kk) K
theorem Ar.set {cl : Cell} {a : Addr} {ty : FieldType} {N i : Nat} {f : Nat → Value} {v : Value} (A : Arr Z h a cl ty) (S : cl.slots.size = N) (hN : N < 2147483648) (H : ∀ i, i < N → cl.slots[i]? = some (f i)) (hi : i < N) (W : Wr h h' a i v) : Ar Z h' a ty N (oupd f i v) := by
  refine ⟨cl.setSlot i v, A.same W, by rw [sz_set]; exact S, hN, fun j hj => ?_⟩
  by_cases q : j = i
  · subst q; rw [oupd_same]; exact Cell.slots_setSlot_self v (by omega)
  · rw [oupd_ne q, Cell.slots_setSlot_ne v (Ne.symm q)]; exact H j hj
theorem wDastore {N i : Nat} {f : Nat → UInt64} {a : Addr} {j : Int32} {x : UInt64} (P : Pos p l e R s m args below meth c Z own ws bd T h k n) (A : Ar Z h a .double N (fun i => .double (f i))) (hj : j.toInt = (i : Int)) (hi : i < N) (hge : a ∈ ws ∨ bd ≤ a) (hd : decode c.code pc = .ok (.dastore, 1)) (hp : pc + 1 = pc')
    (K : ∀ T' h', Pos p l e R s m args below meth c Z own ws bd T' h' k n → Wr h h' a i (.double x) → Ar Z h' a .double N (fun j => .double (oupd f i x j)) → Done p l e R s m args below meth c Z own ws bd Q T' (mkF m pc' Ls st)) : Done p l e R s m args below meth c Z own ws bd Q T (mkF m pc Ls (.double x :: .int j :: .ref a :: st)) := by
  obtain ⟨⟨L, X, N'⟩, eT, b, hZ, hx, ho, r⟩ := id P
  obtain ⟨cl, Ar', S, hN, H⟩ := A
  obtain ⟨q1, q2⟩ := in_of S hj hi
  obtain ⟨T', h', X', e', W, stp⟩ := stD X hx hZ eT Ar' q1 (g := mkF m pc Ls (.double x :: .int j :: .ref a :: st)) rfl rfl hd
  subst hp
  rw [q2] at W
  refine Done.step stp (K T' h' ⟨⟨_, X', Fw.snoc N' hge⟩, e', by rw [W.size]; exact b, hZ, hx, ho, r⟩ W ((Ar.set Ar' S hN H hi W).congr fun j _ => ?_))
  unfold oupd; split <;> rfl
theorem wIastore {N i : Nat} {f : Nat → Int32} {a : Addr} {j : Int32} {x : Int32} (P : Pos p l e R s m args below meth c Z own ws bd T h k n) (A : Ar Z h a .int N (fun i => .int (f i))) (hj : j.toInt = (i : Int)) (hi : i < N) (hge : a ∈ ws ∨ bd ≤ a) (hd : decode c.code pc = .ok (.iastore, 1)) (hp : pc + 1 = pc')
    (K : ∀ T' h', Pos p l e R s m args below meth c Z own ws bd T' h' k n → Wr h h' a i (.int x) → Ar Z h' a .int N (fun j => .int (oupd f i x j)) → Done p l e R s m args below meth c Z own ws bd Q T' (mkF m pc' Ls st)) : Done p l e R s m args below meth c Z own ws bd Q T (mkF m pc Ls (.int x :: .int j :: .ref a :: st)) := by
  obtain ⟨⟨L, X, N'⟩, eT, b, hZ, hx, ho, r⟩ := id P
  obtain ⟨cl, Ar', S, hN, H⟩ := A
  obtain ⟨q1, q2⟩ := in_of S hj hi
  obtain ⟨T', h', X', e', W, stp⟩ := stI X hx hZ eT Ar' q1 (g := mkF m pc Ls (.int x :: .int j :: .ref a :: st)) rfl rfl hd
  subst hp
  rw [q2] at W
  refine Done.step stp (K T' h' ⟨⟨_, X', Fw.snoc N' hge⟩, e', by rw [W.size]; exact b, hZ, hx, ho, r⟩ W ((Ar.set Ar' S hN H hi W).congr fun j _ => ?_))
  unfold oupd; split <;> rfl
theorem wCastore {N i : Nat} {f : Nat → Int32} {a : Addr} {j : Int32} {x : Int32} (P : Pos p l e R s m args below meth c Z own ws bd T h k n) (A : Ar Z h a .char N (fun i => .int (f i))) (hj : j.toInt = (i : Int)) (hi : i < N) (hge : a ∈ ws ∨ bd ≤ a) (hd : decode c.code pc = .ok (.castore, 1)) (hp : pc + 1 = pc')
    (K : ∀ T' h', Pos p l e R s m args below meth c Z own ws bd T' h' k n → Wr h h' a i (.int (nar .char x)) → Ar Z h' a .char N (fun j => .int (oupd f i (nar .char x) j)) → Done p l e R s m args below meth c Z own ws bd Q T' (mkF m pc' Ls st)) : Done p l e R s m args below meth c Z own ws bd Q T (mkF m pc Ls (.int x :: .int j :: .ref a :: st)) := by
  obtain ⟨⟨L, X, N'⟩, eT, b, hZ, hx, ho, r⟩ := id P
  obtain ⟨cl, Ar', S, hN, H⟩ := A
  obtain ⟨q1, q2⟩ := in_of S hj hi
  obtain ⟨T', h', X', e', W, stp⟩ := stC X hx hZ eT Ar' q1 (g := mkF m pc Ls (.int x :: .int j :: .ref a :: st)) rfl rfl hd
  subst hp
  rw [q2] at W
  refine Done.step stp (K T' h' ⟨⟨_, X', Fw.snoc N' hge⟩, e', by rw [W.size]; exact b, hZ, hx, ho, r⟩ W ((Ar.set Ar' S hN H hi W).congr fun j _ => ?_))
  unfold oupd; split <;> rfl
theorem wBastore {N i : Nat} {f : Nat → Int32} {a : Addr} {j : Int32} {x : Int32} (P : Pos p l e R s m args below meth c Z own ws bd T h k n) (A : Ar Z h a .byte N (fun i => .int (f i))) (hj : j.toInt = (i : Int)) (hi : i < N) (hge : a ∈ ws ∨ bd ≤ a) (hd : decode c.code pc = .ok (.bastore, 1)) (hp : pc + 1 = pc')
    (K : ∀ T' h', Pos p l e R s m args below meth c Z own ws bd T' h' k n → Wr h h' a i (.int (nar .byte x)) → Ar Z h' a .byte N (fun j => .int (oupd f i (nar .byte x) j)) → Done p l e R s m args below meth c Z own ws bd Q T' (mkF m pc' Ls st)) : Done p l e R s m args below meth c Z own ws bd Q T (mkF m pc Ls (.int x :: .int j :: .ref a :: st)) := by
  obtain ⟨⟨L, X, N'⟩, eT, b, hZ, hx, ho, r⟩ := id P
  obtain ⟨cl, Ar', S, hN, H⟩ := A
  obtain ⟨q1, q2⟩ := in_of S hj hi
  obtain ⟨T', h', X', e', W, stp⟩ := stB X hx hZ eT Ar' q1 (g := mkF m pc Ls (.int x :: .int j :: .ref a :: st)) rfl rfl hd
  subst hp
  rw [q2] at W
  refine Done.step stp (K T' h' ⟨⟨_, X', Fw.snoc N' hge⟩, e', by rw [W.size]; exact b, hZ, hx, ho, r⟩ W ((Ar.set Ar' S hN H hi W).congr fun j _ => ?_))
  unfold oupd; split <;> rfl
theorem wZastore {N i : Nat} {f : Nat → Int32} {a : Addr} {j : Int32} {x : Int32} (P : Pos p l e R s m args below meth c Z own ws bd T h k n) (A : Ar Z h a .boolean N (fun i => .int (f i))) (hj : j.toInt = (i : Int)) (hi : i < N) (hge : a ∈ ws ∨ bd ≤ a) (hd : decode c.code pc = .ok (.bastore, 1)) (hp : pc + 1 = pc')
    (K : ∀ T' h', Pos p l e R s m args below meth c Z own ws bd T' h' k n → Wr h h' a i (.int (nar .boolean x)) → Ar Z h' a .boolean N (fun j => .int (oupd f i (nar .boolean x) j)) → Done p l e R s m args below meth c Z own ws bd Q T' (mkF m pc' Ls st)) : Done p l e R s m args below meth c Z own ws bd Q T (mkF m pc Ls (.int x :: .int j :: .ref a :: st)) := by
  obtain ⟨⟨L, X, N'⟩, eT, b, hZ, hx, ho, r⟩ := id P
  obtain ⟨cl, Ar', S, hN, H⟩ := A
  obtain ⟨q1, q2⟩ := in_of S hj hi
  obtain ⟨T', h', X', e', W, stp⟩ := stZ X hx hZ eT Ar' q1 (g := mkF m pc Ls (.int x :: .int j :: .ref a :: st)) rfl rfl hd
  subst hp
  rw [q2] at W
  refine Done.step stp (K T' h' ⟨⟨_, X', Fw.snoc N' hge⟩, e', by rw [W.size]; exact b, hZ, hx, ho, r⟩ W ((Ar.set Ar' S hN H hi W).congr fun j _ => ?_))
  unfold oupd; split <;> rfl
theorem wBaload {N i : Nat} {f : Nat → Value} {a : Addr} {j : Int32} (P : Pos p l e R s m args below meth c Z own ws bd T h k n) (A : Ar Z h a .byte N f) (hj : j.toInt = (i : Int)) (hi : i < N) {v : Value} (hv : f i = v) (hd : decode c.code pc = .ok (.baload, 1)) (hp : pc + 1 = pc')
    (K : Done p l e R s m args below meth c Z own ws bd Q T (mkF m pc' Ls (v :: st))) : Done p l e R s m args below meth c Z own ws bd Q T (mkF m pc Ls (.int j :: .ref a :: st)) := by
  obtain ⟨⟨L, X, N'⟩, eT, b, hZ, hx, ho, hlk, _, _⟩ := id P
  obtain ⟨cl, Ar, S, hN, H⟩ := A
  obtain ⟨q1, q2⟩ := in_of S hj hi
  subst hp hv
  exact Done.step (fun t kk => X.baloadBytes hx (by rw [eT]; exact Ar.1) (State.isArrayOf_alike hZ.alike Ar.2.1) Ar.2.2 q1 (by rw [q2]; exact H i hi) (g := mkF m pc Ls (.int j :: .ref a :: st)) rfl rfl hd t kk) K
theorem staKeep {C nm d : String} {v : Value} {ws' : List Addr} (F : Sta Z h C nm d v) (K : Keep h h' ws') (hw : ∀ x ∈ ws', ∀ cell : Cell, h[x]? = some cell → cell.vm.isStatics = false) : Sta Z h' C nm d v := by
  obtain ⟨cf, i, k, f, st, cell, h1, h2, h3, h4, h5, h6, r⟩ := F
  exact ⟨cf, i, k, f, st, cell, h1, h2, h3, h4, K.2.1 _ _ h5 (fun q => by rw [hw _ q _ h5] at h6; cases h6), h6, r⟩
theorem wCast {K : String} {index : Nat} {a : Addr} (P : Pos p l e R s m args below meth c Z own ws bd T h k n) (w : (Cond.classLink own index K).before a0 Z = true) (F : Ins Z h a K true) (hd : decode c.code pc = .ok (.checkcast index, 3)) (hp : pc + 3 = pc')
    (K' : ∀ T', Pos p l e R s m args below meth c Z own ws bd T' h k n → Done p l e R s m args below meth c Z own ws bd Q T' (mkF m pc' Ls (.ref a :: st))) : Done p l e R s m args below meth c Z own ws bd Q T (mkF m pc Ls (.ref a :: st)) := by
  obtain ⟨⟨L, X, N'⟩, eT, b, hZ, hx, ho, r⟩ := id P
  obtain ⟨T', X', e', stp⟩ := castY X hx hZ ho w eT F (g := mkF m pc Ls (.ref a :: st)) rfl rfl hd
  subst hp
  exact Done.step stp (K' T' ⟨⟨L, X', N'⟩, e', b, hZ, hx, ho, r⟩)
theorem wInstY {K : String} {index : Nat} {a : Addr} (P : Pos p l e R s m args below meth c Z own ws bd T h k n) (w : (Cond.classLink own index K).before a0 Z = true) (F : Ins Z h a K true) (hd : decode c.code pc = .ok (.instanceof index, 3)) (hp : pc + 3 = pc')
    (K' : ∀ T', Pos p l e R s m args below meth c Z own ws bd T' h k n → Done p l e R s m args below meth c Z own ws bd Q T' (mkF m pc' Ls (.int 1 :: st))) : Done p l e R s m args below meth c Z own ws bd Q T (mkF m pc Ls (.ref a :: st)) := by
  obtain ⟨⟨L, X, N'⟩, eT, b, hZ, hx, ho, r⟩ := id P
  obtain ⟨T', X', e', stp⟩ := instY X hx hZ ho w eT F (g := mkF m pc Ls (.ref a :: st)) rfl rfl hd
  subst hp
  exact Done.step stp (K' T' ⟨⟨L, X', N'⟩, e', b, hZ, hx, ho, r⟩)
theorem wInstN {K C : String} {index : Nat} {a : Addr} (P : Pos p l e R s m args below meth c Z own ws bd T h k n) (w : (Cond.classLink own index K).before a0 Z = true) (E : Exa Z h a C) (F : ∃ c t, Z.vm.findClass C = some c ∧ Z.vm.findClass K = some t ∧ Z.vm.assignable c t = false) (hd : decode c.code pc = .ok (.instanceof index, 3)) (hp : pc + 3 = pc')
    (K' : ∀ T', Pos p l e R s m args below meth c Z own ws bd T' h k n → Done p l e R s m args below meth c Z own ws bd Q T' (mkF m pc' Ls (.int 0 :: st))) : Done p l e R s m args below meth c Z own ws bd Q T (mkF m pc Ls (.ref a :: st)) := by
  obtain ⟨⟨L, X, N'⟩, eT, b, hZ, hx, ho, r⟩ := id P
  obtain ⟨T', X', e', stp⟩ := instNo X hx hZ ho w eT E F (g := mkF m pc Ls (.ref a :: st)) rfl rfl hd
  subst hp
  exact Done.step stp (K' T' ⟨⟨L, X', N'⟩, e', b, hZ, hx, ho, r⟩)
theorem wInst0 {index : Nat} (P : Pos p l e R s m args below meth c Z own ws bd T h k n) (hd : decode c.code pc = .ok (.instanceof index, 3)) (hp : pc + 3 = pc') (D : Done p l e R s m args below meth c Z own ws bd Q T (mkF m pc' Ls (.int 0 :: st))) : Done p l e R s m args below meth c Z own ws bd Q T (mkF m pc Ls (.null :: st)) := by
  obtain ⟨⟨L, X, N'⟩, eT, b, hZ, hx, ho, r⟩ := id P
  subst hp
  exact Done.step (Jvm.Stand.instanceofNull X hx (g := mkF m pc Ls (.null :: st)) rfl rfl hd) D
/-! calls -/
theorem wInit {index : Nat} {a : Addr} {W : Nat} (P : Pos p l e R s m args below meth c Z own ws bd T h k n) (w1 : (Cond.methodLink own index Lib.objectInit).before a0 Z = true) (w2 : (Cond.instanceMethod Lib.objectInit).before a0 Z = true) (w3 : (Cond.code Lib.objectInit ⟨#[0xb1]⟩ 1 none).before a0 Z = true) (hml : Ls.size = c.maxLocals)
    (hd : decode c.code pc = .ok (.invokespecial index, 3)) (hf : 1 ≤ R.frames) (hW : (st.map fun v => v.category).sum ≤ W) (hl : W + 12 ≤ R.locals) (hp : pc + 3 = pc')
    (K : ∀ T', Pos p l e R s m args below meth c Z own ws bd T' h k n → Done p l e R s m args below meth c Z own ws bd Q T' (mkF m pc' Ls st)) : Done p l e R s m args below meth c Z own ws bd Q T (mkF m pc Ls (.ref a :: st)) := by
  obtain ⟨⟨L, X, N'⟩, eT, b, hZ, hx, ho, r⟩ := id P
  obtain ⟨T', X', e', stp⟩ := initO X hx hZ ho w1 w2 w3 eT (g := mkF m pc Ls (.ref a :: st)) rfl hml rfl hd hf (W := W) (by show 2 * 0 + _ ≤ _; omega) hl
  subst hp
  exact Done.step stp (K T' ⟨⟨L, X', N'⟩, e', b, hZ, hx, ho, r⟩)
theorem wCallS {y : MethodName} {bytes : ByteArray} {maxL : Nat} {ret : Option FieldType} {rm : Room} {as' : Array Value} {ws' : List Addr} {Q' : Option Value → Heap → Prop} {index W : Nat} {argsL rest stk : List Value} (P : Pos p l e R s m args below meth c Z own ws bd T h k n) (M : OMet l y bytes maxL ret [] rm Z h ws' as' Q')
    (w1 : (Cond.methodLink own index y).before a0 Z = true) (w2 : (Cond.static y).before a0 Z = true) (w3 : (Cond.initialized y.cls).before a0 Z = true) (w4 : (Cond.code y bytes maxL ret).before a0 Z = true) (hy : y.cls ≠ "java/lang/invoke/MethodHandle" ∧ y.cls ≠ "java/lang/invoke/VarHandle") (hml : Ls.size = c.maxLocals)
    (hlen : ∀ sig, parseMethodDescriptor y.desc = some sig → argsL.length = sig.parameters.length) (has : (argsL).toArray = as') (hst : stk = argsL.reverse ++ rest) (hW : (rest.map fun v => v.category).sum ≤ W) (hf : rm.frames + 1 ≤ R.frames) (hl : W + (maxL + 11) + rm.locals ≤ R.locals) (hc : k + rm.cells ≤ R.cells) (hs : n + rm.slots ≤ R.slots)
    (hws : ∀ x ∈ ws', x ∈ ws ∨ bd ≤ x) (hd : decode c.code pc = .ok (.invokestatic index, 3)) (hp : pc + 3 = pc') {k' n' : Nat} (hk' : k + rm.cells = k') (hn' : n + rm.slots = n')
    (K : ∀ T' h' v, Pos p l e R s m args below meth c Z own ws bd T' h' k' n' → Keep h h' ws' → Q' v h' → Done p l e R s m args below meth c Z own ws bd Q T' (mkF m pc' Ls (v.toList ++ rest))) : Done p l e R s m args below meth c Z own ws bd Q T (mkF m pc Ls stk) := by
  obtain ⟨⟨L, X, N'⟩, eT, b, hZ, hx, ho, hlk, _, _⟩ := id P
  subst hst has hp hk' hn'
  obtain ⟨v, _, ⟨T', L', k1, n1⟩, -, X', ⟨Lc, hq, l', y', z'⟩, stp⟩ := Jvm.LawKit.callS X hx (y := y) ho (mvT hZ w1) (mvT hZ w2) (mvT hZ w3) (mvT hZ w4) hy (backOf (W := W) (Q := fun v h' L => Q' v h' ∧ Fw ws' h.size L ∧ Keep h h' ws') M hZ w4 w3 hf hl) (g := mkF m pc Ls (argsL.reverse ++ rest)) rfl hml (argsL := argsL) (rest := rest) hlen rfl (by show 2 * 0 + _ ≤ _; omega) hd (fun _ _ => ⟨rfl, eT, hc, hs⟩)
  dsimp only [Pt.U, Pt.locs, Pt.cells, Pt.slots] at X' l' y' z' stp hq
  subst l' y' z'
  exact Done.step (stp) (K T' T'.heap v ⟨⟨_, X', N'.app fun y hy => (hq.2.1 y hy).elim (fun q => hws _ q) (fun q => Or.inr (Nat.le_trans b q))⟩, rfl, Nat.le_trans b hq.2.2.1, hZ, hx, ho, hlk, hc, hs⟩ hq.2.2 hq.1)
theorem wCallI {y : MethodName} {bytes : ByteArray} {maxL : Nat} {rm : Room} {as' : Array Value} {ws' : List Addr} {Q' : Option Value → Heap → Prop} {index W : Nat} {argsL rest stk : List Value} {a : Addr} (P : Pos p l e R s m args below meth c Z own ws bd T h k n) (M : OMet l y bytes maxL none [] rm Z h ws' as' Q')
    (hyn : y.name = "<init>") (w1 : (Cond.methodLink own index y).before a0 Z = true) (w2 : (Cond.instanceMethod y).before a0 Z = true) (w3 : (Cond.initialized y.cls).before a0 Z = true) (w4 : (Cond.code y bytes maxL none).before a0 Z = true) (hy : y.cls ≠ "java/lang/invoke/MethodHandle" ∧ y.cls ≠ "java/lang/invoke/VarHandle") (hml : Ls.size = c.maxLocals)
    (hlen : ∀ sig, parseMethodDescriptor y.desc = some sig → argsL.length = sig.parameters.length) (has : (.ref a :: argsL).toArray = as') (hst : stk = argsL.reverse ++ .ref a :: rest) (hW : (rest.map fun v => v.category).sum ≤ W) (hf : rm.frames + 1 ≤ R.frames) (hl : W + (maxL + 11) + rm.locals ≤ R.locals) (hc : k + rm.cells ≤ R.cells) (hs : n + rm.slots ≤ R.slots)
    (hws : ∀ x ∈ ws', x ∈ ws ∨ bd ≤ x) (hd : decode c.code pc = .ok (.invokespecial index, 3)) (hp : pc + 3 = pc') {k' n' : Nat} (hk' : k + rm.cells = k') (hn' : n + rm.slots = n')
    (K : ∀ T' h' v, Pos p l e R s m args below meth c Z own ws bd T' h' k' n' → Keep h h' ws' → Q' v h' → Done p l e R s m args below meth c Z own ws bd Q T' (mkF m pc' Ls (v.toList ++ rest))) : Done p l e R s m args below meth c Z own ws bd Q T (mkF m pc Ls stk) := by
  obtain ⟨⟨L, X, N'⟩, eT, b, hZ, hx, ho, hlk, _, _⟩ := id P
  subst hst has hp hk' hn'
  obtain ⟨v, _, ⟨T', L', k1, n1⟩, -, X', ⟨Lc, hq, l', y', z'⟩, stp⟩ := X.specialBack hx (y := y) hyn ho (mvT hZ w1) (mvT hZ w2) (mvT hZ w4) hy (backOf (W := W) (Q := fun v h' L => Q' v h' ∧ Fw ws' h.size L ∧ Keep h h' ws') M hZ w4 w3 hf hl) (g := mkF m pc Ls (argsL.reverse ++ .ref a :: rest)) rfl hml (Steps.refl _) (a := a) (argsL := argsL) (rest := rest) hlen rfl (by show 2 * 0 + _ ≤ _; omega) hd (fun _ _ => ⟨rfl, eT, hc, hs⟩)
  dsimp only [Pt.U, Pt.locs, Pt.cells, Pt.slots] at X' l' y' z' stp hq
  subst l' y' z'
  exact Done.step (fun t kk => stp.trans kk) (K T' T'.heap v ⟨⟨_, X', N'.app fun y hy => (hq.2.1 y hy).elim (fun q => hws _ q) (fun q => Or.inr (Nat.le_trans b q))⟩, rfl, Nat.le_trans b hq.2.2.1, hZ, hx, ho, hlk, hc, hs⟩ hq.2.2 hq.1)
theorem wCallV {y : MethodName} {bytes : ByteArray} {maxL : Nat} {ret : Option FieldType} {rm : Room} {as' : Array Value} {ws' : List Addr} {Q' : Option Value → Heap → Prop} {index W : Nat} {argsL rest stk : List Value} {z : MethodName} {C : String} {a : Addr} (P : Pos p l e R s m args below meth c Z own ws bd T h k n) (M : OMet l z bytes maxL ret [] rm Z h ws' as' Q')
    (w1 : (Cond.methodLink own index y).before a0 Z = true) (w2 : (Cond.declares y).before a0 Z = true) (w5 : (Cond.selects C y z).before a0 Z = true) {D : String} (w7 : (Cond.selects D y y).before a0 Z = true) (w6 : (Cond.instanceMethod z).before a0 Z = true) (w3 : (Cond.initialized z.cls).before a0 Z = true) (w4 : (Cond.code z bytes maxL ret).before a0 Z = true) (hy : y.cls ≠ "java/lang/invoke/MethodHandle" ∧ y.cls ≠ "java/lang/invoke/VarHandle") (E : Exa Z h a C) (hml : Ls.size = c.maxLocals)
    (hlen : ∀ sig, parseMethodDescriptor y.desc = some sig → argsL.length = sig.parameters.length) (has : (.ref a :: argsL).toArray = as') (hst : stk = argsL.reverse ++ .ref a :: rest) (hW : (rest.map fun v => v.category).sum ≤ W) (hf : rm.frames + 1 ≤ R.frames) (hl : W + (maxL + 11) + rm.locals ≤ R.locals) (hc : k + rm.cells ≤ R.cells) (hs : n + rm.slots ≤ R.slots)
    (hws : ∀ x ∈ ws', x ∈ ws ∨ bd ≤ x) (hd : decode c.code pc = .ok (.invokevirtual index, 3)) (hp : pc + 3 = pc') {k' n' : Nat} (hk' : k + rm.cells = k') (hn' : n + rm.slots = n')
    (K : ∀ T' h' v, Pos p l e R s m args below meth c Z own ws bd T' h' k' n' → Keep h h' ws' → Q' v h' → Done p l e R s m args below meth c Z own ws bd Q T' (mkF m pc' Ls (v.toList ++ rest))) : Done p l e R s m args below meth c Z own ws bd Q T (mkF m pc Ls stk) := by
  obtain ⟨⟨L, X, N'⟩, eT, b, hZ, hx, ho, hlk, _, _⟩ := id P
  subst hst has hp hk' hn'
  obtain ⟨cq, kq, qa, qb, qc⟩ := isOf hZ eT E
  obtain ⟨v, _, ⟨T', L', k1, n1⟩, -, X', ⟨Lc, hq, l', y', z'⟩, stp⟩ := X.virtualBack hx (y := y) (z := z) ho (mvT hZ w1) (mvT hZ w2) (notFace_of_selects (args := #[]) (mvT hZ w7)) (mvT hZ w5) (mvT hZ w6) hy (backOf (W := W) (Q := fun v h' L => Q' v h' ∧ Fw ws' h.size L ∧ Keep h h' ws') M hZ w4 w3 hf hl) qa qc (g := mkF m pc Ls (argsL.reverse ++ .ref a :: rest)) rfl hml (Steps.refl _) (argsL := argsL) (rest := rest) hlen rfl (by show 2 * 0 + _ ≤ _; omega) hd (fun _ _ => ⟨rfl, eT, hc, hs⟩)
  dsimp only [Pt.U, Pt.locs, Pt.cells, Pt.slots] at X' l' y' z' stp hq
  subst l' y' z'
  exact Done.step (fun t kk => stp.trans kk) (K T' T'.heap v ⟨⟨_, X', N'.app fun y hy => (hq.2.1 y hy).elim (fun q => hws _ q) (fun q => Or.inr (Nat.le_trans b q))⟩, rfl, Nat.le_trans b hq.2.2.1, hZ, hx, ho, hlk, hc, hs⟩ hq.2.2 hq.1)
theorem wCallP {y : MethodName} {bytes : ByteArray} {maxL : Nat} {ret : Option FieldType} {rm : Room} {as' : Array Value} {ws' : List Addr} {Q' : Option Value → Heap → Prop} {index W kk : Nat} {argsL rest stk : List Value} {a : Addr} {C : String} (P : Pos p l e R s m args below meth c Z own ws bd T h k n) (M : OMet l y bytes maxL ret [] rm Z h ws' as' Q')
    (w1 : (Cond.methodLink own index y).before a0 Z = true) (w2 : (Cond.instanceMethod y).before a0 Z = true) (w5 : (Cond.privateMethod y).before a0 Z = true) (wi : (Cond.instantiable y.cls kk).before a0 Z = true) (w3 : (Cond.initialized y.cls).before a0 Z = true) (w4 : (Cond.code y bytes maxL ret).before a0 Z = true) (hy : y.cls ≠ "java/lang/invoke/MethodHandle" ∧ y.cls ≠ "java/lang/invoke/VarHandle") (E : Exa Z h a C) (hml : Ls.size = c.maxLocals)
    (hlen : ∀ sig, parseMethodDescriptor y.desc = some sig → argsL.length = sig.parameters.length) (has : (.ref a :: argsL).toArray = as') (hst : stk = argsL.reverse ++ .ref a :: rest) (hW : (rest.map fun v => v.category).sum ≤ W) (hf : rm.frames + 1 ≤ R.frames) (hl : W + (maxL + 11) + rm.locals ≤ R.locals) (hc : k + rm.cells ≤ R.cells) (hs : n + rm.slots ≤ R.slots)
    (hws : ∀ x ∈ ws', x ∈ ws ∨ bd ≤ x) (hd : decode c.code pc = .ok (.invokevirtual index, 3)) (hp : pc + 3 = pc') {k' n' : Nat} (hk' : k + rm.cells = k') (hn' : n + rm.slots = n')
    (K : ∀ T' h' v, Pos p l e R s m args below meth c Z own ws bd T' h' k' n' → Keep h h' ws' → Q' v h' → Done p l e R s m args below meth c Z own ws bd Q T' (mkF m pc' Ls (v.toList ++ rest))) : Done p l e R s m args below meth c Z own ws bd Q T (mkF m pc Ls stk) := by
  obtain ⟨⟨L, X, N'⟩, eT, b, hZ, hx, ho, hlk, _, _⟩ := id P
  subst hst has hp hk' hn'
  obtain ⟨cl, hcl, hst⟩ := E.cell
  have hpr : s.PrivateAt y := Cond.privateMethod_at (mvP hZ w5 (args := #[]))
  obtain ⟨ci, ki, hi1, hi2, -, hi3, -⟩ := Cond.instantiable_spec (mvT hZ wi : (Cond.instantiable y.cls kk).before args s = true)
  have hsel : (Cond.selects y.cls y y).before args s = true := selects_self_of_private hi1 hi2 (by simp only [Bool.or_eq_false_iff] at hi3; exact hi3.1) hpr (mvT hZ w2) hy
  obtain ⟨v, _, ⟨T', L', k1, n1⟩, -, X', ⟨Lc, hq, l', y', z'⟩, stp⟩ := X.privateBack hx (y := y) ho (mvT hZ w1) (mvT hZ w2) hsel hpr (mvT hZ w4) hy (backOf (W := W) (Q := fun v h' L => Q' v h' ∧ Fw ws' h.size L ∧ Keep h h' ws') M hZ w4 w3 hf hl) (g := mkF m pc Ls (argsL.reverse ++ .ref a :: rest)) rfl hml (Steps.refl _) (a := a) (by rw [eT]; exact hcl) hst (argsL := argsL) (rest := rest) hlen rfl (by show 2 * 0 + _ ≤ _; omega) hd (fun _ _ => ⟨rfl, eT, hc, hs⟩)
  dsimp only [Pt.U, Pt.locs, Pt.cells, Pt.slots] at X' l' y' z' stp hq
  subst l' y' z'
  exact Done.step (fun t kk => stp.trans kk) (K T' T'.heap v ⟨⟨_, X', N'.app fun y hy => (hq.2.1 y hy).elim (fun q => hws _ q) (fun q => Or.inr (Nat.le_trans b q))⟩, rfl, Nat.le_trans b hq.2.2.1, hZ, hx, ho, hlk, hc, hs⟩ hq.2.2 hq.1)
/-- a call that the machine answers itself -/
theorem wNat {y : MethodName} {by0 : ByteArray} {ml : Nat} {rt : Option FieldType} {index W : Nat} {F : Array Value → Prop} {val : Value} {argsL rest stk : List Value} (P : Pos p l e R s m args below meth c Z own ws bd T h k n)
    (w1 : (Cond.methodLink own index y).before a0 Z = true) (w2 : (Cond.static y).before a0 Z = true) (w3 : (Cond.initialized y.cls).before a0 Z = true) (w4 : (Cond.code y by0 ml rt).before a0 Z = true) (hy : y.cls ≠ "java/lang/invoke/MethodHandle" ∧ y.cls ≠ "java/lang/invoke/VarHandle")
    (hK : (Cond.code y by0 ml rt).before args s = true → Back l R p e below s args y 3 W (fun A a' => A.cells ≤ R.cells ∧ A.slots ≤ R.slots ∧ F a') (fun A _ v B => v = some val ∧ B = A)) (hml : Ls.size = c.maxLocals)
    (hlen : ∀ sig, parseMethodDescriptor y.desc = some sig → argsL.length = sig.parameters.length) (hst : stk = argsL.reverse ++ rest) (hW : (rest.map fun v => v.category).sum ≤ W) (hd : decode c.code pc = .ok (.invokestatic index, 3)) (hp : pc + 3 = pc') (hF : F argsL.toArray)
    (K : ∀ T', Pos p l e R s m args below meth c Z own ws bd T' h k n → Done p l e R s m args below meth c Z own ws bd Q T' (mkF m pc' Ls (val :: rest))) : Done p l e R s m args below meth c Z own ws bd Q T (mkF m pc Ls stk) := by
  obtain ⟨⟨L, X, N'⟩, eT, b, hZ, hx, ho, hlk, hc, hs⟩ := id P
  subst hst hp
  obtain ⟨T', X', e', stp⟩ := natS X hx hZ ho w1 w2 w3 w4 hy eT hK (g := mkF m pc Ls (argsL.reverse ++ rest)) rfl hml hlen rfl (by show 2 * 0 + _ ≤ _; omega) hd hc hs hF rfl
  exact Done.step stp (K T' ⟨⟨L, X', N'⟩, e', b, hZ, hx, ho, hlk, hc, hs⟩)
theorem Fw.toFr {bd : Nat} {L : List Loc} (N : Fw [] bd L) : Fr bd L := fun y hy => (N y hy).resolve_left (by simp)
theorem Fw.ofFr {ws : List Addr} {bd : Nat} {L : List Loc} (N : Fr bd L) : Fw ws bd L := fun y hy => Or.inr (N y hy)
theorem n32 {N : Nat} (h : N < 2147483648) : ¬ Int32.ofNat N < 0 ∧ (Int32.ofNat N).toNatClampNeg = N := by
  have e : (Int32.ofNat N).toInt = (N : Int) := Int32.toInt_ofNat_of_lt (by omega)
  refine ⟨?_, by rw [Int32.toNatClampNeg, e]; omega⟩
  rw [Int32.lt_iff_toInt_lt, e, show (0 : Int32).toInt = 0 from rfl]; omega
theorem Ar.toArv {a : Addr} {ty : FieldType} {N : Nat} {f : Nat → Value} (A : Ar Z h a ty N f) (dv : Value) (hf : ∀ i, fits ty (f i) = true) (hd : fits ty dv = true) : ∃ kA, Arv Z h a kA ty (Int32.ofNat N) ((List.range N).map f) dv := by
  obtain ⟨cl, Ar, S, hN, H⟩ := A
  have g : ∀ i, i < N → ((List.range N).map f).getD i dv = f i := fun i hi => by simp [List.getD_eq_getElem?_getD, hi]
  refine ⟨cl.cls, cl, Ar, rfl, by rw [(n32 hN).2, S], (n32 hN).1, fun i hi => ?_, fun i hi => ?_⟩
  · rw [g i (by omega)]; exact H i (by omega)
  · rw [g i (by omega)]; exact hf i
theorem Ar.ofArv {a : Addr} {ty : FieldType} {kA : ClassId} {N : Nat} {vs : List Value} {dv : Value} (hN : N < 2147483648) (A : Arv Z h a kA ty (Int32.ofNat N) vs dv) : Ar Z h a ty N (fun i => vs.getD i dv) := by
  obtain ⟨cl, Ar, -, S, -, H, -⟩ := A
  rw [(n32 hN).2] at S
  exact ⟨cl, Ar, S, hN, fun i hi => H i (by omega)⟩
/-- a copy of an array of doubles -/
theorem wClone {N cap index W : Nat} {f : Nat → UInt64} {a : Addr} (P : Pos p l e R s m args below meth c Z own ws bd T h k n) (A : Ar Z h a .double N (fun i => .double (f i))) (E : Exa Z h a "[D")
    (w1 : (Cond.methodLink own index ⟨"[D", "clone", "()Ljava/lang/Object;"⟩).before a0 Z = true) (w2 : (Cond.sameMethod "[D" "java/lang/Object" "clone" "()Ljava/lang/Object;").before a0 Z = true) (w3 : (Cond.native ⟨"java/lang/Object", "clone", "()Ljava/lang/Object;"⟩).before a0 Z = true)
    (w4 : (Cond.instanceMethod ⟨"java/lang/Object", "clone", "()Ljava/lang/Object;"⟩).before a0 Z = true) (w5 : (Cond.selects "[D" ⟨"[D", "clone", "()Ljava/lang/Object;"⟩ ⟨"java/lang/Object", "clone", "()Ljava/lang/Object;"⟩).before a0 Z = true) (w6 : (Cond.castable "[D" "java/lang/Cloneable").before a0 Z = true)
    (hml : Ls.size = c.maxLocals) (hd : decode c.code pc = .ok (.invokevirtual index, 3)) (hp : pc + 3 = pc') (hf : 1 ≤ R.frames) (hW : (st.map fun v => v.category).sum ≤ W) (hl : W + 14 ≤ R.locals) (hcap : N ≤ cap) (hc : k + 1 ≤ R.cells) (hsl : n + cap ≤ R.slots) {k' n' : Nat} (hk' : k + 1 = k') (hn' : n + cap = n')
    (K : ∀ T' h' b, b = h.size → h.size < h'.size → Pos p l e R s m args below meth c Z own ws bd T' h' k' n' → Ext h h' → Ar Z h' b .double N (fun i => .double (f i)) → Exa Z h' b "[D" → Done p l e R s m args below meth c Z own ws bd Q T' (mkF m pc' Ls (.ref b :: st))) : Done p l e R s m args below meth c Z own ws bd Q T (mkF m pc Ls (.ref a :: st)) := by
  obtain ⟨⟨L, X, N'⟩, eT, b, hZ, hx, ho, hlk, _, _⟩ := id P
  obtain ⟨cl, Ar, S, hN, H⟩ := A
  have FC : FitC Z cl := fitC_of Ar fun i hi v hv => by rw [H i (by omega)] at hv; cases hv; rfl
  obtain ⟨T', h', X', e', ex, A', E', stp⟩ := cloneA X hx hZ ho w1 w2 w3 w4 w5 w6 eT Ar E FC (g := mkF m pc Ls (.ref a :: st)) rfl hml rfl hd hf (W := W) (by show 2 * 0 + _ ≤ _; omega) hl (cap := cap) (by omega) hc hsl
  subst hp hk' hn'
  exact Done.step stp (K T' h' h.size rfl A'.lt ⟨⟨L, X', N'⟩, e', Nat.le_trans b ex.1, hZ, hx, ho, hlk, hc, hsl⟩ ex ⟨_, A', S, hN, H⟩ E')
/-- System.arraycopy of the first places of an array of doubles into a fresh one -/
theorem wCopyD {N M K0 index W : Nat} {f g : Nat → UInt64} {a b : Addr} {nn : Int32} (P : Pos p l e R s m args below meth c Z own [] bd T h k n) (A : Ar Z h a .double N (fun i => .double (f i))) (B : Ar Z h b .double M (fun i => .double (g i))) (hnn : nn.toInt = (K0 : Int)) (h1 : K0 ≤ N) (h2 : K0 ≤ M) (ge : bd ≤ b)
    (w1 : (Cond.methodLink own index Jvm.Stand.acN).before a0 Z = true) (w2 : (Cond.native Jvm.Stand.acN).before a0 Z = true) (w3 : (Cond.static Jvm.Stand.acN).before a0 Z = true) (w4 : (Cond.initialized "java/lang/System").before a0 Z = true)
    (hml : Ls.size = c.maxLocals) (hd : decode c.code pc = .ok (.invokestatic index, 3)) (hp : pc + 3 = pc') (hf : 1 ≤ R.frames) (hW : (st.map fun v => v.category).sum ≤ W) (hlo : W + (nativeFrameWords "java/lang/System" "arraycopy" 5 + 11) ≤ R.locals)
    (K : ∀ T' h', Pos p l e R s m args below meth c Z own [] bd T' h' k n → Keep h h' [b] → Ar Z h' b .double M (fun i => .double (if i < K0 then f i else g i)) → Done p l e R s m args below meth c Z own [] bd Q T' (mkF m pc' Ls st)) :
    Done p l e R s m args below meth c Z own [] bd Q T (mkF m pc Ls (.int nn :: .int 0 :: .ref b :: .int 0 :: .ref a :: st)) := by
  obtain ⟨⟨L, X, N'⟩, eT, hb', hZ, hx, ho, r⟩ := id P
  have hN := A.len
  have hM := B.len
  obtain ⟨kA, VA⟩ := A.toArv (.double 0) (fun _ => rfl) rfl
  obtain ⟨kB, VB⟩ := B.toArv (.double 0) (fun _ => rfl) rfl
  have z0 : ¬ (0 : Int32) < 0 := by decide
  have z1 : (0 : Int32).toNatClampNeg = 0 := by decide
  have q0 : ¬ nn < 0 := by rw [Int32.lt_iff_toInt_lt, hnn, show (0 : Int32).toInt = 0 from rfl]; omega
  have q1 : nn.toNatClampNeg = K0 := by rw [Int32.toNatClampNeg, hnn]; omega
  obtain ⟨T', h', L', X', e', F', Kp, V', stp⟩ := cpA X hx hZ ho w1 w2 w3 w4 eT VA VB (Or.inl ⟨rfl, rfl⟩) z0 z0 q0 (by rw [z1, q1, (n32 hN).2]; omega) (by rw [z1, q1, (n32 hM).2]; omega) rfl (by rw [z1, q1]; simp; omega) (n0 := bd) N'.toFr ge (g := mkF m pc Ls (.int nn :: .int 0 :: .ref b :: .int 0 :: .ref a :: st)) rfl hml rfl hd hf (W := W) (by show 2 * 0 + _ ≤ _; omega) hlo
  subst hp
  refine Done.step stp (K T' h' ⟨⟨L', X', Fw.ofFr F'⟩, e', Nat.le_trans hb' Kp.1, hZ, hx, ho, r⟩ Kp ((Ar.ofArv hM V').congr fun i hi => ?_))
  rw [z1, q1]
  by_cases q : i < K0
  · rw [if_pos q]
    simp [List.getD_eq_getElem?_getD, List.getElem?_append, q]
    rw [List.getElem?_range (by omega)]
    rfl
  · rw [if_neg q]
    simp [List.getD_eq_getElem?_getD, List.getElem?_append, q]
    have e2 : K0 + (i - K0) = i := by omega
    simp [e2, hi]
/-! constants and references -/
theorem pLdcI {index : Nat} {v : Int32} {t : State} (P : Pos p l e R s m args below meth c Z own ws bd T h k n) (w : (Cond.constant own index v).before a0 Z = true) (hd : decode c.code pc = .ok (.ldc index, 2)) (hp : pc + 2 = pc') (kk : Steps p.tables e below (T.setTop (mkF m pc' Ls (.int v :: st))) t) : Steps p.tables e below (T.setTop (mkF m pc Ls st)) t := by
  obtain ⟨⟨L, X, N'⟩, eT, b, hZ, hx, ho, hlk, _, _⟩ := id P
  subst hp
  exact X.ldcI hx ho (mvT hZ w) (g := mkF m pc Ls st) rfl hd kk
theorem pLdcIw {index : Nat} {v : Int32} {t : State} (P : Pos p l e R s m args below meth c Z own ws bd T h k n) (w : (Cond.constant own index v).before a0 Z = true) (hd : decode c.code pc = .ok (.ldc_w index, 3)) (hp : pc + 3 = pc') (kk : Steps p.tables e below (T.setTop (mkF m pc' Ls (.int v :: st))) t) : Steps p.tables e below (T.setTop (mkF m pc Ls st)) t := by
  obtain ⟨⟨L, X, N'⟩, eT, b, hZ, hx, ho, hlk, _, _⟩ := id P
  subst hp
  exact X.ldcWI hx ho (mvT hZ w) (g := mkF m pc Ls st) rfl hd kk
theorem pLdcJ {index : Nat} {v : Int64} {t : State} (P : Pos p l e R s m args below meth c Z own ws bd T h k n) (w : (Cond.constantLong own index v).before a0 Z = true) (hd : decode c.code pc = .ok (.ldc2_w index, 3)) (hp : pc + 3 = pc') (kk : Steps p.tables e below (T.setTop (mkF m pc' Ls (.long v :: st))) t) : Steps p.tables e below (T.setTop (mkF m pc Ls st)) t := by
  obtain ⟨⟨L, X, N'⟩, eT, b, hZ, hx, ho, hlk, _, _⟩ := id P
  subst hp
  exact X.ldc2J hx ho (mvT hZ w) (g := mkF m pc Ls st) rfl hd kk
theorem pLdcD {index : Nat} {v : UInt64} {t : State} (P : Pos p l e R s m args below meth c Z own ws bd T h k n) (w : (Cond.constantDouble own index v).before a0 Z = true) (hd : decode c.code pc = .ok (.ldc2_w index, 3)) (hp : pc + 3 = pc') (kk : Steps p.tables e below (T.setTop (mkF m pc' Ls (.double v :: st))) t) : Steps p.tables e below (T.setTop (mkF m pc Ls st)) t := by
  obtain ⟨⟨L, X, N'⟩, eT, b, hZ, hx, ho, hlk, _, _⟩ := id P
  subst hp
  exact X.ldc2DoubleC hx ho (mvT hZ w) (g := mkF m pc Ls st) rfl hd t kk
theorem pAcmp {cd : ACond} {x y : Value} {rest stk : List Value} {o : Int} {pc0 : Nat} {same : Bool} {t : State} (P : Pos p l e R s m args below meth c Z own ws bd T h k n) (h1 : x.isRef = true) (h2 : y.isRef = true) (hpc : pc = pc0) (hd : decode c.code pc = .ok (.if_acmp cd o, 3)) (hs : stk = y :: x :: rest) (hq : decide (x = y) = same) (ho : 0 ≤ (pc0 : Int) + o)
    (hp : pc' = if acV cd same = true then ((pc0 : Int) + o).toNat else pc0 + 3) (kk : Steps p.tables e below (T.setTop (mkF m pc' Ls rest)) t) : Steps p.tables e below (T.setTop (mkF m pc Ls stk)) t := by
  obtain ⟨⟨L, X, N'⟩, eT, b, hZ, hx, ho', hlk, _, _⟩ := id P
  exact Jvm.RoadKit.acmp (g := mkF m pc Ls stk) X hx rfl h1 h2 (pc0 := pc0) (pc' := pc') (same := same) hpc hd hs hq ho hp kk
end A
/-! conditions of branches -/
theorem iiW_lt_t {x y : Int32} (h : x < y) : if_icmp.holds .lt x y = true := (tlt h).1
theorem iiW_lt_f {x y : Int32} (h : ¬ (x < y)) : if_icmp.holds .lt x y = false := (flt h).1
theorem iiW_ge_t {x y : Int32} (h : ¬ (x < y)) : if_icmp.holds .ge x y = true := (flt h).2.1
theorem iiW_ge_f {x y : Int32} (h : ¬ ¬ (x < y)) : if_icmp.holds .ge x y = false := (tlt (Decidable.not_not.mp h)).2.1
theorem iiW_gt_t {x y : Int32} (h : y < x) : if_icmp.holds .gt x y = true := (tlt h).2.2.1
theorem iiW_gt_f {x y : Int32} (h : ¬ (y < x)) : if_icmp.holds .gt x y = false := (flt h).2.2.1
theorem iiW_le_t {x y : Int32} (h : ¬ (y < x)) : if_icmp.holds .le x y = true := (flt h).2.2.2
theorem iiW_le_f {x y : Int32} (h : ¬ ¬ (y < x)) : if_icmp.holds .le x y = false := (tlt (Decidable.not_not.mp h)).2.2.2
theorem iiW_eq_t {x y : Int32} (h : x = y) : if_icmp.holds .eq x y = true := (teq h).1
theorem iiW_eq_f {x y : Int32} (h : ¬ (x = y)) : if_icmp.holds .eq x y = false := (feq h).1
theorem iiW_ne_t {x y : Int32} (h : ¬ (x = y)) : if_icmp.holds .ne x y = true := (feq h).2
theorem iiW_ne_f {x y : Int32} (h : ¬ ¬ (x = y)) : if_icmp.holds .ne x y = false := (teq (Decidable.not_not.mp h)).2
theorem i0W_lt_t {x : Int32} (h : x < (0 : Int32)) : ifCond.holds .lt x = true := (if0 _ _).trans (iiW_lt_t h)
theorem i0W_lt_f {x : Int32} (h : ¬ (x < (0 : Int32))) : ifCond.holds .lt x = false := (if0 _ _).trans (iiW_lt_f h)
theorem i0W_ge_t {x : Int32} (h : ¬ (x < (0 : Int32))) : ifCond.holds .ge x = true := (if0 _ _).trans (iiW_ge_t h)
theorem i0W_ge_f {x : Int32} (h : ¬ ¬ (x < (0 : Int32))) : ifCond.holds .ge x = false := (if0 _ _).trans (iiW_ge_f h)
theorem i0W_gt_t {x : Int32} (h : (0 : Int32) < x) : ifCond.holds .gt x = true := (if0 _ _).trans (iiW_gt_t h)
theorem i0W_gt_f {x : Int32} (h : ¬ ((0 : Int32) < x)) : ifCond.holds .gt x = false := (if0 _ _).trans (iiW_gt_f h)
theorem i0W_le_t {x : Int32} (h : ¬ ((0 : Int32) < x)) : ifCond.holds .le x = true := (if0 _ _).trans (iiW_le_t h)
theorem i0W_le_f {x : Int32} (h : ¬ ¬ ((0 : Int32) < x)) : ifCond.holds .le x = false := (if0 _ _).trans (iiW_le_f h)
theorem i0W_eq_t {x : Int32} (h : x = (0 : Int32)) : ifCond.holds .eq x = true := (if0 _ _).trans (iiW_eq_t h)
theorem i0W_eq_f {x : Int32} (h : ¬ (x = (0 : Int32))) : ifCond.holds .eq x = false := (if0 _ _).trans (iiW_eq_f h)
theorem i0W_ne_t {x : Int32} (h : ¬ (x = (0 : Int32))) : ifCond.holds .ne x = true := (if0 _ _).trans (iiW_ne_t h)
theorem i0W_ne_f {x : Int32} (h : ¬ ¬ (x = (0 : Int32))) : ifCond.holds .ne x = false := (if0 _ _).trans (iiW_ne_f h)
theorem lcW_lt_t {x y : Int64} (h : x < y) : ifCond.holds .lt (lcmpW x y) = true := i0W_lt_t ((lw_lt x y).mpr h)
theorem lcW_lt_f {x y : Int64} (h : ¬ (x < y)) : ifCond.holds .lt (lcmpW x y) = false := i0W_lt_f fun q => h ((lw_lt x y).mp q)
theorem lcW_ge_t {x y : Int64} (h : ¬ (x < y)) : ifCond.holds .ge (lcmpW x y) = true := i0W_ge_t fun q => h ((lw_lt x y).mp q)
theorem lcW_ge_f {x y : Int64} (h : ¬ ¬ (x < y)) : ifCond.holds .ge (lcmpW x y) = false := i0W_ge_f fun q => h fun z => q ((lw_lt x y).mpr z)
theorem lcW_gt_t {x y : Int64} (h : y < x) : ifCond.holds .gt (lcmpW x y) = true := i0W_gt_t ((lw_gt x y).mpr h)
theorem lcW_gt_f {x y : Int64} (h : ¬ (y < x)) : ifCond.holds .gt (lcmpW x y) = false := i0W_gt_f fun q => h ((lw_gt x y).mp q)
theorem lcW_le_t {x y : Int64} (h : ¬ (y < x)) : ifCond.holds .le (lcmpW x y) = true := i0W_le_t fun q => h ((lw_gt x y).mp q)
theorem lcW_le_f {x y : Int64} (h : ¬ ¬ (y < x)) : ifCond.holds .le (lcmpW x y) = false := i0W_le_f fun q => h fun z => q ((lw_gt x y).mpr z)
theorem lcW_eq_t {x y : Int64} (h : x = y) : ifCond.holds .eq (lcmpW x y) = true := i0W_eq_t ((lw_eq x y).mpr h)
theorem lcW_eq_f {x y : Int64} (h : ¬ (x = y)) : ifCond.holds .eq (lcmpW x y) = false := i0W_eq_f fun q => h ((lw_eq x y).mp q)
theorem lcW_ne_t {x y : Int64} (h : ¬ (x = y)) : ifCond.holds .ne (lcmpW x y) = true := i0W_ne_t fun q => h ((lw_eq x y).mp q)
theorem lcW_ne_f {x y : Int64} (h : ¬ ¬ (x = y)) : ifCond.holds .ne (lcmpW x y) = false := i0W_ne_f fun q => h fun z => q ((lw_eq x y).mpr z)
/-- how two whole numbers compare, as dcmp pushes it -/
def cmpZ (i j : Int) : Int32 := if i < j then -1 else if i = j then 0 else 1
theorem cmpZ_lt (i j : Int) : cmpZ i j < (0 : Int32) ↔ i < j := by
  unfold cmpZ
  by_cases h1 : i < j
  · rw [if_pos h1]; exact ⟨fun _ => h1, fun _ => by decide⟩
  · rw [if_neg h1]
    by_cases h2 : i = j
    · rw [if_pos h2]; exact ⟨fun q => absurd q (by decide), fun q => absurd q h1⟩
    · rw [if_neg h2]; exact ⟨fun q => absurd q (by decide), fun q => absurd q h1⟩
theorem cmpZ_gt (i j : Int) : (0 : Int32) < cmpZ i j ↔ j < i := by
  unfold cmpZ
  by_cases h1 : i < j
  · rw [if_pos h1]; exact ⟨fun q => absurd q (by decide), fun q => by omega⟩
  · rw [if_neg h1]
    by_cases h2 : i = j
    · rw [if_pos h2]; exact ⟨fun q => absurd q (by decide), fun q => by omega⟩
    · rw [if_neg h2]; exact ⟨fun _ => by omega, fun _ => by decide⟩
theorem cmpZ_eq (i j : Int) : cmpZ i j = (0 : Int32) ↔ i = j := by
  unfold cmpZ
  by_cases h1 : i < j
  · rw [if_pos h1]; exact ⟨fun q => absurd q (by decide), fun q => by omega⟩
  · rw [if_neg h1]
    by_cases h2 : i = j
    · rw [if_pos h2]; exact ⟨fun _ => h2, fun _ => rfl⟩
    · rw [if_neg h2]; exact ⟨fun q => absurd q (by decide), fun q => absurd q h2⟩
theorem ciW_lt_t {x y : Int} (h : x < y) : ifCond.holds .lt (cmpZ x y) = true := i0W_lt_t ((cmpZ_lt x y).mpr h)
theorem ciW_lt_f {x y : Int} (h : ¬ (x < y)) : ifCond.holds .lt (cmpZ x y) = false := i0W_lt_f fun q => h ((cmpZ_lt x y).mp q)
theorem ciW_ge_t {x y : Int} (h : ¬ (x < y)) : ifCond.holds .ge (cmpZ x y) = true := i0W_ge_t fun q => h ((cmpZ_lt x y).mp q)
theorem ciW_ge_f {x y : Int} (h : ¬ ¬ (x < y)) : ifCond.holds .ge (cmpZ x y) = false := i0W_ge_f fun q => h fun z => q ((cmpZ_lt x y).mpr z)
theorem ciW_gt_t {x y : Int} (h : y < x) : ifCond.holds .gt (cmpZ x y) = true := i0W_gt_t ((cmpZ_gt x y).mpr h)
theorem ciW_gt_f {x y : Int} (h : ¬ (y < x)) : ifCond.holds .gt (cmpZ x y) = false := i0W_gt_f fun q => h ((cmpZ_gt x y).mp q)
theorem ciW_le_t {x y : Int} (h : ¬ (y < x)) : ifCond.holds .le (cmpZ x y) = true := i0W_le_t fun q => h ((cmpZ_gt x y).mp q)
theorem ciW_le_f {x y : Int} (h : ¬ ¬ (y < x)) : ifCond.holds .le (cmpZ x y) = false := i0W_le_f fun q => h fun z => q ((cmpZ_gt x y).mpr z)
theorem ciW_eq_t {x y : Int} (h : x = y) : ifCond.holds .eq (cmpZ x y) = true := i0W_eq_t ((cmpZ_eq x y).mpr h)
theorem ciW_eq_f {x y : Int} (h : ¬ (x = y)) : ifCond.holds .eq (cmpZ x y) = false := i0W_eq_f fun q => h ((cmpZ_eq x y).mp q)
theorem ciW_ne_t {x y : Int} (h : ¬ (x = y)) : ifCond.holds .ne (cmpZ x y) = true := i0W_ne_t fun q => h ((cmpZ_eq x y).mp q)
theorem ciW_ne_f {x y : Int} (h : ¬ ¬ (x = y)) : ifCond.holds .ne (cmpZ x y) = false := i0W_ne_f fun q => h fun z => q ((cmpZ_eq x y).mpr z)
section B
variable {C : Prop} [Decidable C]
theorem b01or (C : Prop) [Decidable C] : (if C then (1 : Int32) else (0 : Int32)) = 0 ∨ (if C then (1 : Int32) else (0 : Int32)) = 1 := by split <;> simp
theorem b01_eq_t (h : ¬ (C)) : ifCond.holds .eq (if C then (1 : Int32) else (0 : Int32)) = true := by rw [if_neg h]; rfl
theorem b01_eq_f (h : ¬ ¬ (C)) : ifCond.holds .eq (if C then (1 : Int32) else (0 : Int32)) = false := by rw [if_pos (Decidable.not_not.mp h)]; rfl
theorem b01_ne_t (h : C) : ifCond.holds .ne (if C then (1 : Int32) else (0 : Int32)) = true := by rw [if_pos h]; rfl
theorem b01_ne_f (h : ¬ (C)) : ifCond.holds .ne (if C then (1 : Int32) else (0 : Int32)) = false := by rw [if_neg h]; rfl
end B
theorem narrow_01 {x : Int32} (h : x = 0 ∨ x = 1) : narrow .boolean (.int x) = .int x := by rcases h with rfl | rfl <;> rfl
theorem fits_01 {x : Int32} (h : x = 0 ∨ x = 1) : fits .boolean (.int x) = true := by rcases h with rfl | rfl <;> rfl
theorem cat1 {v : Value} (h : v.isRef = true) : v.category = 1 := by cases v <;> first | rfl | (simp [Value.isRef] at h)
theorem narrow_refT {v : Value} {t : FieldType} (h : v.isRef = true) : narrow t v = v := by cases v <;> first | (simp [Value.isRef] at h; done) | (cases t <;> rfl)
theorem fits_refT {v : Value} {t : FieldType} (h : v.isRef = true) (ht : t.isReference = true) : fits t v = true := by cases v <;> first | (simp [Value.isRef] at h; done) | (cases t <;> first | rfl | (simp [FieldType.isReference] at ht; done))
theorem nab_mul {i j : Int} {A B : Nat} (h1 : i.natAbs ≤ A) (h2 : j.natAbs ≤ B) : (i * j).natAbs ≤ A * B := by rw [Int.natAbs_mul]; exact Nat.mul_le_mul h1 h2
theorem nab_add {i j : Int} {A B : Nat} (h1 : i.natAbs ≤ A) (h2 : j.natAbs ≤ B) : (i + j).natAbs ≤ A + B := by omega
theorem nab_sub {i j : Int} {A B : Nat} (h1 : i.natAbs ≤ A) (h2 : j.natAbs ≤ B) : (i - j).natAbs ≤ A + B := by omega
/-! whole numbers as doubles -/
section C
open Jvm.FP Jvm.FP.Core Jvm.Free.Fl
theorem dint_c0 : DInt 0 FP.dconst0 := by
  have h := i2d_int 0
  rwa [show Core.i2d 0 = FP.dconst0 from by decide +kernel] at h
theorem dint_c1 : DInt 1 FP.dconst1 := by
  have h := i2d_int 1
  rwa [show Core.i2d 1 = FP.dconst1 from by decide +kernel] at h
theorem dint_ite {C : Prop} [Decidable C] {i j : Int} {a b : UInt64} (h1 : C → DInt i a) (h0 : ¬ C → DInt j b) : DInt (if C then i else j) (if C then a else b) := by
  by_cases h : C
  · rw [if_pos h, if_pos h]; exact h1 h
  · rw [if_neg h, if_neg h]; exact h0 h
theorem nnD {i : Int} {a : UInt64} (h : DInt i a) : NoNaN64 a := val64_no.mpr (DInt_ne_nan h)
theorem dcmpZ {i j : Int} {a b : UInt64} (ha : DInt i a) (hb : DInt j b) {o : CmpOp} : cmpValue (FP.dcmp a b) o = cmpZ i j := by
  rw [show FP.dcmp a b = some (compare i j) from dcmp_int ha hb, compare_ite]
  unfold cmpZ
  split
  · rfl
  · split <;> rfl
end C
end Jvm.OwnW
namespace Jvm.OwnX
open Sem ClassFile Op Lib Jvm.Stand Jvm.Free Jvm.LawKit Jvm.RoadKit Jvm.OwnW
/-- where a walk stands that may have loaded String constants -/
def Pos (p : Program) (l : Launch) (e : Env) (R : Room) (s : State) (m : MethodId) (args : Array Value) (below : List Frame) (meth : Method) (c : Code) (Z : State) (own : String) (ws : List Addr) (bd : Nat) (T : State) (h : Heap) (k n : Nat) : Prop :=
  ∃ (vm0 : Vm) (k0 : Nat), s.Since vm0 k0 ∧ k0 ≤ h.size ∧ (∃ locs, Stand p l e R (s.setVm vm0) m args below meth c T locs k n ∧ Fw ws bd locs) ∧ T.heap = h ∧ bd ≤ h.size ∧ Z.Warmed39 (s.setVm vm0).vm ∧ p.tables.exec = Jvm.exec ∧ (s.setVm vm0).vm.findClass own = some m.cls ∧ meth.locks = false ∧ k ≤ R.cells ∧ n ≤ R.slots
/-- the walk that stands at the frame g in T comes to its return, and Q holds of what it returns and of the heap it leaves -/
def Done (p : Program) (l : Launch) (e : Env) (R : Room) (s : State) (m : MethodId) (args : Array Value) (below : List Frame) (meth : Method) (c : Code) (Z : State) (own : String) (ws : List Addr) (bd : Nat) (Q : Option Value → Heap → Prop) (T : State) (g : JFrame) : Prop :=
  ∃ v T' h' k n, Pos p l e R s m args below meth c Z own ws bd T' h' k n ∧ (meth.sig.returnType = none → v = none) ∧ Q v h' ∧
    ∀ fs, (∀ (f : JFrame) (acts : List Action), f.method = m → f.locked = none → f.entered = [] → (doReturn e (T'.setTop f) acts v).1 = T'.setFrames fs) → Steps p.tables e below (T.setTop g) (T'.setFrames fs)
/-- a method's contract, asked at one heap and one row of arguments; it writes what lies in 'ws' and what it makes, alone -/
def OMet (l : Launch) (y : MethodName) (bytes : ByteArray) (maxL : Nat) (ret : Option FieldType) (wd : List Cond) (rm : Room) (Z : State) (h : Heap) (ws : List Addr) (as' : Array Value) (Q : Option Value → Heap → Prop) : Prop :=
  MetFree l y (head1 (Cond.code y bytes maxL ret :: wd) rm) (fun a U => a = as' ∧ Z.Warmed39 U.vm ∧ U.heap = h) (fun _ _ _ _ _ => True) (fun _ U o U' => ∃ v L, o = .returned v ∧ (Q v U'.heap ∧ Fw ws h.size L ∧ Keep h U'.heap ws) ∧ ReturnedEndW U o U' L rm.cells rm.slots)
section A
variable {p : Program} {l : Launch} {e : Env} {R : Room} {s : State} {m : MethodId} {args : Array Value} {below : List Frame} {meth : Method} {c : Code} {Z : State} {own : String} {ws : List Addr} {bd : Nat} {T : State} {h h' : Heap} {k n : Nat} {a0 : Array Value} {Q : Option Value → Heap → Prop} {pc pc' : Nat} {Ls : Array Slot} {st : List Value} {T₁ : State} {g₁ : JFrame}
theorem Pos.here (P : Pos p l e R s m args below meth c Z own ws bd T h k n) : At T m c below := by obtain ⟨_, _, _, _, ⟨_, X, _⟩, _⟩ := P; exact X.here
theorem Pos.x (P : Pos p l e R s m args below meth c Z own ws bd T h k n) : p.tables.exec = Jvm.exec := by obtain ⟨_, _, _, _, _, _, _, _, q, _⟩ := P; exact q
theorem Pos.ge (P : Pos p l e R s m args below meth c Z own ws bd T h k n) : bd ≤ h.size := by obtain ⟨_, _, _, _, _, _, q, _⟩ := P; exact q
theorem Pos.more (P : Pos p l e R s m args below meth c Z own ws bd T h k n) {k' n' : Nat} (hk : k ≤ k') (hn : n ≤ n') (hk' : k' ≤ R.cells) (hn' : n' ≤ R.slots) : Pos p l e R s m args below meth c Z own ws bd T h k' n' := by
  obtain ⟨v, k0, S, K0, ⟨L, X, N'⟩, a, b, c, d, f, g, _, _⟩ := P
  exact ⟨v, k0, S, K0, ⟨L, X.more hk hn, N'⟩, a, b, c, d, f, g, hk', hn'⟩
theorem Pos.cast {k' n' : Nat} (P : Pos p l e R s m args below meth c Z own ws bd T h k n) (hk : k = k') (hn : n = n') : Pos p l e R s m args below meth c Z own ws bd T h k' n' := by subst hk hn; exact P






theorem Done.step {T' : State} {g g' : JFrame} (hs : ∀ t, Steps p.tables e below (T'.setTop g') t → Steps p.tables e below (T.setTop g) t) (D : Done p l e R s m args below meth c Z own ws bd Q T' g') : Done p l e R s m args below meth c Z own ws bd Q T g := by
  obtain ⟨v, T1, h1, k1, n1, P, hv, hq, st⟩ := D
  exact ⟨v, T1, h1, k1, n1, P, hv, hq, fun fs hl => hs _ (st fs hl)⟩
theorem Done.stepL {st' : List Value} (hs : ∀ t, Steps p.tables e below (T.setTop (mkF m pc' Ls st')) t → Steps p.tables e below (T.setTop (mkF m pc Ls st)) t) (D : Done p l e R s m args below meth c Z own ws bd Q T (mkF m pc' Ls st')) : Done p l e R s m args below meth c Z own ws bd Q T (mkF m pc Ls st) := Done.step hs D
theorem Done.imp {Q' : Option Value → Heap → Prop} {g : JFrame} (D : Done p l e R s m args below meth c Z own ws bd Q T g) (q : ∀ v h, Q v h → Q' v h) : Done p l e R s m args below meth c Z own ws bd Q' T g := by
  obtain ⟨v, T1, h1, k1, n1, P, hv, hq, st⟩ := D
  exact ⟨v, T1, h1, k1, n1, P, hv, q _ _ hq, st⟩

theorem wRet {w : Value} {t : FieldType} {i : Instr} (P : Pos p l e R s m args below meth c Z own ws bd T h k n) (hret : meth.sig.returnType = some t) (hn : narrow t w = w)
    (hi : (i = .ireturn ∧ (t = .int ∨ t = .boolean ∨ t = .byte ∨ t = .char ∨ t = .short) ∧ ∃ z, w = .int z) ∨ (i = .lreturn ∧ t = .long ∧ ∃ z, w = .long z) ∨ (i = .dreturn ∧ t = .double ∧ ∃ z, w = .double z) ∨ (i = .freturn ∧ t = .float ∧ ∃ z, w = .float z) ∨ (i = .areturn ∧ t.isReference = true ∧ w.isRef = true))
    (hd : decode c.code pc = .ok (i, 1)) (hq : Q (some w) h) : Done p l e R s m args below meth c Z own ws bd Q T (mkF m pc Ls (w :: st)) := by
  obtain ⟨vm0, k0, hS, hk0, ⟨L, X, N'⟩, r⟩ := id P
  exact ⟨some w, T, h, k, n, P, (fun q => by rw [hret] at q; cases q), hq, fun fs hl => retOut X P.x hret hn hi hd hl⟩
theorem wRetI {z : Int32} (P : Pos p l e R s m args below meth c Z own ws bd T h k n) (hret : meth.sig.returnType = some .int) (hd : decode c.code pc = .ok (.ireturn, 1)) (hq : Q (some (.int z)) h) : Done p l e R s m args below meth c Z own ws bd Q T (mkF m pc Ls (.int z :: st)) :=
  wRet P hret rfl (Or.inl ⟨rfl, Or.inl rfl, z, rfl⟩) hd hq
theorem wRetJ {z : Int64} (P : Pos p l e R s m args below meth c Z own ws bd T h k n) (hret : meth.sig.returnType = some .long) (hd : decode c.code pc = .ok (.lreturn, 1)) (hq : Q (some (.long z)) h) : Done p l e R s m args below meth c Z own ws bd Q T (mkF m pc Ls (.long z :: st)) :=
  wRet P hret rfl (Or.inr (Or.inl ⟨rfl, rfl, z, rfl⟩)) hd hq
theorem wRetD {z : UInt64} (P : Pos p l e R s m args below meth c Z own ws bd T h k n) (hret : meth.sig.returnType = some .double) (hd : decode c.code pc = .ok (.dreturn, 1)) (hq : Q (some (.double z)) h) : Done p l e R s m args below meth c Z own ws bd Q T (mkF m pc Ls (.double z :: st)) :=
  wRet P hret rfl (Or.inr (Or.inr (Or.inl ⟨rfl, rfl, z, rfl⟩))) hd hq
theorem wRetA {w : Value} {t : FieldType} (P : Pos p l e R s m args below meth c Z own ws bd T h k n) (hret : meth.sig.returnType = some t) (ht : t.isReference = true) (hw : w.isRef = true) (hd : decode c.code pc = .ok (.areturn, 1)) (hq : Q (some w) h) : Done p l e R s m args below meth c Z own ws bd Q T (mkF m pc Ls (w :: st)) :=
  wRet P hret (by cases w <;> first | rfl | (simp [Value.isRef] at hw; done) | (cases t <;> first | rfl | (simp [FieldType.isReference] at ht))) (Or.inr (Or.inr (Or.inr (Or.inr ⟨rfl, ht, hw⟩)))) hd hq
theorem wRetN {z : Int32} {t : FieldType} (P : Pos p l e R s m args below meth c Z own ws bd T h k n) (hret : meth.sig.returnType = some t) (ht : t = .boolean ∨ t = .byte ∨ t = .char ∨ t = .short) (hd : decode c.code pc = .ok (.ireturn, 1)) (hq : Q (some (.int (nar t z))) h) : Done p l e R s m args below meth c Z own ws bd Q T (mkF m pc Ls (.int z :: st)) := by
  obtain ⟨vm0, k0, hS, hk0, ⟨L, X, N'⟩, r⟩ := id P
  exact ⟨_, T, h, k, n, P, (fun q => by rw [hret] at q; cases q), hq, fun fs hl => retN X P.x hret ht hd hl⟩
theorem wRetV (P : Pos p l e R s m args below meth c Z own ws bd T h k n) (hret : meth.sig.returnType = none) (hd : decode c.code pc = .ok (.return_, 1)) (hq : Q none h) : Done p l e R s m args below meth c Z own ws bd Q T (mkF m pc Ls []) := by
  obtain ⟨vm0, k0, hS, hk0, ⟨L, X, N'⟩, r⟩ := id P
  exact ⟨none, T, h, k, n, P, fun _ => rfl, hq, fun fs hl => X.returnOut P.x hret hd hl⟩
theorem wGet {R0 O nm d host : String} {index : Nat} {a : Addr} {v : Value} (P : Pos p l e R s m args below meth c Z own ws bd T h k n) (w : (Cond.fieldLink own index R0 nm d).before a0 Z = true ∨ (Cond.fieldLinkNest own index R0 nm d host).before a0 Z = true) (via : Via Z R0 O nm d) (F : Fld Z h a O nm d v)
    (hd : decode c.code pc = .ok (.getfield index, 3)) (hp : pc + 3 = pc') (K : ∀ T', Pos p l e R s m args below meth c Z own ws bd T' h k n → Done p l e R s m args below meth c Z own ws bd Q T' (mkF m pc' Ls (v :: st))) : Done p l e R s m args below meth c Z own ws bd Q T (mkF m pc Ls (.ref a :: st)) := by
  obtain ⟨vm0, k0, hS, hk0, ⟨L, X, N'⟩, eT, b, hZ, hx, ho, r⟩ := id P
  obtain ⟨T', X', e', stp⟩ := getF X hx hZ ho w via eT F (g := mkF m pc Ls (.ref a :: st)) rfl rfl hd
  subst hp
  exact Done.step stp (K T' ⟨vm0, k0, hS, (hk0), ⟨L, X', N'⟩, e', b, hZ, hx, ho, r⟩)
theorem wGetS {R0 O nm d host : String} {index : Nat} {v : Value} (P : Pos p l e R s m args below meth c Z own ws bd T h k n) (w : (Cond.fieldLink own index R0 nm d).before a0 Z = true ∨ (Cond.fieldLinkNest own index R0 nm d host).before a0 Z = true) (via : Via Z R0 O nm d) (F : Sta Z h O nm d v)
    (hd : decode c.code pc = .ok (.getstatic index, 3)) (hp : pc + 3 = pc') (K : ∀ T', Pos p l e R s m args below meth c Z own ws bd T' h k n → Done p l e R s m args below meth c Z own ws bd Q T' (mkF m pc' Ls (v :: st))) : Done p l e R s m args below meth c Z own ws bd Q T (mkF m pc Ls st) := by
  obtain ⟨vm0, k0, hS, hk0, ⟨L, X, N'⟩, eT, b, hZ, hx, ho, r⟩ := id P
  obtain ⟨T', X', e', stp⟩ := getS2 X hx hZ ho w via eT F (g := mkF m pc Ls st) rfl hd
  subst hp
  exact Done.step stp (K T' ⟨vm0, k0, hS, (hk0), ⟨L, X', N'⟩, e', b, hZ, hx, ho, r⟩)
theorem wPut {R0 O nm d host C : String} {index kk : Nat} {ty : FieldType} {a : Addr} {v old : Value} (P : Pos p l e R s m args below meth c Z own ws bd T h k n) (w : (Cond.fieldLink own index R0 nm d).before a0 Z = true ∨ (Cond.fieldLinkNest own index R0 nm d host).before a0 Z = true) (via : Via Z R0 O nm d) (F : Fld Z h a O nm d old) (E : Exa Z h a C)
    (La : (Cond.lays C O nm d).before a0 Z = true ∨ ((Cond.laysFinal C O nm d).before a0 Z = true ∧ own = O ∧ meth.name = "<init>")) (wi : (Cond.instantiable C kk).before a0 Z = true) (hty : parseFieldDescriptor d = some ty) (hn : narrow ty v = v) (hf : fits ty v = true) (hge : a ∈ ws ∨ bd ≤ a)
    (hd : decode c.code pc = .ok (.putfield index, 3)) (hp : pc + 3 = pc') (K : ∀ T' h', Pos p l e R s m args below meth c Z own ws bd T' h' k n → Wr h h' a (Jvm.RoadKit.slotOf Z O nm d) v → Fld Z h' a O nm d v → Done p l e R s m args below meth c Z own ws bd Q T' (mkF m pc' Ls st)) : Done p l e R s m args below meth c Z own ws bd Q T (mkF m pc Ls (v :: .ref a :: st)) := by
  obtain ⟨vm0, k0, hS, hk0, ⟨L, X, N'⟩, eT, b, hZ, hx, ho, r⟩ := id P
  obtain ⟨T', h', X', e', W, stp⟩ := putF X hx hZ ho w via eT F E La wi hty hn hf (g := mkF m pc Ls (v :: .ref a :: st)) rfl rfl hd
  subst hp
  exact Done.step stp (K T' h' ⟨vm0, k0, hS, (by rw [W.size]; exact hk0), ⟨_, X', Fw.snoc N' hge⟩, e', by rw [W.size]; exact b, hZ, hx, ho, r⟩ W (F.same W))
theorem wPutN {R0 O nm d C : String} {index kk : Nat} {ty : FieldType} {a : Addr} {x x' : Int32} {old : Value} (P : Pos p l e R s m args below meth c Z own ws bd T h k n) (w : (Cond.fieldLink own index R0 nm d).before a0 Z = true) (via : Via Z R0 O nm d) (F : Fld Z h a O nm d old) (E : Exa Z h a C)
    (La : (Cond.lays C O nm d).before a0 Z = true ∨ ((Cond.laysFinal C O nm d).before a0 Z = true ∧ own = O ∧ meth.name = "<init>")) (wi : (Cond.instantiable C kk).before a0 Z = true) (hty : parseFieldDescriptor d = some ty) (hn : narrow ty (.int x) = .int x') (hf : fits ty (.int x') = true) (hge : a ∈ ws ∨ bd ≤ a)
    (hd : decode c.code pc = .ok (.putfield index, 3)) (hp : pc + 3 = pc') (K : ∀ T' h', Pos p l e R s m args below meth c Z own ws bd T' h' k n → Wr h h' a (Jvm.RoadKit.slotOf Z O nm d) (.int x') → Fld Z h' a O nm d (.int x') → Done p l e R s m args below meth c Z own ws bd Q T' (mkF m pc' Ls st)) : Done p l e R s m args below meth c Z own ws bd Q T (mkF m pc Ls (.int x :: .ref a :: st)) := by
  obtain ⟨vm0, k0, hS, hk0, ⟨L, X, N'⟩, eT, b, hZ, hx, ho, r⟩ := id P
  obtain ⟨T', h', X', e', W, stp⟩ := putFN X hx hZ ho w via eT F E La wi (v' := .int x') hty hn hf (g := mkF m pc Ls (.int x :: .ref a :: st)) rfl rfl hd
  subst hp
  exact Done.step stp (K T' h' ⟨vm0, k0, hS, (by rw [W.size]; exact hk0), ⟨_, X', Fw.snoc N' hge⟩, e', by rw [W.size]; exact b, hZ, hx, ho, r⟩ W (F.same W))
theorem wNew {C : String} {index nn : Nat} (P : Pos p l e R s m args below meth c Z own ws bd T h k n) (w : (Cond.classLink own index C).before a0 Z = true) (wi : (Cond.instantiable C nn).before a0 Z = true) (wz : (Cond.initialized C).before a0 Z = true)
    (hd : decode c.code pc = .ok (.new index, 3)) (hp : pc + 3 = pc') (hc : k + 1 ≤ R.cells) (hl : n + nn ≤ R.slots) {k' n' : Nat} (hk' : k + 1 = k') (hn' : n + nn = n')
    (K : ∀ T' h' a, a = h.size → h.size < h'.size → Pos p l e R s m args below meth c Z own ws bd T' h' k' n' → Ext h h' → Exa Z h' a C → (∀ {O nm d : String} {ty : FieldType}, Laid Z a0 C O nm d → parseFieldDescriptor d = some ty → Fld Z h' a O nm d (defaultValue ty)) → Done p l e R s m args below meth c Z own ws bd Q T' (mkF m pc' Ls (.ref a :: st))) : Done p l e R s m args below meth c Z own ws bd Q T (mkF m pc Ls st) := by
  obtain ⟨vm0, k0, hS, hk0, ⟨L, X, N'⟩, eT, b, hZ, hx, ho, hlk, _, _⟩ := id P
  obtain ⟨T', h', X', e', E, A, D, -, stp⟩ := newO X hx hZ ho w wi wz eT (g := mkF m pc Ls st) rfl hd hc hl
  subst hp hk' hn'
  exact Done.step stp (K T' h' h.size rfl A.lt ⟨vm0, k0, hS, (Nat.le_trans hk0 E.1), ⟨L, X', N'⟩, e', Nat.le_trans b E.1, hZ, hx, ho, hlk, hc, hl⟩ E A D)
theorem wNewA {aty : ArrayType} {z : Int32} {N cap : Nat} (P : Pos p l e R s m args below meth c Z own ws bd T h k n) (w : (Cond.arrayClass (newarray.typeOf aty)).before a0 Z = true) (hd : decode c.code pc = .ok (.newarray aty, 2)) (hp : pc + 2 = pc') (hz : z.toInt = (N : Int)) (hcap : N ≤ cap) (hb : cap * 8 ≤ 536870912) (hc : k + 1 ≤ R.cells) (hl : n + cap ≤ R.slots)
    {ad : String} (had : "[" ++ (newarray.typeOf aty).toString = ad) {ty : FieldType} {dv : Value} (hty : newarray.typeOf aty = ty) (hdv : defaultValue ty = dv) {k' n' : Nat} (hk' : k + 1 = k') (hn' : n + cap = n')
    (K : ∀ T' h' a, a = h.size → h.size < h'.size → Pos p l e R s m args below meth c Z own ws bd T' h' k' n' → Ext h h' → Ar Z h' a ty N (fun _ => dv) → Exa Z h' a ad → Done p l e R s m args below meth c Z own ws bd Q T' (mkF m pc' Ls (.ref a :: st))) : Done p l e R s m args below meth c Z own ws bd Q T (mkF m pc Ls (.int z :: st)) := by
  obtain ⟨vm0, k0, hS, hk0, ⟨L, X, N'⟩, eT, b, hZ, hx, ho, hlk, _, _⟩ := id P
  have hz0 : ¬ z < 0 := by rw [Int32.lt_iff_toInt_lt, hz, show (0 : Int32).toInt = 0 from rfl]; omega
  have hzn : z.toNatClampNeg = N := by rw [Int32.toNatClampNeg, hz]; omega
  have hN := z.toInt_lt
  obtain ⟨T', h', kA, X', e', E, A, Ex, stp⟩ := newPE X hx hZ w eT (g := mkF m pc Ls (.int z :: st)) rfl hd rfl hz0 (by rw [hzn]; exact hcap) hb hc hl had
  subst hp hk' hn' hty hdv
  refine Done.step stp (K T' h' h.size rfl A.lt ⟨vm0, k0, hS, (Nat.le_trans hk0 E.1), ⟨L, X', N'⟩, e', Nat.le_trans b E.1, hZ, hx, ho, hlk, hc, hl⟩ E ⟨_, A, by rw [sz_new, hzn], by omega, fun i hi => ?_⟩ Ex)
  simp [newA, hzn, hi]
theorem wLen {ty : FieldType} {N : Nat} {f : Nat → Value} {a : Addr} (P : Pos p l e R s m args below meth c Z own ws bd T h k n) (A : Ar Z h a ty N f) {z : Int32} (hz : z.toInt = (N : Int)) (hd : decode c.code pc = .ok (.arraylength, 1)) (hp : pc + 1 = pc')
    (K : Done p l e R s m args below meth c Z own ws bd Q T (mkF m pc' Ls (.int z :: st))) : Done p l e R s m args below meth c Z own ws bd Q T (mkF m pc Ls (.ref a :: st)) := by
  obtain ⟨vm0, k0, hS, hk0, ⟨L, X, N'⟩, eT, b, hZ, hx, ho, hlk, _, _⟩ := id P
  obtain ⟨cl, Ar, S, hN, H⟩ := A
  subst hp
  refine Done.step (fun t kk => X.arraylength hx (by rw [eT]; exact Ar.1) (State.isArrayOf_alike hZ.alike Ar.2.1) (g := mkF m pc Ls (.ref a :: st)) rfl rfl hd t ?_) K
  rw [S, show N.toInt32 = z from Int32.toInt_inj.mp (by rw [toI32 hN, hz])]
  exact kk
theorem wDaload {N i : Nat} {f : Nat → Value} {a : Addr} {j : Int32} (P : Pos p l e R s m args below meth c Z own ws bd T h k n) (A : Ar Z h a .double N f) (hj : j.toInt = (i : Int)) (hi : i < N) {v : Value} (hv : f i = v) (hd : decode c.code pc = .ok (.daload, 1)) (hp : pc + 1 = pc')
    (K : Done p l e R s m args below meth c Z own ws bd Q T (mkF m pc' Ls (v :: st))) : Done p l e R s m args below meth c Z own ws bd Q T (mkF m pc Ls (.int j :: .ref a :: st)) := by
  obtain ⟨vm0, k0, hS, hk0, ⟨L, X, N'⟩, eT, b, hZ, hx, ho, hlk, _, _⟩ := id P
  obtain ⟨cl, Ar, S, hN, H⟩ := A
  obtain ⟨q1, q2⟩ := in_of S hj hi
  subst hp hv
  exact Done.step (fun t kk => X.daload hx (by rw [eT]; exact Ar.1) (State.isArrayOf_alike hZ.alike Ar.2.1) Ar.2.2 q1 (by rw [q2]; exact H i hi) (g := mkF m pc Ls (.int j :: .ref a :: st)) rfl rfl hd t kk) K
theorem wIaload {N i : Nat} {f : Nat → Value} {a : Addr} {j : Int32} (P : Pos p l e R s m args below meth c Z own ws bd T h k n) (A : Ar Z h a .int N f) (hj : j.toInt = (i : Int)) (hi : i < N) {v : Value} (hv : f i = v) (hd : decode c.code pc = .ok (.iaload, 1)) (hp : pc + 1 = pc')
    (K : Done p l e R s m args below meth c Z own ws bd Q T (mkF m pc' Ls (v :: st))) : Done p l e R s m args below meth c Z own ws bd Q T (mkF m pc Ls (.int j :: .ref a :: st)) := by
  obtain ⟨vm0, k0, hS, hk0, ⟨L, X, N'⟩, eT, b, hZ, hx, ho, hlk, _, _⟩ := id P
  obtain ⟨cl, Ar, S, hN, H⟩ := A
  obtain ⟨q1, q2⟩ := in_of S hj hi
  subst hp hv
  exact Done.step (fun t kk => X.iaload hx (by rw [eT]; exact Ar.1) (State.isArrayOf_alike hZ.alike Ar.2.1) Ar.2.2 q1 (by rw [q2]; exact H i hi) (g := mkF m pc Ls (.int j :: .ref a :: st)) rfl rfl hd t kk) K
theorem wCaload {N i : Nat} {f : Nat → Value} {a : Addr} {j : Int32} (P : Pos p l e R s m args below meth c Z own ws bd T h k n) (A : Ar Z h a .char N f) (hj : j.toInt = (i : Int)) (hi : i < N) {v : Value} (hv : f i = v) (hd : decode c.code pc = .ok (.caload, 1)) (hp : pc + 1 = pc')
    (K : Done p l e R s m args below meth c Z own ws bd Q T (mkF m pc' Ls (v :: st))) : Done p l e R s m args below meth c Z own ws bd Q T (mkF m pc Ls (.int j :: .ref a :: st)) := by
  obtain ⟨vm0, k0, hS, hk0, ⟨L, X, N'⟩, eT, b, hZ, hx, ho, hlk, _, _⟩ := id P
  obtain ⟨cl, Ar, S, hN, H⟩ := A
  obtain ⟨q1, q2⟩ := in_of S hj hi
  subst hp hv
  exact Done.step (fun t kk => X.caload hx (by rw [eT]; exact Ar.1) (State.isArrayOf_alike hZ.alike Ar.2.1) Ar.2.2 q1 (by rw [q2]; exact H i hi) (g := mkF m pc Ls (.int j :: .ref a :: st)) rfl rfl hd t kk) K
theorem wAaload {N i : Nat} {f : Nat → Value} {a : Addr} {j : Int32} {ty : FieldType} (P : Pos p l e R s m args below meth c Z own ws bd T h k n) (A : Ar Z h a ty N f) (hty : ty.isReference = true) (hj : j.toInt = (i : Int)) (hi : i < N) {v : Value} (hv : f i = v) (hd : decode c.code pc = .ok (.aaload, 1)) (hp : pc + 1 = pc')
    (K : Done p l e R s m args below meth c Z own ws bd Q T (mkF m pc' Ls (v :: st))) : Done p l e R s m args below meth c Z own ws bd Q T (mkF m pc Ls (.int j :: .ref a :: st)) := by
  obtain ⟨vm0, k0, hS, hk0, ⟨L, X, N'⟩, eT, b, hZ, hx, ho, hlk, _, _⟩ := id P
  obtain ⟨cl, Ar, S, hN, H⟩ := A
  obtain ⟨q1, q2⟩ := in_of S hj hi
  subst hp hv
  exact Done.step (fun t kk => X.aaload hx (by rw [eT]; exact Ar.1) (State.isArrayOf_alike hZ.alike Ar.2.1) hty Ar.2.2 q1 (by rw [q2]; exact H i hi) (g := mkF m pc Ls (.int j :: .ref a :: st)) rfl rfl hd t kk) K
theorem wDastore {N i : Nat} {f : Nat → UInt64} {a : Addr} {j : Int32} {x : UInt64} (P : Pos p l e R s m args below meth c Z own ws bd T h k n) (A : Ar Z h a .double N (fun i => .double (f i))) (hj : j.toInt = (i : Int)) (hi : i < N) (hge : a ∈ ws ∨ bd ≤ a) (hd : decode c.code pc = .ok (.dastore, 1)) (hp : pc + 1 = pc')
    (K : ∀ T' h', Pos p l e R s m args below meth c Z own ws bd T' h' k n → Wr h h' a i (.double x) → Ar Z h' a .double N (fun j => .double (oupd f i x j)) → Done p l e R s m args below meth c Z own ws bd Q T' (mkF m pc' Ls st)) : Done p l e R s m args below meth c Z own ws bd Q T (mkF m pc Ls (.double x :: .int j :: .ref a :: st)) := by
  obtain ⟨vm0, k0, hS, hk0, ⟨L, X, N'⟩, eT, b, hZ, hx, ho, r⟩ := id P
  obtain ⟨cl, Ar', S, hN, H⟩ := A
  obtain ⟨q1, q2⟩ := in_of S hj hi
  obtain ⟨T', h', X', e', W, stp⟩ := stD X hx hZ eT Ar' q1 (g := mkF m pc Ls (.double x :: .int j :: .ref a :: st)) rfl rfl hd
  subst hp
  rw [q2] at W
  refine Done.step stp (K T' h' ⟨vm0, k0, hS, (by rw [W.size]; exact hk0), ⟨_, X', Fw.snoc N' hge⟩, e', by rw [W.size]; exact b, hZ, hx, ho, r⟩ W ((Ar.set Ar' S hN H hi W).congr fun j _ => ?_))
  unfold oupd; split <;> rfl
theorem wIastore {N i : Nat} {f : Nat → Int32} {a : Addr} {j : Int32} {x : Int32} (P : Pos p l e R s m args below meth c Z own ws bd T h k n) (A : Ar Z h a .int N (fun i => .int (f i))) (hj : j.toInt = (i : Int)) (hi : i < N) (hge : a ∈ ws ∨ bd ≤ a) (hd : decode c.code pc = .ok (.iastore, 1)) (hp : pc + 1 = pc')
    (K : ∀ T' h', Pos p l e R s m args below meth c Z own ws bd T' h' k n → Wr h h' a i (.int x) → Ar Z h' a .int N (fun j => .int (oupd f i x j)) → Done p l e R s m args below meth c Z own ws bd Q T' (mkF m pc' Ls st)) : Done p l e R s m args below meth c Z own ws bd Q T (mkF m pc Ls (.int x :: .int j :: .ref a :: st)) := by
  obtain ⟨vm0, k0, hS, hk0, ⟨L, X, N'⟩, eT, b, hZ, hx, ho, r⟩ := id P
  obtain ⟨cl, Ar', S, hN, H⟩ := A
  obtain ⟨q1, q2⟩ := in_of S hj hi
  obtain ⟨T', h', X', e', W, stp⟩ := stI X hx hZ eT Ar' q1 (g := mkF m pc Ls (.int x :: .int j :: .ref a :: st)) rfl rfl hd
  subst hp
  rw [q2] at W
  refine Done.step stp (K T' h' ⟨vm0, k0, hS, (by rw [W.size]; exact hk0), ⟨_, X', Fw.snoc N' hge⟩, e', by rw [W.size]; exact b, hZ, hx, ho, r⟩ W ((Ar.set Ar' S hN H hi W).congr fun j _ => ?_))
  unfold oupd; split <;> rfl
theorem wCastore {N i : Nat} {f : Nat → Int32} {a : Addr} {j : Int32} {x : Int32} (P : Pos p l e R s m args below meth c Z own ws bd T h k n) (A : Ar Z h a .char N (fun i => .int (f i))) (hj : j.toInt = (i : Int)) (hi : i < N) (hge : a ∈ ws ∨ bd ≤ a) (hd : decode c.code pc = .ok (.castore, 1)) (hp : pc + 1 = pc')
    (K : ∀ T' h', Pos p l e R s m args below meth c Z own ws bd T' h' k n → Wr h h' a i (.int (nar .char x)) → Ar Z h' a .char N (fun j => .int (oupd f i (nar .char x) j)) → Done p l e R s m args below meth c Z own ws bd Q T' (mkF m pc' Ls st)) : Done p l e R s m args below meth c Z own ws bd Q T (mkF m pc Ls (.int x :: .int j :: .ref a :: st)) := by
  obtain ⟨vm0, k0, hS, hk0, ⟨L, X, N'⟩, eT, b, hZ, hx, ho, r⟩ := id P
  obtain ⟨cl, Ar', S, hN, H⟩ := A
  obtain ⟨q1, q2⟩ := in_of S hj hi
  obtain ⟨T', h', X', e', W, stp⟩ := stC X hx hZ eT Ar' q1 (g := mkF m pc Ls (.int x :: .int j :: .ref a :: st)) rfl rfl hd
  subst hp
  rw [q2] at W
  refine Done.step stp (K T' h' ⟨vm0, k0, hS, (by rw [W.size]; exact hk0), ⟨_, X', Fw.snoc N' hge⟩, e', by rw [W.size]; exact b, hZ, hx, ho, r⟩ W ((Ar.set Ar' S hN H hi W).congr fun j _ => ?_))
  unfold oupd; split <;> rfl
theorem wBastore {N i : Nat} {f : Nat → Int32} {a : Addr} {j : Int32} {x : Int32} (P : Pos p l e R s m args below meth c Z own ws bd T h k n) (A : Ar Z h a .byte N (fun i => .int (f i))) (hj : j.toInt = (i : Int)) (hi : i < N) (hge : a ∈ ws ∨ bd ≤ a) (hd : decode c.code pc = .ok (.bastore, 1)) (hp : pc + 1 = pc')
    (K : ∀ T' h', Pos p l e R s m args below meth c Z own ws bd T' h' k n → Wr h h' a i (.int (nar .byte x)) → Ar Z h' a .byte N (fun j => .int (oupd f i (nar .byte x) j)) → Done p l e R s m args below meth c Z own ws bd Q T' (mkF m pc' Ls st)) : Done p l e R s m args below meth c Z own ws bd Q T (mkF m pc Ls (.int x :: .int j :: .ref a :: st)) := by
  obtain ⟨vm0, k0, hS, hk0, ⟨L, X, N'⟩, eT, b, hZ, hx, ho, r⟩ := id P
  obtain ⟨cl, Ar', S, hN, H⟩ := A
  obtain ⟨q1, q2⟩ := in_of S hj hi
  obtain ⟨T', h', X', e', W, stp⟩ := stB X hx hZ eT Ar' q1 (g := mkF m pc Ls (.int x :: .int j :: .ref a :: st)) rfl rfl hd
  subst hp
  rw [q2] at W
  refine Done.step stp (K T' h' ⟨vm0, k0, hS, (by rw [W.size]; exact hk0), ⟨_, X', Fw.snoc N' hge⟩, e', by rw [W.size]; exact b, hZ, hx, ho, r⟩ W ((Ar.set Ar' S hN H hi W).congr fun j _ => ?_))
  unfold oupd; split <;> rfl
theorem wZastore {N i : Nat} {f : Nat → Int32} {a : Addr} {j : Int32} {x : Int32} (P : Pos p l e R s m args below meth c Z own ws bd T h k n) (A : Ar Z h a .boolean N (fun i => .int (f i))) (hj : j.toInt = (i : Int)) (hi : i < N) (hge : a ∈ ws ∨ bd ≤ a) (hd : decode c.code pc = .ok (.bastore, 1)) (hp : pc + 1 = pc')
    (K : ∀ T' h', Pos p l e R s m args below meth c Z own ws bd T' h' k n → Wr h h' a i (.int (nar .boolean x)) → Ar Z h' a .boolean N (fun j => .int (oupd f i (nar .boolean x) j)) → Done p l e R s m args below meth c Z own ws bd Q T' (mkF m pc' Ls st)) : Done p l e R s m args below meth c Z own ws bd Q T (mkF m pc Ls (.int x :: .int j :: .ref a :: st)) := by
  obtain ⟨vm0, k0, hS, hk0, ⟨L, X, N'⟩, eT, b, hZ, hx, ho, r⟩ := id P
  obtain ⟨cl, Ar', S, hN, H⟩ := A
  obtain ⟨q1, q2⟩ := in_of S hj hi
  obtain ⟨T', h', X', e', W, stp⟩ := stZ X hx hZ eT Ar' q1 (g := mkF m pc Ls (.int x :: .int j :: .ref a :: st)) rfl rfl hd
  subst hp
  rw [q2] at W
  refine Done.step stp (K T' h' ⟨vm0, k0, hS, (by rw [W.size]; exact hk0), ⟨_, X', Fw.snoc N' hge⟩, e', by rw [W.size]; exact b, hZ, hx, ho, r⟩ W ((Ar.set Ar' S hN H hi W).congr fun j _ => ?_))
  unfold oupd; split <;> rfl
theorem wBaload {N i : Nat} {f : Nat → Value} {a : Addr} {j : Int32} (P : Pos p l e R s m args below meth c Z own ws bd T h k n) (A : Ar Z h a .byte N f) (hj : j.toInt = (i : Int)) (hi : i < N) {v : Value} (hv : f i = v) (hd : decode c.code pc = .ok (.baload, 1)) (hp : pc + 1 = pc')
    (K : Done p l e R s m args below meth c Z own ws bd Q T (mkF m pc' Ls (v :: st))) : Done p l e R s m args below meth c Z own ws bd Q T (mkF m pc Ls (.int j :: .ref a :: st)) := by
  obtain ⟨vm0, k0, hS, hk0, ⟨L, X, N'⟩, eT, b, hZ, hx, ho, hlk, _, _⟩ := id P
  obtain ⟨cl, Ar, S, hN, H⟩ := A
  obtain ⟨q1, q2⟩ := in_of S hj hi
  subst hp hv
  exact Done.step (fun t kk => X.baloadBytes hx (by rw [eT]; exact Ar.1) (State.isArrayOf_alike hZ.alike Ar.2.1) Ar.2.2 q1 (by rw [q2]; exact H i hi) (g := mkF m pc Ls (.int j :: .ref a :: st)) rfl rfl hd t kk) K
theorem wCast {K : String} {index : Nat} {a : Addr} (P : Pos p l e R s m args below meth c Z own ws bd T h k n) (w : (Cond.classLink own index K).before a0 Z = true) (F : Ins Z h a K true) (hd : decode c.code pc = .ok (.checkcast index, 3)) (hp : pc + 3 = pc')
    (K' : ∀ T', Pos p l e R s m args below meth c Z own ws bd T' h k n → Done p l e R s m args below meth c Z own ws bd Q T' (mkF m pc' Ls (.ref a :: st))) : Done p l e R s m args below meth c Z own ws bd Q T (mkF m pc Ls (.ref a :: st)) := by
  obtain ⟨vm0, k0, hS, hk0, ⟨L, X, N'⟩, eT, b, hZ, hx, ho, r⟩ := id P
  obtain ⟨T', X', e', stp⟩ := castY X hx hZ ho w eT F (g := mkF m pc Ls (.ref a :: st)) rfl rfl hd
  subst hp
  exact Done.step stp (K' T' ⟨vm0, k0, hS, (hk0), ⟨L, X', N'⟩, e', b, hZ, hx, ho, r⟩)
theorem wInstY {K : String} {index : Nat} {a : Addr} (P : Pos p l e R s m args below meth c Z own ws bd T h k n) (w : (Cond.classLink own index K).before a0 Z = true) (F : Ins Z h a K true) (hd : decode c.code pc = .ok (.instanceof index, 3)) (hp : pc + 3 = pc')
    (K' : ∀ T', Pos p l e R s m args below meth c Z own ws bd T' h k n → Done p l e R s m args below meth c Z own ws bd Q T' (mkF m pc' Ls (.int 1 :: st))) : Done p l e R s m args below meth c Z own ws bd Q T (mkF m pc Ls (.ref a :: st)) := by
  obtain ⟨vm0, k0, hS, hk0, ⟨L, X, N'⟩, eT, b, hZ, hx, ho, r⟩ := id P
  obtain ⟨T', X', e', stp⟩ := instY X hx hZ ho w eT F (g := mkF m pc Ls (.ref a :: st)) rfl rfl hd
  subst hp
  exact Done.step stp (K' T' ⟨vm0, k0, hS, (hk0), ⟨L, X', N'⟩, e', b, hZ, hx, ho, r⟩)
theorem wInstN {K C : String} {index : Nat} {a : Addr} (P : Pos p l e R s m args below meth c Z own ws bd T h k n) (w : (Cond.classLink own index K).before a0 Z = true) (E : Exa Z h a C) (F : ∃ c t, Z.vm.findClass C = some c ∧ Z.vm.findClass K = some t ∧ Z.vm.assignable c t = false) (hd : decode c.code pc = .ok (.instanceof index, 3)) (hp : pc + 3 = pc')
    (K' : ∀ T', Pos p l e R s m args below meth c Z own ws bd T' h k n → Done p l e R s m args below meth c Z own ws bd Q T' (mkF m pc' Ls (.int 0 :: st))) : Done p l e R s m args below meth c Z own ws bd Q T (mkF m pc Ls (.ref a :: st)) := by
  obtain ⟨vm0, k0, hS, hk0, ⟨L, X, N'⟩, eT, b, hZ, hx, ho, r⟩ := id P
  obtain ⟨T', X', e', stp⟩ := instNo X hx hZ ho w eT E F (g := mkF m pc Ls (.ref a :: st)) rfl rfl hd
  subst hp
  exact Done.step stp (K' T' ⟨vm0, k0, hS, (hk0), ⟨L, X', N'⟩, e', b, hZ, hx, ho, r⟩)
theorem wInst0 {index : Nat} (P : Pos p l e R s m args below meth c Z own ws bd T h k n) (hd : decode c.code pc = .ok (.instanceof index, 3)) (hp : pc + 3 = pc') (D : Done p l e R s m args below meth c Z own ws bd Q T (mkF m pc' Ls (.int 0 :: st))) : Done p l e R s m args below meth c Z own ws bd Q T (mkF m pc Ls (.null :: st)) := by
  obtain ⟨vm0, k0, hS, hk0, ⟨L, X, N'⟩, eT, b, hZ, hx, ho, r⟩ := id P
  subst hp
  exact Done.step (Jvm.Stand.instanceofNull X hx (g := mkF m pc Ls (.null :: st)) rfl rfl hd) D
theorem wInit {index : Nat} {a : Addr} {W : Nat} (P : Pos p l e R s m args below meth c Z own ws bd T h k n) (w1 : (Cond.methodLink own index Lib.objectInit).before a0 Z = true) (w2 : (Cond.instanceMethod Lib.objectInit).before a0 Z = true) (w3 : (Cond.code Lib.objectInit ⟨#[0xb1]⟩ 1 none).before a0 Z = true) (hml : Ls.size = c.maxLocals)
    (hd : decode c.code pc = .ok (.invokespecial index, 3)) (hf : 1 ≤ R.frames) (hW : (st.map fun v => v.category).sum ≤ W) (hl : W + 12 ≤ R.locals) (hp : pc + 3 = pc')
    (K : ∀ T', Pos p l e R s m args below meth c Z own ws bd T' h k n → Done p l e R s m args below meth c Z own ws bd Q T' (mkF m pc' Ls st)) : Done p l e R s m args below meth c Z own ws bd Q T (mkF m pc Ls (.ref a :: st)) := by
  obtain ⟨vm0, k0, hS, hk0, ⟨L, X, N'⟩, eT, b, hZ, hx, ho, r⟩ := id P
  obtain ⟨T', X', e', stp⟩ := initO X hx hZ ho w1 w2 w3 eT (g := mkF m pc Ls (.ref a :: st)) rfl hml rfl hd hf (W := W) (by show 2 * 0 + _ ≤ _; omega) hl
  subst hp
  exact Done.step stp (K T' ⟨vm0, k0, hS, (hk0), ⟨L, X', N'⟩, e', b, hZ, hx, ho, r⟩)
theorem wCallS {y : MethodName} {bytes : ByteArray} {maxL : Nat} {ret : Option FieldType} {rm : Room} {as' : Array Value} {ws' : List Addr} {Q' : Option Value → Heap → Prop} {index W : Nat} {argsL rest stk : List Value} (P : Pos p l e R s m args below meth c Z own ws bd T h k n) (M : Jvm.OwnW.OMet l y bytes maxL ret [] rm Z h ws' as' Q')
    (w1 : (Cond.methodLink own index y).before a0 Z = true) (w2 : (Cond.static y).before a0 Z = true) (w3 : (Cond.initialized y.cls).before a0 Z = true) (w4 : (Cond.code y bytes maxL ret).before a0 Z = true) (hy : y.cls ≠ "java/lang/invoke/MethodHandle" ∧ y.cls ≠ "java/lang/invoke/VarHandle") (hml : Ls.size = c.maxLocals)
    (hlen : ∀ sig, parseMethodDescriptor y.desc = some sig → argsL.length = sig.parameters.length) (has : (argsL).toArray = as') (hst : stk = argsL.reverse ++ rest) (hW : (rest.map fun v => v.category).sum ≤ W) (hf : rm.frames + 1 ≤ R.frames) (hl : W + (maxL + 11) + rm.locals ≤ R.locals) (hc : k + rm.cells ≤ R.cells) (hs : n + rm.slots ≤ R.slots)
    (hws : ∀ x ∈ ws', x ∈ ws ∨ bd ≤ x) (hd : decode c.code pc = .ok (.invokestatic index, 3)) (hp : pc + 3 = pc') {k' n' : Nat} (hk' : k + rm.cells = k') (hn' : n + rm.slots = n')
    (K : ∀ T' h' v, Pos p l e R s m args below meth c Z own ws bd T' h' k' n' → Keep h h' ws' → Q' v h' → Done p l e R s m args below meth c Z own ws bd Q T' (mkF m pc' Ls (v.toList ++ rest))) : Done p l e R s m args below meth c Z own ws bd Q T (mkF m pc Ls stk) := by
  obtain ⟨vm0, k0, hS, hk0, ⟨L, X, N'⟩, eT, b, hZ, hx, ho, hlk, _, _⟩ := id P
  subst hst has hp hk' hn'
  obtain ⟨v, _, ⟨T', L', k1, n1⟩, -, X', ⟨Lc, hq, l', y', z'⟩, stp⟩ := Jvm.LawKit.callS X hx (y := y) ho (mvT hZ w1) (mvT hZ w2) (mvT hZ w3) (mvT hZ w4) hy (backOf (W := W) (Q := fun v h' L => Q' v h' ∧ Fw ws' h.size L ∧ Keep h h' ws') M hZ w4 w3 hf hl) (g := mkF m pc Ls (argsL.reverse ++ rest)) rfl hml (argsL := argsL) (rest := rest) hlen rfl (by show 2 * 0 + _ ≤ _; omega) hd (fun _ _ => ⟨rfl, eT, hc, hs⟩)
  dsimp only [Pt.U, Pt.locs, Pt.cells, Pt.slots] at X' l' y' z' stp hq
  subst l' y' z'
  exact Done.step (stp) (K T' T'.heap v ⟨vm0, k0, hS, (Nat.le_trans hk0 hq.2.2.1), ⟨_, X', N'.app fun y hy => (hq.2.1 y hy).elim (fun q => hws _ q) (fun q => Or.inr (Nat.le_trans b q))⟩, rfl, Nat.le_trans b hq.2.2.1, hZ, hx, ho, hlk, hc, hs⟩ hq.2.2 hq.1)
theorem wCallI {y : MethodName} {bytes : ByteArray} {maxL : Nat} {rm : Room} {as' : Array Value} {ws' : List Addr} {Q' : Option Value → Heap → Prop} {index W : Nat} {argsL rest stk : List Value} {a : Addr} (P : Pos p l e R s m args below meth c Z own ws bd T h k n) (M : Jvm.OwnW.OMet l y bytes maxL none [] rm Z h ws' as' Q')
    (hyn : y.name = "<init>") (w1 : (Cond.methodLink own index y).before a0 Z = true) (w2 : (Cond.instanceMethod y).before a0 Z = true) (w3 : (Cond.initialized y.cls).before a0 Z = true) (w4 : (Cond.code y bytes maxL none).before a0 Z = true) (hy : y.cls ≠ "java/lang/invoke/MethodHandle" ∧ y.cls ≠ "java/lang/invoke/VarHandle") (hml : Ls.size = c.maxLocals)
    (hlen : ∀ sig, parseMethodDescriptor y.desc = some sig → argsL.length = sig.parameters.length) (has : (.ref a :: argsL).toArray = as') (hst : stk = argsL.reverse ++ .ref a :: rest) (hW : (rest.map fun v => v.category).sum ≤ W) (hf : rm.frames + 1 ≤ R.frames) (hl : W + (maxL + 11) + rm.locals ≤ R.locals) (hc : k + rm.cells ≤ R.cells) (hs : n + rm.slots ≤ R.slots)
    (hws : ∀ x ∈ ws', x ∈ ws ∨ bd ≤ x) (hd : decode c.code pc = .ok (.invokespecial index, 3)) (hp : pc + 3 = pc') {k' n' : Nat} (hk' : k + rm.cells = k') (hn' : n + rm.slots = n')
    (K : ∀ T' h' v, Pos p l e R s m args below meth c Z own ws bd T' h' k' n' → Keep h h' ws' → Q' v h' → Done p l e R s m args below meth c Z own ws bd Q T' (mkF m pc' Ls (v.toList ++ rest))) : Done p l e R s m args below meth c Z own ws bd Q T (mkF m pc Ls stk) := by
  obtain ⟨vm0, k0, hS, hk0, ⟨L, X, N'⟩, eT, b, hZ, hx, ho, hlk, _, _⟩ := id P
  subst hst has hp hk' hn'
  obtain ⟨v, _, ⟨T', L', k1, n1⟩, -, X', ⟨Lc, hq, l', y', z'⟩, stp⟩ := X.specialBack hx (y := y) hyn ho (mvT hZ w1) (mvT hZ w2) (mvT hZ w4) hy (backOf (W := W) (Q := fun v h' L => Q' v h' ∧ Fw ws' h.size L ∧ Keep h h' ws') M hZ w4 w3 hf hl) (g := mkF m pc Ls (argsL.reverse ++ .ref a :: rest)) rfl hml (Steps.refl _) (a := a) (argsL := argsL) (rest := rest) hlen rfl (by show 2 * 0 + _ ≤ _; omega) hd (fun _ _ => ⟨rfl, eT, hc, hs⟩)
  dsimp only [Pt.U, Pt.locs, Pt.cells, Pt.slots] at X' l' y' z' stp hq
  subst l' y' z'
  exact Done.step (fun t kk => stp.trans kk) (K T' T'.heap v ⟨vm0, k0, hS, (Nat.le_trans hk0 hq.2.2.1), ⟨_, X', N'.app fun y hy => (hq.2.1 y hy).elim (fun q => hws _ q) (fun q => Or.inr (Nat.le_trans b q))⟩, rfl, Nat.le_trans b hq.2.2.1, hZ, hx, ho, hlk, hc, hs⟩ hq.2.2 hq.1)
theorem wCallV {y : MethodName} {bytes : ByteArray} {maxL : Nat} {ret : Option FieldType} {rm : Room} {as' : Array Value} {ws' : List Addr} {Q' : Option Value → Heap → Prop} {index W : Nat} {argsL rest stk : List Value} {z : MethodName} {C : String} {a : Addr} (P : Pos p l e R s m args below meth c Z own ws bd T h k n) (M : Jvm.OwnW.OMet l z bytes maxL ret [] rm Z h ws' as' Q')
    (w1 : (Cond.methodLink own index y).before a0 Z = true) (w2 : (Cond.declares y).before a0 Z = true) (w5 : (Cond.selects C y z).before a0 Z = true) {D : String} (w7 : (Cond.selects D y y).before a0 Z = true) (w6 : (Cond.instanceMethod z).before a0 Z = true) (w3 : (Cond.initialized z.cls).before a0 Z = true) (w4 : (Cond.code z bytes maxL ret).before a0 Z = true) (hy : y.cls ≠ "java/lang/invoke/MethodHandle" ∧ y.cls ≠ "java/lang/invoke/VarHandle") (E : Exa Z h a C) (hml : Ls.size = c.maxLocals)
    (hlen : ∀ sig, parseMethodDescriptor y.desc = some sig → argsL.length = sig.parameters.length) (has : (.ref a :: argsL).toArray = as') (hst : stk = argsL.reverse ++ .ref a :: rest) (hW : (rest.map fun v => v.category).sum ≤ W) (hf : rm.frames + 1 ≤ R.frames) (hl : W + (maxL + 11) + rm.locals ≤ R.locals) (hc : k + rm.cells ≤ R.cells) (hs : n + rm.slots ≤ R.slots)
    (hws : ∀ x ∈ ws', x ∈ ws ∨ bd ≤ x) (hd : decode c.code pc = .ok (.invokevirtual index, 3)) (hp : pc + 3 = pc') {k' n' : Nat} (hk' : k + rm.cells = k') (hn' : n + rm.slots = n')
    (K : ∀ T' h' v, Pos p l e R s m args below meth c Z own ws bd T' h' k' n' → Keep h h' ws' → Q' v h' → Done p l e R s m args below meth c Z own ws bd Q T' (mkF m pc' Ls (v.toList ++ rest))) : Done p l e R s m args below meth c Z own ws bd Q T (mkF m pc Ls stk) := by
  obtain ⟨vm0, k0, hS, hk0, ⟨L, X, N'⟩, eT, b, hZ, hx, ho, hlk, _, _⟩ := id P
  subst hst has hp hk' hn'
  obtain ⟨cq, kq, qa, qb, qc⟩ := isOf hZ eT E
  obtain ⟨v, _, ⟨T', L', k1, n1⟩, -, X', ⟨Lc, hq, l', y', z'⟩, stp⟩ := X.virtualBack hx (y := y) (z := z) ho (mvT hZ w1) (mvT hZ w2) (notFace_of_selects (args := #[]) (mvT hZ w7)) (mvT hZ w5) (mvT hZ w6) hy (backOf (W := W) (Q := fun v h' L => Q' v h' ∧ Fw ws' h.size L ∧ Keep h h' ws') M hZ w4 w3 hf hl) qa qc (g := mkF m pc Ls (argsL.reverse ++ .ref a :: rest)) rfl hml (Steps.refl _) (argsL := argsL) (rest := rest) hlen rfl (by show 2 * 0 + _ ≤ _; omega) hd (fun _ _ => ⟨rfl, eT, hc, hs⟩)
  dsimp only [Pt.U, Pt.locs, Pt.cells, Pt.slots] at X' l' y' z' stp hq
  subst l' y' z'
  exact Done.step (fun t kk => stp.trans kk) (K T' T'.heap v ⟨vm0, k0, hS, (Nat.le_trans hk0 hq.2.2.1), ⟨_, X', N'.app fun y hy => (hq.2.1 y hy).elim (fun q => hws _ q) (fun q => Or.inr (Nat.le_trans b q))⟩, rfl, Nat.le_trans b hq.2.2.1, hZ, hx, ho, hlk, hc, hs⟩ hq.2.2 hq.1)
theorem wCallP {y : MethodName} {bytes : ByteArray} {maxL : Nat} {ret : Option FieldType} {rm : Room} {as' : Array Value} {ws' : List Addr} {Q' : Option Value → Heap → Prop} {index W kk : Nat} {argsL rest stk : List Value} {a : Addr} {C : String} (P : Pos p l e R s m args below meth c Z own ws bd T h k n) (M : Jvm.OwnW.OMet l y bytes maxL ret [] rm Z h ws' as' Q')
    (w1 : (Cond.methodLink own index y).before a0 Z = true) (w2 : (Cond.instanceMethod y).before a0 Z = true) (w5 : (Cond.privateMethod y).before a0 Z = true) (wi : (Cond.instantiable y.cls kk).before a0 Z = true) (w3 : (Cond.initialized y.cls).before a0 Z = true) (w4 : (Cond.code y bytes maxL ret).before a0 Z = true) (hy : y.cls ≠ "java/lang/invoke/MethodHandle" ∧ y.cls ≠ "java/lang/invoke/VarHandle") (E : Exa Z h a C) (hml : Ls.size = c.maxLocals)
    (hlen : ∀ sig, parseMethodDescriptor y.desc = some sig → argsL.length = sig.parameters.length) (has : (.ref a :: argsL).toArray = as') (hst : stk = argsL.reverse ++ .ref a :: rest) (hW : (rest.map fun v => v.category).sum ≤ W) (hf : rm.frames + 1 ≤ R.frames) (hl : W + (maxL + 11) + rm.locals ≤ R.locals) (hc : k + rm.cells ≤ R.cells) (hs : n + rm.slots ≤ R.slots)
    (hws : ∀ x ∈ ws', x ∈ ws ∨ bd ≤ x) (hd : decode c.code pc = .ok (.invokevirtual index, 3)) (hp : pc + 3 = pc') {k' n' : Nat} (hk' : k + rm.cells = k') (hn' : n + rm.slots = n')
    (K : ∀ T' h' v, Pos p l e R s m args below meth c Z own ws bd T' h' k' n' → Keep h h' ws' → Q' v h' → Done p l e R s m args below meth c Z own ws bd Q T' (mkF m pc' Ls (v.toList ++ rest))) : Done p l e R s m args below meth c Z own ws bd Q T (mkF m pc Ls stk) := by
  obtain ⟨vm0, k0, hS, hk0, ⟨L, X, N'⟩, eT, b, hZ, hx, ho, hlk, _, _⟩ := id P
  subst hst has hp hk' hn'
  obtain ⟨cl, hcl, hst⟩ := E.cell
  have hpr : (s.setVm vm0).PrivateAt y := Cond.privateMethod_at (mvP hZ w5 (args := #[]))
  obtain ⟨ci, ki, hi1, hi2, -, hi3, -⟩ := Cond.instantiable_spec (mvT hZ wi : (Cond.instantiable y.cls kk).before args (s.setVm vm0) = true)
  have hsel : (Cond.selects y.cls y y).before args (s.setVm vm0) = true := selects_self_of_private hi1 hi2 (by simp only [Bool.or_eq_false_iff] at hi3; exact hi3.1) hpr (mvT hZ w2) hy
  obtain ⟨v, _, ⟨T', L', k1, n1⟩, -, X', ⟨Lc, hq, l', y', z'⟩, stp⟩ := X.privateBack hx (y := y) ho (mvT hZ w1) (mvT hZ w2) hsel hpr (mvT hZ w4) hy (backOf (W := W) (Q := fun v h' L => Q' v h' ∧ Fw ws' h.size L ∧ Keep h h' ws') M hZ w4 w3 hf hl) (g := mkF m pc Ls (argsL.reverse ++ .ref a :: rest)) rfl hml (Steps.refl _) (a := a) (by rw [eT]; exact hcl) hst (argsL := argsL) (rest := rest) hlen rfl (by show 2 * 0 + _ ≤ _; omega) hd (fun _ _ => ⟨rfl, eT, hc, hs⟩)
  dsimp only [Pt.U, Pt.locs, Pt.cells, Pt.slots] at X' l' y' z' stp hq
  subst l' y' z'
  exact Done.step (fun t kk => stp.trans kk) (K T' T'.heap v ⟨vm0, k0, hS, (Nat.le_trans hk0 hq.2.2.1), ⟨_, X', N'.app fun y hy => (hq.2.1 y hy).elim (fun q => hws _ q) (fun q => Or.inr (Nat.le_trans b q))⟩, rfl, Nat.le_trans b hq.2.2.1, hZ, hx, ho, hlk, hc, hs⟩ hq.2.2 hq.1)
theorem wNat {y : MethodName} {by0 : ByteArray} {ml : Nat} {rt : Option FieldType} {index W : Nat} {F : Array Value → Prop} {val : Value} {argsL rest stk : List Value} (P : Pos p l e R s m args below meth c Z own ws bd T h k n)
    (w1 : (Cond.methodLink own index y).before a0 Z = true) (w2 : (Cond.static y).before a0 Z = true) (w3 : (Cond.initialized y.cls).before a0 Z = true) (w4 : (Cond.code y by0 ml rt).before a0 Z = true) (hy : y.cls ≠ "java/lang/invoke/MethodHandle" ∧ y.cls ≠ "java/lang/invoke/VarHandle")
    (hK : ∀ s, (Cond.code y by0 ml rt).before args s = true → Back l R p e below s args y 3 W (fun A a' => A.cells ≤ R.cells ∧ A.slots ≤ R.slots ∧ F a') (fun A _ v B => v = some val ∧ B = A)) (hml : Ls.size = c.maxLocals)
    (hlen : ∀ sig, parseMethodDescriptor y.desc = some sig → argsL.length = sig.parameters.length) (hst : stk = argsL.reverse ++ rest) (hW : (rest.map fun v => v.category).sum ≤ W) (hd : decode c.code pc = .ok (.invokestatic index, 3)) (hp : pc + 3 = pc') (hF : F argsL.toArray)
    (K : ∀ T', Pos p l e R s m args below meth c Z own ws bd T' h k n → Done p l e R s m args below meth c Z own ws bd Q T' (mkF m pc' Ls (val :: rest))) : Done p l e R s m args below meth c Z own ws bd Q T (mkF m pc Ls stk) := by
  obtain ⟨vm0, k0, hS, hk0, ⟨L, X, N'⟩, eT, b, hZ, hx, ho, hlk, hc, hs⟩ := id P
  subst hst hp
  obtain ⟨T', X', e', stp⟩ := natS X hx hZ ho w1 w2 w3 w4 hy eT (hK _) (g := mkF m pc Ls (argsL.reverse ++ rest)) rfl hml hlen rfl (by show 2 * 0 + _ ≤ _; omega) hd hc hs hF rfl
  exact Done.step stp (K T' ⟨vm0, k0, hS, (hk0), ⟨L, X', N'⟩, e', b, hZ, hx, ho, hlk, hc, hs⟩)
theorem wClone {N cap index W : Nat} {f : Nat → UInt64} {a : Addr} (P : Pos p l e R s m args below meth c Z own ws bd T h k n) (A : Ar Z h a .double N (fun i => .double (f i))) (E : Exa Z h a "[D")
    (w1 : (Cond.methodLink own index ⟨"[D", "clone", "()Ljava/lang/Object;"⟩).before a0 Z = true) (w2 : (Cond.sameMethod "[D" "java/lang/Object" "clone" "()Ljava/lang/Object;").before a0 Z = true) (w3 : (Cond.native ⟨"java/lang/Object", "clone", "()Ljava/lang/Object;"⟩).before a0 Z = true)
    (w4 : (Cond.instanceMethod ⟨"java/lang/Object", "clone", "()Ljava/lang/Object;"⟩).before a0 Z = true) (w5 : (Cond.selects "[D" ⟨"[D", "clone", "()Ljava/lang/Object;"⟩ ⟨"java/lang/Object", "clone", "()Ljava/lang/Object;"⟩).before a0 Z = true) (w6 : (Cond.castable "[D" "java/lang/Cloneable").before a0 Z = true)
    (hml : Ls.size = c.maxLocals) (hd : decode c.code pc = .ok (.invokevirtual index, 3)) (hp : pc + 3 = pc') (hf : 1 ≤ R.frames) (hW : (st.map fun v => v.category).sum ≤ W) (hl : W + 14 ≤ R.locals) (hcap : N ≤ cap) (hc : k + 1 ≤ R.cells) (hsl : n + cap ≤ R.slots) {k' n' : Nat} (hk' : k + 1 = k') (hn' : n + cap = n')
    (K : ∀ T' h' b, b = h.size → h.size < h'.size → Pos p l e R s m args below meth c Z own ws bd T' h' k' n' → Ext h h' → Ar Z h' b .double N (fun i => .double (f i)) → Exa Z h' b "[D" → Done p l e R s m args below meth c Z own ws bd Q T' (mkF m pc' Ls (.ref b :: st))) : Done p l e R s m args below meth c Z own ws bd Q T (mkF m pc Ls (.ref a :: st)) := by
  obtain ⟨vm0, k0, hS, hk0, ⟨L, X, N'⟩, eT, b, hZ, hx, ho, hlk, _, _⟩ := id P
  obtain ⟨cl, Ar, S, hN, H⟩ := A
  have FC : FitC Z cl := fitC_of Ar fun i hi v hv => by rw [H i (by omega)] at hv; cases hv; rfl
  obtain ⟨T', h', X', e', ex, A', E', stp⟩ := cloneA X hx hZ ho w1 w2 w3 w4 w5 w6 eT Ar E FC (g := mkF m pc Ls (.ref a :: st)) rfl hml rfl hd hf (W := W) (by show 2 * 0 + _ ≤ _; omega) hl (cap := cap) (by omega) hc hsl
  subst hp hk' hn'
  exact Done.step stp (K T' h' h.size rfl A'.lt ⟨vm0, k0, hS, (Nat.le_trans hk0 ex.1), ⟨L, X', N'⟩, e', Nat.le_trans b ex.1, hZ, hx, ho, hlk, hc, hsl⟩ ex ⟨_, A', S, hN, H⟩ E')
theorem wCopyD {N M K0 index W : Nat} {f g : Nat → UInt64} {a b : Addr} {nn : Int32} (P : Pos p l e R s m args below meth c Z own [] bd T h k n) (A : Ar Z h a .double N (fun i => .double (f i))) (B : Ar Z h b .double M (fun i => .double (g i))) (hnn : nn.toInt = (K0 : Int)) (h1 : K0 ≤ N) (h2 : K0 ≤ M) (ge : bd ≤ b)
    (w1 : (Cond.methodLink own index Jvm.Stand.acN).before a0 Z = true) (w2 : (Cond.native Jvm.Stand.acN).before a0 Z = true) (w3 : (Cond.static Jvm.Stand.acN).before a0 Z = true) (w4 : (Cond.initialized "java/lang/System").before a0 Z = true)
    (hml : Ls.size = c.maxLocals) (hd : decode c.code pc = .ok (.invokestatic index, 3)) (hp : pc + 3 = pc') (hf : 1 ≤ R.frames) (hW : (st.map fun v => v.category).sum ≤ W) (hlo : W + (nativeFrameWords "java/lang/System" "arraycopy" 5 + 11) ≤ R.locals)
    (K : ∀ T' h', Pos p l e R s m args below meth c Z own [] bd T' h' k n → Keep h h' [b] → Ar Z h' b .double M (fun i => .double (if i < K0 then f i else g i)) → Done p l e R s m args below meth c Z own [] bd Q T' (mkF m pc' Ls st)) :
    Done p l e R s m args below meth c Z own [] bd Q T (mkF m pc Ls (.int nn :: .int 0 :: .ref b :: .int 0 :: .ref a :: st)) := by
  obtain ⟨vm0, k0, hS, hk0, ⟨L, X, N'⟩, eT, hb', hZ, hx, ho, r⟩ := id P
  have hN := A.len
  have hM := B.len
  obtain ⟨kA, VA⟩ := A.toArv (.double 0) (fun _ => rfl) rfl
  obtain ⟨kB, VB⟩ := B.toArv (.double 0) (fun _ => rfl) rfl
  have z0 : ¬ (0 : Int32) < 0 := by decide
  have z1 : (0 : Int32).toNatClampNeg = 0 := by decide
  have q0 : ¬ nn < 0 := by rw [Int32.lt_iff_toInt_lt, hnn, show (0 : Int32).toInt = 0 from rfl]; omega
  have q1 : nn.toNatClampNeg = K0 := by rw [Int32.toNatClampNeg, hnn]; omega
  obtain ⟨T', h', L', X', e', F', Kp, V', stp⟩ := cpA X hx hZ ho w1 w2 w3 w4 eT VA VB (Or.inl ⟨rfl, rfl⟩) z0 z0 q0 (by rw [z1, q1, (n32 hN).2]; omega) (by rw [z1, q1, (n32 hM).2]; omega) rfl (by rw [z1, q1]; simp; omega) (n0 := bd) N'.toFr ge (g := mkF m pc Ls (.int nn :: .int 0 :: .ref b :: .int 0 :: .ref a :: st)) rfl hml rfl hd hf (W := W) (by show 2 * 0 + _ ≤ _; omega) hlo
  subst hp
  refine Done.step stp (K T' h' ⟨vm0, k0, hS, (Nat.le_trans hk0 Kp.1), ⟨L', X', Fw.ofFr F'⟩, e', Nat.le_trans hb' Kp.1, hZ, hx, ho, r⟩ Kp ((Ar.ofArv hM V').congr fun i hi => ?_))
  rw [z1, q1]
  by_cases q : i < K0
  · rw [if_pos q]
    simp [List.getD_eq_getElem?_getD, List.getElem?_append, q]
    rw [List.getElem?_range (by omega)]
    rfl
  · rw [if_neg q]
    simp [List.getD_eq_getElem?_getD, List.getElem?_append, q]
    have e2 : K0 + (i - K0) = i := by omega
    simp [e2, hi]
theorem pLdcI {index : Nat} {v : Int32} {t : State} (P : Pos p l e R s m args below meth c Z own ws bd T h k n) (w : (Cond.constant own index v).before a0 Z = true) (hd : decode c.code pc = .ok (.ldc index, 2)) (hp : pc + 2 = pc') (kk : Steps p.tables e below (T.setTop (mkF m pc' Ls (.int v :: st))) t) : Steps p.tables e below (T.setTop (mkF m pc Ls st)) t := by
  obtain ⟨vm0, k0, hS, hk0, ⟨L, X, N'⟩, eT, b, hZ, hx, ho, hlk, _, _⟩ := id P
  subst hp
  exact X.ldcI hx ho (mvT hZ w) (g := mkF m pc Ls st) rfl hd kk
theorem pLdcIw {index : Nat} {v : Int32} {t : State} (P : Pos p l e R s m args below meth c Z own ws bd T h k n) (w : (Cond.constant own index v).before a0 Z = true) (hd : decode c.code pc = .ok (.ldc_w index, 3)) (hp : pc + 3 = pc') (kk : Steps p.tables e below (T.setTop (mkF m pc' Ls (.int v :: st))) t) : Steps p.tables e below (T.setTop (mkF m pc Ls st)) t := by
  obtain ⟨vm0, k0, hS, hk0, ⟨L, X, N'⟩, eT, b, hZ, hx, ho, hlk, _, _⟩ := id P
  subst hp
  exact X.ldcWI hx ho (mvT hZ w) (g := mkF m pc Ls st) rfl hd kk
theorem pLdcJ {index : Nat} {v : Int64} {t : State} (P : Pos p l e R s m args below meth c Z own ws bd T h k n) (w : (Cond.constantLong own index v).before a0 Z = true) (hd : decode c.code pc = .ok (.ldc2_w index, 3)) (hp : pc + 3 = pc') (kk : Steps p.tables e below (T.setTop (mkF m pc' Ls (.long v :: st))) t) : Steps p.tables e below (T.setTop (mkF m pc Ls st)) t := by
  obtain ⟨vm0, k0, hS, hk0, ⟨L, X, N'⟩, eT, b, hZ, hx, ho, hlk, _, _⟩ := id P
  subst hp
  exact X.ldc2J hx ho (mvT hZ w) (g := mkF m pc Ls st) rfl hd kk
theorem pLdcD {index : Nat} {v : UInt64} {t : State} (P : Pos p l e R s m args below meth c Z own ws bd T h k n) (w : (Cond.constantDouble own index v).before a0 Z = true) (hd : decode c.code pc = .ok (.ldc2_w index, 3)) (hp : pc + 3 = pc') (kk : Steps p.tables e below (T.setTop (mkF m pc' Ls (.double v :: st))) t) : Steps p.tables e below (T.setTop (mkF m pc Ls st)) t := by
  obtain ⟨vm0, k0, hS, hk0, ⟨L, X, N'⟩, eT, b, hZ, hx, ho, hlk, _, _⟩ := id P
  subst hp
  exact X.ldc2DoubleC hx ho (mvT hZ w) (g := mkF m pc Ls st) rfl hd t kk
theorem pAcmp {cd : ACond} {x y : Value} {rest stk : List Value} {o : Int} {pc0 : Nat} {same : Bool} {t : State} (P : Pos p l e R s m args below meth c Z own ws bd T h k n) (h1 : x.isRef = true) (h2 : y.isRef = true) (hpc : pc = pc0) (hd : decode c.code pc = .ok (.if_acmp cd o, 3)) (hs : stk = y :: x :: rest) (hq : decide (x = y) = same) (ho : 0 ≤ (pc0 : Int) + o)
    (hp : pc' = if acV cd same = true then ((pc0 : Int) + o).toNat else pc0 + 3) (kk : Steps p.tables e below (T.setTop (mkF m pc' Ls rest)) t) : Steps p.tables e below (T.setTop (mkF m pc Ls stk)) t := by
  obtain ⟨vm0, k0, hS, hk0, ⟨L, X, N'⟩, eT, b, hZ, hx, ho', hlk, _, _⟩ := id P
  exact Jvm.RoadKit.acmp (g := mkF m pc Ls stk) X hx rfl h1 h2 (pc0 := pc0) (pc' := pc') (same := same) hpc hd hs hq ho hp kk
/-- ldc of a String constant: a reference, nothing more is told of it -/
theorem wLdcS {text : String} {index N : Nat} (P : Pos p l e R s m args below meth c Z own ws bd T h k n) (w : (Cond.stringLink own index text).before a0 Z = true) (wS : ∀ a ∈ Bundle.stringAtoms, a.before a0 Z = true) (hd : decode c.code pc = .ok (.ldc index, 2)) (hp : pc + 2 = pc') (hn : 4 * text.toList.length ≤ N) (hbig : N ≤ 536870912) (hc : k + 2 ≤ R.cells) (hl : n + (N + 4) ≤ R.slots) {k' n' : Nat} (hk' : k + 2 = k') (hn' : n + (N + 4) = n')
    (K : ∀ T' h' a, Pos p l e R s m args below meth c Z own ws bd T' h' k' n' → Ext h h' → Done p l e R s m args below meth c Z own ws bd Q T' (mkF m pc' Ls (.ref a :: st))) : Done p l e R s m args below meth c Z own ws bd Q T (mkF m pc Ls st) := by
  obtain ⟨vm0, k0, hS, hk0, ⟨L, X, N'⟩, eT, b, hZ, hx, ho, hlk, _, _⟩ := id P
  subst hp hk' hn'
  obtain ⟨a, T', h', k1, X', e', E, S', hk1, hZ', ho', stp⟩ := ldcS X hx hZ ho w wS eT hS hk0 (g := mkF m pc Ls st) rfl hd hn hbig hc hl
  exact Done.step stp (K T' h' a ⟨T'.vm, k1, S', hk1, ⟨L, X', N'⟩, e', Nat.le_trans b E.1, hZ', hx, ho', hlk, hc, hl⟩ E)
/-- a contract out of a walk -/
theorem OMet.of {y : MethodName} {bytes : ByteArray} {maxL : Nat} {ret : Option FieldType} {wd : List Cond} {rm : Room} {as' : Array Value} {nm : String} (hy : plainFor y = true) (hyc : y.cls = own) (hyn : y.name = nm)
    (H : ∀ p e s m below meth c s₁, Pos p l e rm s m as' below meth c Z own ws h.size s₁ h 0 0 → c.code = bytes → c.maxLocals = maxL → meth.sig.returnType = ret → meth.name = nm → Done p l e rm s m as' below meth c Z own ws h.size Q s₁ (entryFrame m as' maxL)) :
    OMet l y bytes maxL ret wd rm Z h ws as' Q := by
  subst hyc hyn
  refine MetFree.of_bodySF hy hisR ?_
  intro p e s m args below meth c s₁ Bd hml hP hK
  obtain ⟨rfl, hZ, hh⟩ := hP
  have hown : s.vm.findClass y.cls = some m.cls := findClass_of_methodNamed Bd.named
  have hnm := (name_of_methodNamed Bd.named Bd.method).1
  have X0 : Stand p l e rm s m args below meth c s₁ [] 0 0 := Stand.of_body Bd
  have e0 : s₁.heap = h := by rw [← hh, Bd.state]; rfl
  obtain ⟨v, T', h', k, n, ⟨vm0, k0, hS, hk0, ⟨L, X, N⟩, eT, _, _, _, _, hlk, hk, hnn⟩, hv, hq, st⟩ := H p e s m below meth c s₁ ⟨s.vm, s.heap.size, (State.WarmedH.refl s).since _, (by rw [← hh]; exact Nat.le_refl _), ⟨[], X0, Fw.nil _ _⟩, e0, Nat.le_refl _, hZ, Bd.exec, hown, Bd.notSynchronized, Nat.zero_le _, Nat.zero_le _⟩ Bd.bytes hml Bd.returns hnm
  obtain ⟨fs, hr, hrun, hended, e1, e2, e3, hsame⟩ := X.leaveW hS (by rw [eT]; exact hk0) (v := v) hv hlk
  refine ⟨_, _, st fs hr, hrun, hended, v, L, rfl, ⟨?_, N, ?_⟩, e1, e2, e3, hsame.mono hk hnn⟩
  · rw [show (T'.setFrames fs).heap = T'.heap from rfl, eT]
    exact hq
  · subst hh
    have q := keepOf hsame N
    exact q
theorem wCallSW {y : MethodName} {bytes : ByteArray} {maxL : Nat} {ret : Option FieldType} {rm : Room} {as' : Array Value} {ws' : List Addr} {Q' : Option Value → Heap → Prop} {index W : Nat} {argsL rest stk : List Value} (P : Pos p l e R s m args below meth c Z own ws bd T h k n) (M : OMet l y bytes maxL ret [] rm Z h ws' as' Q')
    (w1 : (Cond.methodLink own index y).before a0 Z = true) (w2 : (Cond.static y).before a0 Z = true) (w3 : (Cond.initialized y.cls).before a0 Z = true) (w4 : (Cond.code y bytes maxL ret).before a0 Z = true) (hy : y.cls ≠ "java/lang/invoke/MethodHandle" ∧ y.cls ≠ "java/lang/invoke/VarHandle") (hml : Ls.size = c.maxLocals)
    (hlen : ∀ sig, parseMethodDescriptor y.desc = some sig → argsL.length = sig.parameters.length) (has : (argsL).toArray = as') (hst : stk = argsL.reverse ++ rest) (hW : (rest.map fun v => v.category).sum ≤ W) (hf : rm.frames + 1 ≤ R.frames) (hl : W + (maxL + 11) + rm.locals ≤ R.locals) (hc : k + rm.cells ≤ R.cells) (hs : n + rm.slots ≤ R.slots)
    (hws : ∀ x ∈ ws', x ∈ ws ∨ bd ≤ x) (hd : decode c.code pc = .ok (.invokestatic index, 3)) (hp : pc + 3 = pc') {k' n' : Nat} (hk' : k + rm.cells = k') (hn' : n + rm.slots = n')
    (K : ∀ T' h' v, Pos p l e R s m args below meth c Z own ws bd T' h' k' n' → Keep h h' ws' → Q' v h' → Done p l e R s m args below meth c Z own ws bd Q T' (mkF m pc' Ls (v.toList ++ rest))) : Done p l e R s m args below meth c Z own ws bd Q T (mkF m pc Ls stk) := by
  obtain ⟨vm0, k0, hS, hk0, ⟨L, X, N'⟩, eT, b, hZ, hx, ho, hlk, _, _⟩ := id P
  subst hst has hp hk' hn'
  obtain ⟨v, _, ⟨T', L', k1, n1⟩, -, X', hS2, hgr, ⟨Lc, hq, l', y', z'⟩, stp⟩ := Jvm.RoadKit.callSS X hx (y := y) ho (mvT hZ w1) (mvT hZ w2) (mvT hZ w3) (mvT hZ w4) hy (backOfS (W := W) (Q := fun v h' L => Q' v h' ∧ Fw ws' h.size L ∧ Keep h h' ws') M hZ w4 w3 hf hl) (g := mkF m pc Ls (argsL.reverse ++ rest)) rfl hml (argsL := argsL) (rest := rest) hlen rfl (by show 2 * 0 + _ ≤ _; omega) hd (fun _ _ => ⟨rfl, eT, hc, hs⟩)
  dsimp only [Pt.U, Pt.locs, Pt.cells, Pt.slots] at X' hS2 hgr l' y' z' stp hq
  subst l' y' z'
  obtain ⟨X2, S2, Z2, O2⟩ := rebS hS (n1 := h.size) hk0 X' hS2 (by rw [← eT]; exact hgr) hZ ho
  exact Done.step (fun t kk => stp.trans kk) (K T' T'.heap v ⟨_, _, S2, Nat.le_refl _, ⟨_, X2, N'.app fun y hy => (hq.2.1 y hy).elim (fun q => hws _ q) (fun q => Or.inr (Nat.le_trans b q))⟩, rfl, Nat.le_trans b hq.2.2.1, Z2, hx, O2, hlk, hc, hs⟩ hq.2.2 hq.1)
theorem wCallIW {y : MethodName} {bytes : ByteArray} {maxL : Nat} {rm : Room} {as' : Array Value} {ws' : List Addr} {Q' : Option Value → Heap → Prop} {index W : Nat} {argsL rest stk : List Value} {a : Addr} (P : Pos p l e R s m args below meth c Z own ws bd T h k n) (M : OMet l y bytes maxL none [] rm Z h ws' as' Q')
    (hyn : y.name = "<init>") (w1 : (Cond.methodLink own index y).before a0 Z = true) (w2 : (Cond.instanceMethod y).before a0 Z = true) (w3 : (Cond.initialized y.cls).before a0 Z = true) (w4 : (Cond.code y bytes maxL none).before a0 Z = true) (hy : y.cls ≠ "java/lang/invoke/MethodHandle" ∧ y.cls ≠ "java/lang/invoke/VarHandle") (hml : Ls.size = c.maxLocals)
    (hlen : ∀ sig, parseMethodDescriptor y.desc = some sig → argsL.length = sig.parameters.length) (has : (.ref a :: argsL).toArray = as') (hst : stk = argsL.reverse ++ .ref a :: rest) (hW : (rest.map fun v => v.category).sum ≤ W) (hf : rm.frames + 1 ≤ R.frames) (hl : W + (maxL + 11) + rm.locals ≤ R.locals) (hc : k + rm.cells ≤ R.cells) (hs : n + rm.slots ≤ R.slots)
    (hws : ∀ x ∈ ws', x ∈ ws ∨ bd ≤ x) (hd : decode c.code pc = .ok (.invokespecial index, 3)) (hp : pc + 3 = pc') {k' n' : Nat} (hk' : k + rm.cells = k') (hn' : n + rm.slots = n')
    (K : ∀ T' h' v, Pos p l e R s m args below meth c Z own ws bd T' h' k' n' → Keep h h' ws' → Q' v h' → Done p l e R s m args below meth c Z own ws bd Q T' (mkF m pc' Ls (v.toList ++ rest))) : Done p l e R s m args below meth c Z own ws bd Q T (mkF m pc Ls stk) := by
  obtain ⟨vm0, k0, hS, hk0, ⟨L, X, N'⟩, eT, b, hZ, hx, ho, hlk, _, _⟩ := id P
  subst hst has hp hk' hn'
  obtain ⟨v, _, ⟨T', L', k1, n1⟩, -, X', hS2, hgr, ⟨Lc, hq, l', y', z'⟩, stp⟩ := X.specialBackS hx (y := y) hyn ho (mvT hZ w1) (mvT hZ w2) (mvT hZ w4) hy (backOfS (W := W) (Q := fun v h' L => Q' v h' ∧ Fw ws' h.size L ∧ Keep h h' ws') M hZ w4 w3 hf hl) (g := mkF m pc Ls (argsL.reverse ++ .ref a :: rest)) rfl hml (Steps.refl _) (a := a) (argsL := argsL) (rest := rest) hlen rfl (by show 2 * 0 + _ ≤ _; omega) hd (fun _ _ => ⟨rfl, eT, hc, hs⟩)
  dsimp only [Pt.U, Pt.locs, Pt.cells, Pt.slots] at X' hS2 hgr l' y' z' stp hq
  subst l' y' z'
  obtain ⟨X2, S2, Z2, O2⟩ := rebS hS (n1 := h.size) hk0 X' hS2 (by rw [← eT]; exact hgr) hZ ho
  exact Done.step (fun t kk => stp.trans kk) (K T' T'.heap v ⟨_, _, S2, Nat.le_refl _, ⟨_, X2, N'.app fun y hy => (hq.2.1 y hy).elim (fun q => hws _ q) (fun q => Or.inr (Nat.le_trans b q))⟩, rfl, Nat.le_trans b hq.2.2.1, Z2, hx, O2, hlk, hc, hs⟩ hq.2.2 hq.1)
theorem wCallVW {y : MethodName} {bytes : ByteArray} {maxL : Nat} {ret : Option FieldType} {rm : Room} {as' : Array Value} {ws' : List Addr} {Q' : Option Value → Heap → Prop} {index W : Nat} {argsL rest stk : List Value} {z : MethodName} {C : String} {a : Addr} (P : Pos p l e R s m args below meth c Z own ws bd T h k n) (M : OMet l z bytes maxL ret [] rm Z h ws' as' Q')
    (w1 : (Cond.methodLink own index y).before a0 Z = true) (w2 : (Cond.declares y).before a0 Z = true) (w5 : (Cond.selects C y z).before a0 Z = true) {D : String} (w7 : (Cond.selects D y y).before a0 Z = true) (w6 : (Cond.instanceMethod z).before a0 Z = true) (w3 : (Cond.initialized z.cls).before a0 Z = true) (w4 : (Cond.code z bytes maxL ret).before a0 Z = true) (hy : y.cls ≠ "java/lang/invoke/MethodHandle" ∧ y.cls ≠ "java/lang/invoke/VarHandle") (E : Exa Z h a C) (hml : Ls.size = c.maxLocals)
    (hlen : ∀ sig, parseMethodDescriptor y.desc = some sig → argsL.length = sig.parameters.length) (has : (.ref a :: argsL).toArray = as') (hst : stk = argsL.reverse ++ .ref a :: rest) (hW : (rest.map fun v => v.category).sum ≤ W) (hf : rm.frames + 1 ≤ R.frames) (hl : W + (maxL + 11) + rm.locals ≤ R.locals) (hc : k + rm.cells ≤ R.cells) (hs : n + rm.slots ≤ R.slots)
    (hws : ∀ x ∈ ws', x ∈ ws ∨ bd ≤ x) (hd : decode c.code pc = .ok (.invokevirtual index, 3)) (hp : pc + 3 = pc') {k' n' : Nat} (hk' : k + rm.cells = k') (hn' : n + rm.slots = n')
    (K : ∀ T' h' v, Pos p l e R s m args below meth c Z own ws bd T' h' k' n' → Keep h h' ws' → Q' v h' → Done p l e R s m args below meth c Z own ws bd Q T' (mkF m pc' Ls (v.toList ++ rest))) : Done p l e R s m args below meth c Z own ws bd Q T (mkF m pc Ls stk) := by
  obtain ⟨vm0, k0, hS, hk0, ⟨L, X, N'⟩, eT, b, hZ, hx, ho, hlk, _, _⟩ := id P
  subst hst has hp hk' hn'
  obtain ⟨cq, kq, qa, qb, qc⟩ := isOf hZ eT E
  obtain ⟨v, _, ⟨T', L', k1, n1⟩, -, X', hS2, hgr, ⟨Lc, hq, l', y', z'⟩, stp⟩ := X.virtualBackS hx (y := y) (z := z) ho (mvT hZ w1) (mvT hZ w2) (notFace_of_selects (args := #[]) (mvT hZ w7)) (mvT hZ w5) (mvT hZ w6) hy (backOfS (W := W) (Q := fun v h' L => Q' v h' ∧ Fw ws' h.size L ∧ Keep h h' ws') M hZ w4 w3 hf hl) qa qc (g := mkF m pc Ls (argsL.reverse ++ .ref a :: rest)) rfl hml (Steps.refl _) (argsL := argsL) (rest := rest) hlen rfl (by show 2 * 0 + _ ≤ _; omega) hd (fun _ _ => ⟨rfl, eT, hc, hs⟩)
  dsimp only [Pt.U, Pt.locs, Pt.cells, Pt.slots] at X' hS2 hgr l' y' z' stp hq
  subst l' y' z'
  obtain ⟨X2, S2, Z2, O2⟩ := rebS hS (n1 := h.size) hk0 X' hS2 (by rw [← eT]; exact hgr) hZ ho
  exact Done.step (fun t kk => stp.trans kk) (K T' T'.heap v ⟨_, _, S2, Nat.le_refl _, ⟨_, X2, N'.app fun y hy => (hq.2.1 y hy).elim (fun q => hws _ q) (fun q => Or.inr (Nat.le_trans b q))⟩, rfl, Nat.le_trans b hq.2.2.1, Z2, hx, O2, hlk, hc, hs⟩ hq.2.2 hq.1)
end A
end Jvm.OwnX
namespace Jvm.OwnY
open Sem ClassFile Op Lib Jvm.Stand Jvm.Free Jvm.LawKit Jvm.RoadKit Jvm.OwnW
/-- where a walk stands; Φ is told of the tables that it rests on, hb0 is the heap at its start -/
def Pos (Φ : Vm → Prop) (hb0 : Heap) (p : Program) (l : Launch) (e : Env) (R : Room) (s : State) (m : MethodId) (args : Array Value) (below : List Frame) (meth : Method) (c : Code) (Z : State) (own : String) (ws : List Addr) (bd : Nat) (T : State) (h : Heap) (k n : Nat) : Prop :=
  ∃ (vm0 : Vm) (k0 : Nat), s.Since vm0 k0 ∧ k0 ≤ h.size ∧ (Φ vm0 ∧ s.heap = hb0) ∧ (∃ locs, Stand p l e R (s.setVm vm0) m args below meth c T locs k n ∧ Fw ws bd locs) ∧ T.heap = h ∧ bd ≤ h.size ∧ Z.Warmed39 (s.setVm vm0).vm ∧ p.tables.exec = Jvm.exec ∧ (s.setVm vm0).vm.findClass own = some m.cls ∧ meth.locks = false ∧ k ≤ R.cells ∧ n ≤ R.slots
/-- what stood at Z's heap stands in h -/
def Kept (Z : State) (h : Heap) : Prop := ∀ (b : Addr) (cl : Cell), Z.heap[b]? = some cl → h[b]? = some cl
theorem Kept.ext {Z : State} {h h' : Heap} (H : Kept Z h) (E : Ext h h') : Kept Z h' := fun b cl q => E.2 _ _ (H b cl q)
/-- a contract asked where the intern table is still the start's -/
def OMet (l : Launch) (y : MethodName) (bytes : ByteArray) (maxL : Nat) (ret : Option FieldType) (wd : List Cond) (rm : Room) (Z : State) (h : Heap) (ws : List Addr) (as' : Array Value) (Q : Option Value → Heap → Prop) : Prop :=
  MetFree l y (head1 (Cond.code y bytes maxL ret :: wd) rm) (fun a U => a = as' ∧ Z.Warmed39 U.vm ∧ U.heap = h ∧ IB Z U.vm []) (fun _ _ _ _ _ => True) (fun _ U o U' => ∃ v L, o = .returned v ∧ (Q v U'.heap ∧ Fw ws h.size L ∧ Keep h U'.heap ws) ∧ ReturnedEndW U o U' L rm.cells rm.slots)
section A
variable {p : Program} {l : Launch} {e : Env} {R : Room} {s : State} {m : MethodId} {args : Array Value} {below : List Frame} {meth : Method} {c : Code} {Z : State} {own : String} {ws : List Addr} {bd : Nat} {T : State} {h h' : Heap} {k n : Nat} {a0 : Array Value} {Q : Option Value → Heap → Prop} {pc pc' : Nat} {Ls : Array Slot} {st : List Value} {T₁ : State} {g₁ : JFrame} {Φ : Vm → Prop} {hb0 : Heap} {ws₁ ws₂ : List Addr}
theorem Pos.here (P : Pos Φ hb0 p l e R s m args below meth c Z own ws₁ bd T h k n) : At T m c below := by obtain ⟨_, _, _, _, _, ⟨_, X, _⟩, _⟩ := P; exact X.here
theorem Pos.x (P : Pos Φ hb0 p l e R s m args below meth c Z own ws₁ bd T h k n) : p.tables.exec = Jvm.exec := by obtain ⟨_, _, _, _, _, _, _, _, _, q, _⟩ := P; exact q
theorem Pos.ge (P : Pos Φ hb0 p l e R s m args below meth c Z own ws₁ bd T h k n) : bd ≤ h.size := by obtain ⟨_, _, _, _, _, _, _, q, _⟩ := P; exact q
theorem Pos.grow (P : Pos Φ hb0 p l e R s m args below meth c Z own ws₁ bd T h k n) (q : ∀ x ∈ ws₁, x ∈ ws₂) : Pos Φ hb0 p l e R s m args below meth c Z own ws₂ bd T h k n := by
  obtain ⟨vm0, k0, hS, hk0, hF0, ⟨L, X, N'⟩, r⟩ := P
  exact ⟨vm0, k0, hS, hk0, hF0, ⟨L, X, fun y hy => (N' y hy).imp (q _) id⟩, r⟩
theorem Pos.pos (P : Pos Φ hb0 p l e R s m args below meth c Z own ws₁ bd T h k n) (q : ∀ x ∈ ws₁, x ∈ ws₂) : OwnX.Pos p l e R s m args below meth c Z own ws₂ bd T h k n := by
  obtain ⟨vm0, k0, hS, hk0, hF0, ⟨L, X, N'⟩, r⟩ := P
  exact ⟨vm0, k0, hS, hk0, ⟨L, X, fun y hy => (N' y hy).imp (q _) id⟩, r⟩
theorem wGet {R0 O nm d host : String} {index : Nat} {a : Addr} {v : Value} (P : Pos Φ hb0 p l e R s m args below meth c Z own ws₁ bd T h k n) (w : (Cond.fieldLink own index R0 nm d).before a0 Z = true ∨ (Cond.fieldLinkNest own index R0 nm d host).before a0 Z = true) (via : Via Z R0 O nm d) (F : Fld Z h a O nm d v)
    (hd : decode c.code pc = .ok (.getfield index, 3)) (hp : pc + 3 = pc') (K : ∀ T', Pos Φ hb0 p l e R s m args below meth c Z own ws₁ bd T' h k n → OwnX.Done p l e R s m args below meth c Z own ws bd Q T' (mkF m pc' Ls (v :: st))) : OwnX.Done p l e R s m args below meth c Z own ws bd Q T (mkF m pc Ls (.ref a :: st)) := by
  obtain ⟨vm0, k0, hS, hk0, hF0, ⟨L, X, N'⟩, eT, b, hZ, hx, ho, r⟩ := id P
  obtain ⟨T', X', e', stp⟩ := getF X hx hZ ho w via eT F (g := mkF m pc Ls (.ref a :: st)) rfl rfl hd
  subst hp
  exact OwnX.Done.step stp (K T' ⟨vm0, k0, hS, (hk0), hF0, ⟨L, X', N'⟩, e', b, hZ, hx, ho, r⟩)
theorem wGetS {R0 O nm d host : String} {index : Nat} {v : Value} (P : Pos Φ hb0 p l e R s m args below meth c Z own ws₁ bd T h k n) (w : (Cond.fieldLink own index R0 nm d).before a0 Z = true ∨ (Cond.fieldLinkNest own index R0 nm d host).before a0 Z = true) (via : Via Z R0 O nm d) (F : Sta Z h O nm d v)
    (hd : decode c.code pc = .ok (.getstatic index, 3)) (hp : pc + 3 = pc') (K : ∀ T', Pos Φ hb0 p l e R s m args below meth c Z own ws₁ bd T' h k n → OwnX.Done p l e R s m args below meth c Z own ws bd Q T' (mkF m pc' Ls (v :: st))) : OwnX.Done p l e R s m args below meth c Z own ws bd Q T (mkF m pc Ls st) := by
  obtain ⟨vm0, k0, hS, hk0, hF0, ⟨L, X, N'⟩, eT, b, hZ, hx, ho, r⟩ := id P
  obtain ⟨T', X', e', stp⟩ := getS2 X hx hZ ho w via eT F (g := mkF m pc Ls st) rfl hd
  subst hp
  exact OwnX.Done.step stp (K T' ⟨vm0, k0, hS, (hk0), hF0, ⟨L, X', N'⟩, e', b, hZ, hx, ho, r⟩)
theorem wPut {R0 O nm d host C : String} {index kk : Nat} {ty : FieldType} {a : Addr} {v old : Value} (P : Pos Φ hb0 p l e R s m args below meth c Z own ws₁ bd T h k n) (w : (Cond.fieldLink own index R0 nm d).before a0 Z = true ∨ (Cond.fieldLinkNest own index R0 nm d host).before a0 Z = true) (via : Via Z R0 O nm d) (F : Fld Z h a O nm d old) (E : Exa Z h a C)
    (La : (Cond.lays C O nm d).before a0 Z = true ∨ ((Cond.laysFinal C O nm d).before a0 Z = true ∧ own = O ∧ meth.name = "<init>")) (wi : (Cond.instantiable C kk).before a0 Z = true) (hty : parseFieldDescriptor d = some ty) (hn : narrow ty v = v) (hf : fits ty v = true) (hge : a ∈ ws₁ ∨ bd ≤ a)
    (hd : decode c.code pc = .ok (.putfield index, 3)) (hp : pc + 3 = pc') (K : ∀ T' h', Pos Φ hb0 p l e R s m args below meth c Z own ws₁ bd T' h' k n → Wr h h' a (Jvm.RoadKit.slotOf Z O nm d) v → Fld Z h' a O nm d v → OwnX.Done p l e R s m args below meth c Z own ws bd Q T' (mkF m pc' Ls st)) : OwnX.Done p l e R s m args below meth c Z own ws bd Q T (mkF m pc Ls (v :: .ref a :: st)) := by
  obtain ⟨vm0, k0, hS, hk0, hF0, ⟨L, X, N'⟩, eT, b, hZ, hx, ho, r⟩ := id P
  obtain ⟨T', h', X', e', W, stp⟩ := putF X hx hZ ho w via eT F E La wi hty hn hf (g := mkF m pc Ls (v :: .ref a :: st)) rfl rfl hd
  subst hp
  exact OwnX.Done.step stp (K T' h' ⟨vm0, k0, hS, (by rw [W.size]; exact hk0), hF0, ⟨_, X', Fw.snoc N' hge⟩, e', by rw [W.size]; exact b, hZ, hx, ho, r⟩ W (F.same W))
theorem wPutN {R0 O nm d C : String} {index kk : Nat} {ty : FieldType} {a : Addr} {x x' : Int32} {old : Value} (P : Pos Φ hb0 p l e R s m args below meth c Z own ws₁ bd T h k n) (w : (Cond.fieldLink own index R0 nm d).before a0 Z = true) (via : Via Z R0 O nm d) (F : Fld Z h a O nm d old) (E : Exa Z h a C)
    (La : (Cond.lays C O nm d).before a0 Z = true ∨ ((Cond.laysFinal C O nm d).before a0 Z = true ∧ own = O ∧ meth.name = "<init>")) (wi : (Cond.instantiable C kk).before a0 Z = true) (hty : parseFieldDescriptor d = some ty) (hn : narrow ty (.int x) = .int x') (hf : fits ty (.int x') = true) (hge : a ∈ ws₁ ∨ bd ≤ a)
    (hd : decode c.code pc = .ok (.putfield index, 3)) (hp : pc + 3 = pc') (K : ∀ T' h', Pos Φ hb0 p l e R s m args below meth c Z own ws₁ bd T' h' k n → Wr h h' a (Jvm.RoadKit.slotOf Z O nm d) (.int x') → Fld Z h' a O nm d (.int x') → OwnX.Done p l e R s m args below meth c Z own ws bd Q T' (mkF m pc' Ls st)) : OwnX.Done p l e R s m args below meth c Z own ws bd Q T (mkF m pc Ls (.int x :: .ref a :: st)) := by
  obtain ⟨vm0, k0, hS, hk0, hF0, ⟨L, X, N'⟩, eT, b, hZ, hx, ho, r⟩ := id P
  obtain ⟨T', h', X', e', W, stp⟩ := putFN X hx hZ ho w via eT F E La wi (v' := .int x') hty hn hf (g := mkF m pc Ls (.int x :: .ref a :: st)) rfl rfl hd
  subst hp
  exact OwnX.Done.step stp (K T' h' ⟨vm0, k0, hS, (by rw [W.size]; exact hk0), hF0, ⟨_, X', Fw.snoc N' hge⟩, e', by rw [W.size]; exact b, hZ, hx, ho, r⟩ W (F.same W))
theorem wNew {C : String} {index nn : Nat} (P : Pos Φ hb0 p l e R s m args below meth c Z own ws₁ bd T h k n) (w : (Cond.classLink own index C).before a0 Z = true) (wi : (Cond.instantiable C nn).before a0 Z = true) (wz : (Cond.initialized C).before a0 Z = true)
    (hd : decode c.code pc = .ok (.new index, 3)) (hp : pc + 3 = pc') (hc : k + 1 ≤ R.cells) (hl : n + nn ≤ R.slots) {k' n' : Nat} (hk' : k + 1 = k') (hn' : n + nn = n')
    (K : ∀ T' h' a, a = h.size → h.size < h'.size → Pos Φ hb0 p l e R s m args below meth c Z own ws₁ bd T' h' k' n' → Ext h h' → Exa Z h' a C → (∀ {O nm d : String} {ty : FieldType}, Laid Z a0 C O nm d → parseFieldDescriptor d = some ty → Fld Z h' a O nm d (defaultValue ty)) → OwnX.Done p l e R s m args below meth c Z own ws bd Q T' (mkF m pc' Ls (.ref a :: st))) : OwnX.Done p l e R s m args below meth c Z own ws bd Q T (mkF m pc Ls st) := by
  obtain ⟨vm0, k0, hS, hk0, hF0, ⟨L, X, N'⟩, eT, b, hZ, hx, ho, hlk, _, _⟩ := id P
  obtain ⟨T', h', X', e', E, A, D, -, stp⟩ := newO X hx hZ ho w wi wz eT (g := mkF m pc Ls st) rfl hd hc hl
  subst hp hk' hn'
  exact OwnX.Done.step stp (K T' h' h.size rfl A.lt ⟨vm0, k0, hS, (Nat.le_trans hk0 E.1), hF0, ⟨L, X', N'⟩, e', Nat.le_trans b E.1, hZ, hx, ho, hlk, hc, hl⟩ E A D)
theorem wNewA {aty : ArrayType} {z : Int32} {N cap : Nat} (P : Pos Φ hb0 p l e R s m args below meth c Z own ws₁ bd T h k n) (w : (Cond.arrayClass (newarray.typeOf aty)).before a0 Z = true) (hd : decode c.code pc = .ok (.newarray aty, 2)) (hp : pc + 2 = pc') (hz : z.toInt = (N : Int)) (hcap : N ≤ cap) (hb : cap * 8 ≤ 536870912) (hc : k + 1 ≤ R.cells) (hl : n + cap ≤ R.slots)
    {ad : String} (had : "[" ++ (newarray.typeOf aty).toString = ad) {ty : FieldType} {dv : Value} (hty : newarray.typeOf aty = ty) (hdv : defaultValue ty = dv) {k' n' : Nat} (hk' : k + 1 = k') (hn' : n + cap = n')
    (K : ∀ T' h' a, a = h.size → h.size < h'.size → Pos Φ hb0 p l e R s m args below meth c Z own ws₁ bd T' h' k' n' → Ext h h' → Ar Z h' a ty N (fun _ => dv) → Exa Z h' a ad → OwnX.Done p l e R s m args below meth c Z own ws bd Q T' (mkF m pc' Ls (.ref a :: st))) : OwnX.Done p l e R s m args below meth c Z own ws bd Q T (mkF m pc Ls (.int z :: st)) := by
  obtain ⟨vm0, k0, hS, hk0, hF0, ⟨L, X, N'⟩, eT, b, hZ, hx, ho, hlk, _, _⟩ := id P
  have hz0 : ¬ z < 0 := by rw [Int32.lt_iff_toInt_lt, hz, show (0 : Int32).toInt = 0 from rfl]; omega
  have hzn : z.toNatClampNeg = N := by rw [Int32.toNatClampNeg, hz]; omega
  have hN := z.toInt_lt
  obtain ⟨T', h', kA, X', e', E, A, Ex, stp⟩ := newPE X hx hZ w eT (g := mkF m pc Ls (.int z :: st)) rfl hd rfl hz0 (by rw [hzn]; exact hcap) hb hc hl had
  subst hp hk' hn' hty hdv
  refine OwnX.Done.step stp (K T' h' h.size rfl A.lt ⟨vm0, k0, hS, (Nat.le_trans hk0 E.1), hF0, ⟨L, X', N'⟩, e', Nat.le_trans b E.1, hZ, hx, ho, hlk, hc, hl⟩ E ⟨_, A, by rw [sz_new, hzn], by omega, fun i hi => ?_⟩ Ex)
  simp [newA, hzn, hi]
theorem wLen {ty : FieldType} {N : Nat} {f : Nat → Value} {a : Addr} (P : Pos Φ hb0 p l e R s m args below meth c Z own ws₁ bd T h k n) (A : Ar Z h a ty N f) {z : Int32} (hz : z.toInt = (N : Int)) (hd : decode c.code pc = .ok (.arraylength, 1)) (hp : pc + 1 = pc')
    (K : OwnX.Done p l e R s m args below meth c Z own ws bd Q T (mkF m pc' Ls (.int z :: st))) : OwnX.Done p l e R s m args below meth c Z own ws bd Q T (mkF m pc Ls (.ref a :: st)) := by
  obtain ⟨vm0, k0, hS, hk0, hF0, ⟨L, X, N'⟩, eT, b, hZ, hx, ho, hlk, _, _⟩ := id P
  obtain ⟨cl, Ar, S, hN, H⟩ := A
  subst hp
  refine OwnX.Done.step (fun t kk => X.arraylength hx (by rw [eT]; exact Ar.1) (State.isArrayOf_alike hZ.alike Ar.2.1) (g := mkF m pc Ls (.ref a :: st)) rfl rfl hd t ?_) K
  rw [S, show N.toInt32 = z from Int32.toInt_inj.mp (by rw [toI32 hN, hz])]
  exact kk
theorem wInit {index : Nat} {a : Addr} {W : Nat} (P : Pos Φ hb0 p l e R s m args below meth c Z own ws₁ bd T h k n) (w1 : (Cond.methodLink own index Lib.objectInit).before a0 Z = true) (w2 : (Cond.instanceMethod Lib.objectInit).before a0 Z = true) (w3 : (Cond.code Lib.objectInit ⟨#[0xb1]⟩ 1 none).before a0 Z = true) (hml : Ls.size = c.maxLocals)
    (hd : decode c.code pc = .ok (.invokespecial index, 3)) (hf : 1 ≤ R.frames) (hW : (st.map fun v => v.category).sum ≤ W) (hl : W + 12 ≤ R.locals) (hp : pc + 3 = pc')
    (K : ∀ T', Pos Φ hb0 p l e R s m args below meth c Z own ws₁ bd T' h k n → OwnX.Done p l e R s m args below meth c Z own ws bd Q T' (mkF m pc' Ls st)) : OwnX.Done p l e R s m args below meth c Z own ws bd Q T (mkF m pc Ls (.ref a :: st)) := by
  obtain ⟨vm0, k0, hS, hk0, hF0, ⟨L, X, N'⟩, eT, b, hZ, hx, ho, r⟩ := id P
  obtain ⟨T', X', e', stp⟩ := initO X hx hZ ho w1 w2 w3 eT (g := mkF m pc Ls (.ref a :: st)) rfl hml rfl hd hf (W := W) (by show 2 * 0 + _ ≤ _; omega) hl
  subst hp
  exact OwnX.Done.step stp (K T' ⟨vm0, k0, hS, (hk0), hF0, ⟨L, X', N'⟩, e', b, hZ, hx, ho, r⟩)
theorem wCastore {N i : Nat} {f : Nat → Int32} {a : Addr} {j : Int32} {x : Int32} (P : Pos Φ hb0 p l e R s m args below meth c Z own ws₁ bd T h k n) (A : Ar Z h a .char N (fun i => .int (f i))) (hj : j.toInt = (i : Int)) (hi : i < N) (hge : a ∈ ws₁ ∨ bd ≤ a) (hd : decode c.code pc = .ok (.castore, 1)) (hp : pc + 1 = pc')
    (K : ∀ T' h', Pos Φ hb0 p l e R s m args below meth c Z own ws₁ bd T' h' k n → Wr h h' a i (.int (nar .char x)) → Ar Z h' a .char N (fun j => .int (oupd f i (nar .char x) j)) → OwnX.Done p l e R s m args below meth c Z own ws bd Q T' (mkF m pc' Ls st)) : OwnX.Done p l e R s m args below meth c Z own ws bd Q T (mkF m pc Ls (.int x :: .int j :: .ref a :: st)) := by
  obtain ⟨vm0, k0, hS, hk0, hF0, ⟨L, X, N'⟩, eT, b, hZ, hx, ho, r⟩ := id P
  obtain ⟨cl, Ar', S, hN, H⟩ := A
  obtain ⟨q1, q2⟩ := in_of S hj hi
  obtain ⟨T', h', X', e', W, stp⟩ := stC X hx hZ eT Ar' q1 (g := mkF m pc Ls (.int x :: .int j :: .ref a :: st)) rfl rfl hd
  subst hp
  rw [q2] at W
  refine OwnX.Done.step stp (K T' h' ⟨vm0, k0, hS, (by rw [W.size]; exact hk0), hF0, ⟨_, X', Fw.snoc N' hge⟩, e', by rw [W.size]; exact b, hZ, hx, ho, r⟩ W ((Ar.set Ar' S hN H hi W).congr fun j _ => ?_))
  unfold oupd; split <;> rfl
theorem OMet.of {y : MethodName} {bytes : ByteArray} {maxL : Nat} {ret : Option FieldType} {wd : List Cond} {rm : Room} {as' : Array Value} {nm : String} (hy : plainFor y = true) (hyc : y.cls = own) (hyn : y.name = nm)
    (H : ∀ p e s m below meth c s₁, Pos (fun v => IB Z v []) h p l e rm s m as' below meth c Z own [] h.size s₁ h 0 0 → c.code = bytes → c.maxLocals = maxL → meth.sig.returnType = ret → meth.name = nm → OwnX.Done p l e rm s m as' below meth c Z own ws h.size Q s₁ (entryFrame m as' maxL)) :
    OMet l y bytes maxL ret wd rm Z h ws as' Q := by
  subst hyc hyn
  refine MetFree.of_bodySF hy hisR ?_
  intro p e s m args below meth c s₁ Bd hml hP hK
  obtain ⟨rfl, hZ, hh, hI⟩ := hP
  have hown : s.vm.findClass y.cls = some m.cls := findClass_of_methodNamed Bd.named
  have hnm := (name_of_methodNamed Bd.named Bd.method).1
  have X0 : Stand p l e rm s m args below meth c s₁ [] 0 0 := Stand.of_body Bd
  have e0 : s₁.heap = h := by rw [← hh, Bd.state]; rfl
  obtain ⟨v, T', h', k, n, ⟨vm0, k0, hS, hk0, ⟨L, X, N⟩, eT, _, _, _, _, hlk, hk, hnn⟩, hv, hq, st⟩ := H p e s m below meth c s₁ ⟨s.vm, s.heap.size, (State.WarmedH.refl s).since _, (by rw [← hh]; exact Nat.le_refl _), ⟨hI, hh⟩, ⟨[], X0, Fw.nil _ _⟩, e0, Nat.le_refl _, hZ, Bd.exec, hown, Bd.notSynchronized, Nat.zero_le _, Nat.zero_le _⟩ Bd.bytes hml Bd.returns hnm
  obtain ⟨fs, hr, hrun, hended, e1, e2, e3, hsame⟩ := X.leaveW hS (by rw [eT]; exact hk0) (v := v) hv hlk
  refine ⟨_, _, st fs hr, hrun, hended, v, L, rfl, ⟨?_, N, ?_⟩, e1, e2, e3, hsame.mono hk hnn⟩
  · rw [show (T'.setFrames fs).heap = T'.heap from rfl, eT]
    exact hq
  · subst hh
    have q := keepOf hsame N
    exact q
/-- the callee is asked where the intern table is the start's -/
theorem back_of {y : MethodName} {bytes : ByteArray} {maxL : Nat} {ret : Option FieldType} {rm : Room} {len W : Nat} {as' : Array Value} {Q' : Option Value → Heap → List Loc → Prop}
    (hM : MetFree l y (head1 [Cond.code y bytes maxL ret] rm) (fun a U => a = as' ∧ Z.Warmed39 U.vm ∧ U.heap = h ∧ IB Z U.vm []) (fun _ _ _ _ _ => True) (fun _ U o U' => ∃ v L, o = .returned v ∧ Q' v U'.heap L ∧ ReturnedEndW U o U' L rm.cells rm.slots))
    (hZ : Z.Warmed39 s.vm) (wc : (Cond.code y bytes maxL ret).before a0 Z = true) (wz : (Cond.initialized y.cls).before a0 Z = true) (hf : rm.frames + 1 ≤ R.frames) (hl : W + (maxL + 11) + rm.locals ≤ R.locals) (hI : IB Z s.vm []) :
    BackS l R p e below s args y len W (fun A a => a = as' ∧ A.U.heap = h ∧ A.cells + rm.cells ≤ R.cells ∧ A.slots + rm.slots ≤ R.slots)
      (fun A _ v B => ∃ L, Q' v B.U.heap L ∧ B.locs = A.locs ++ L ∧ B.cells = A.cells + rm.cells ∧ B.slots = A.slots + rm.slots) := by
  refine BackS.of_freeW (bytes := bytes) (maxL := maxL) (ret := ret) (E := fun _ _ o t L k n => k = rm.cells ∧ n = rm.slots ∧ ∃ v, o = .returned v ∧ Q' v t.heap L) hM hf hl ?_ ?_ ?_ ?_ ?_
  · intro m meth c A a Y hp
    have hU : Z.Warmed39 A.U.vm := wtrans hZ Y.warmed
    refine ⟨?_, mv hU wc, mv hU wz, hp.2.2.1, hp.2.2.2⟩
    show (Cond.and _ .tt).before a A.U = true
    rw [Cond.before_and, mv hU wc]
    rfl
  · intro m meth c A a g mk Y hp
    refine ⟨hp.1, wtrans hZ Y.warmed, hp.2.1, ?_⟩
    obtain ⟨more, e1, q⟩ := hI
    exact ⟨more, Y.warmed.interned_eq.trans e1, q⟩
  · intro _ _ _ _ _ _ _ _ _
    trivial
  · rintro _ _ _ _ ⟨v, L, h1, h2, h3⟩
    exact ⟨L, _, _, h3, rfl, rfl, v, h1, h2⟩
  · rintro m meth c A a g mk v t L k n Y hp _ _ ⟨e1, e2, v', e3, e4⟩
    cases e3
    subst e1 e2
    exact ⟨L, e4, rfl, rfl, rfl⟩
theorem wCallI {y : MethodName} {bytes : ByteArray} {maxL : Nat} {rm : Room} {as' : Array Value} {ws' : List Addr} {Q' : Option Value → Heap → Prop} {index W : Nat} {argsL rest stk : List Value} {a : Addr} (P : Pos (fun v => IB Z v []) hb0 p l e R s m args below meth c Z own ws₁ bd T h k n) (hsub : ∀ x ∈ ws₁, x ∈ ws) (M : OMet l y bytes maxL none [] rm Z h ws' as' Q')
    (hyn : y.name = "<init>") (w1 : (Cond.methodLink own index y).before a0 Z = true) (w2 : (Cond.instanceMethod y).before a0 Z = true) (w3 : (Cond.initialized y.cls).before a0 Z = true) (w4 : (Cond.code y bytes maxL none).before a0 Z = true) (hy : y.cls ≠ "java/lang/invoke/MethodHandle" ∧ y.cls ≠ "java/lang/invoke/VarHandle") (hml : Ls.size = c.maxLocals)
    (hlen : ∀ sig, parseMethodDescriptor y.desc = some sig → argsL.length = sig.parameters.length) (has : (.ref a :: argsL).toArray = as') (hst : stk = argsL.reverse ++ .ref a :: rest) (hW : (rest.map fun v => v.category).sum ≤ W) (hf : rm.frames + 1 ≤ R.frames) (hl : W + (maxL + 11) + rm.locals ≤ R.locals) (hc : k + rm.cells ≤ R.cells) (hs : n + rm.slots ≤ R.slots)
    (hws : ∀ x ∈ ws', x ∈ ws ∨ bd ≤ x) (hd : decode c.code pc = .ok (.invokespecial index, 3)) (hp : pc + 3 = pc') {k' n' : Nat} (hk' : k + rm.cells = k') (hn' : n + rm.slots = n')
    (K : ∀ T' h' v, OwnX.Pos p l e R s m args below meth c Z own ws bd T' h' k' n' → Keep h h' ws' → Q' v h' → OwnX.Done p l e R s m args below meth c Z own ws bd Q T' (mkF m pc' Ls (v.toList ++ rest))) : OwnX.Done p l e R s m args below meth c Z own ws bd Q T (mkF m pc Ls stk) := by
  obtain ⟨vm0, k0, hS, hk0, ⟨hI, _⟩, ⟨L, X, N''⟩, eT, b, hZ, hx, ho, hlk, _, _⟩ := id P
  have N' : Fw ws bd L := fun y hy => (N'' y hy).imp (hsub _) id
  subst hst has hp hk' hn'
  obtain ⟨v, _, ⟨T', L', k1, n1⟩, -, X', hS2, hgr, ⟨Lc, hq, l', y', z'⟩, stp⟩ := X.specialBackS hx (y := y) hyn ho (mvT hZ w1) (mvT hZ w2) (mvT hZ w4) hy (back_of (W := W) (Q' := fun v h' L => Q' v h' ∧ Fw ws' h.size L ∧ Keep h h' ws') M hZ w4 w3 hf hl hI) (g := mkF m pc Ls (argsL.reverse ++ .ref a :: rest)) rfl hml (Steps.refl _) (a := a) (argsL := argsL) (rest := rest) hlen rfl (by show 2 * 0 + _ ≤ _; omega) hd (fun _ _ => ⟨rfl, eT, hc, hs⟩)
  dsimp only [Pt.U, Pt.locs, Pt.cells, Pt.slots] at X' hS2 hgr l' y' z' stp hq
  subst l' y' z'
  obtain ⟨X2, S2, Z2, O2⟩ := rebS hS (n1 := h.size) hk0 X' hS2 (by rw [← eT]; exact hgr) hZ ho
  exact OwnX.Done.step (fun t kk => stp.trans kk) (K T' T'.heap v ⟨_, _, S2, Nat.le_refl _, ⟨_, X2, N'.app fun y hy => (hq.2.1 y hy).elim (fun q => hws _ q) (fun q => Or.inr (Nat.le_trans b q))⟩, rfl, Nat.le_trans b hq.2.2.1, Z2, hx, O2, hlk, hc, hs⟩ hq.2.2 hq.1)
/-- the first load of a String constant, and what it reads -/
theorem wLdc {text : String} {index N : Nat} {vs : List Value} {z : Int32} (P : Pos (fun v => IB Z v []) hb0 p l e R s m args below meth c Z own [] hb0.size T h k n) (w : (Cond.stringLink own index text).before a0 Z = true) (wS : ∀ a ∈ Bundle.stringAtoms, a.before a0 Z = true) (hkeep : ∀ (b : Addr) (cl : Cell), Z.heap[b]? = some cl → hb0[b]? = some cl) (hh : Jvm.Lit.constHeld Z own index) (hcw : Jvm.Lit.compactW.before a0 Z = true)
    (ht : (∀ c ∈ text.toList, c.toNat < 256) ∧ text.toList.map (fun c => Value.int (Jvm.Lit.byteI c.toNat.toUInt16)) = vs) (hz : ¬ z < 0) (hl0 : z.toNatClampNeg = vs.length) (hd : decode c.code pc = .ok (.ldc index, 2)) (hp : pc + 2 = pc') (hn : 4 * text.toList.length ≤ N) (hbig : N ≤ 536870912) (hc : k + 2 ≤ R.cells) (hl : n + (N + 4) ≤ R.slots) {k' n' : Nat} (hk' : k + 2 = k') (hn' : n + (N + 4) = n')
    (K : ∀ T' h' (a b : Addr), Pos (fun v => Lit (s.setVm v) own index a) hb0 p l e R s m args below meth c Z own [] hb0.size T' h' k' n' → Ext h h' → Exa Z h' a "java/lang/String" → Fld Z h' a "java/lang/String" "coder" "B" (.int 0) → Fld Z h' a "java/lang/String" "value" "[B" (.ref b) → OwnX.Done p l e R s m args below meth c Z own ws hb0.size Q T' (mkF m pc' Ls (.ref a :: st))) : OwnX.Done p l e R s m args below meth c Z own ws hb0.size Q T (mkF m pc Ls st) := by
  obtain ⟨vm0, k0, hS, hk0, ⟨hI, hH⟩, ⟨L, X, N'⟩, eT, b, hZ, hx, ho, hlk, _, _⟩ := id P
  subst hp hk' hn'
  obtain ⟨a, T', h', k1, b1, kc, X', e', E, S', hk1, hZ', ho', E1, F1, F2, A1, la, lb, I', L', stp⟩ := ldcSVL X hx hZ ho w wS eT hS hk0 (by rw [hH]; exact Fw.toFr N') (by rw [hH]; exact hkeep) hI (by simp) hh hcw ht hz hl0 (g := mkF m pc Ls st) rfl hd hn hbig hc hl
  exact OwnX.Done.step stp (K T' h' a b1 ⟨T'.vm, k1, S', hk1, ⟨L', hH⟩, ⟨L, X', N'⟩, e', Nat.le_trans b E.1, hZ', hx, ho', hlk, hc, hl⟩ E E1 F1 F2)
/-- the same entry again: the same object -/
theorem wLdc2 {text : String} {index : Nat} {a : Addr} (P : Pos (fun v => Lit (s.setVm v) own index a) hb0 p l e R s m args below meth c Z own ws₁ bd T h k n) (w : (Cond.stringLink own index text).before a0 Z = true) (hd : decode c.code pc = .ok (.ldc index, 2)) (hp : pc + 2 = pc') (D : OwnX.Done p l e R s m args below meth c Z own ws bd Q T (mkF m pc' Ls (.ref a :: st))) : OwnX.Done p l e R s m args below meth c Z own ws bd Q T (mkF m pc Ls st) := by
  obtain ⟨vm0, k0, hS, hk0, ⟨hL, hH⟩, ⟨L, X, N'⟩, eT, b, hZ, hx, ho, r⟩ := id P
  subst hp
  exact OwnX.Done.step (ldcAgain X hx hZ ho w hL (g := mkF m pc Ls st) rfl hd) D
end A
end Jvm.OwnY
namespace Jvm.Pilot.@@N@@
open Jvm Jvm.ClassFile Sem Op Lib Jvm.Free Jvm.Stand Jvm.LawKit Jvm.RoadKit Jvm.OwnW Bundle Jvm.Pilot.@@N@@.Jvm.D
open Jvm.FP.Core (DInt i2d_int l2d_int dadd_int dsub_int dmul_int dneg_int zval b64 val64 dcmp_zval compare_ite i2d_ne_zero DInt_ne_nan dcmp_int dcmp_l2d)

theorem own_e0 : ("" : String).toList = [] := by first | rfl | decide | simp
theorem own_e1 : (∀ c ∈ ("" : String).toList, c.toNat < 256) ∧ ("" : String).toList.map (fun c => Value.int (Jvm.Lit.byteI c.toNat.toUInt16)) = [] := by
  rw [own_e0]
  exact ⟨fun c hc => absurd hc List.not_mem_nil, rfl⟩
theorem own_e2 : 4 * ("" : String).toList.length ≤ 0 := by rw [own_e0]; decide

theorem own_q (x : Int32) : ¬ ((255 : Int32) < nar .char ((x &&& (255 : Int32)).toUInt32.toUInt16.toUInt32.toInt32)) := by
  have e : nar .char ((x &&& (255 : Int32)).toUInt32.toUInt16.toUInt32.toInt32) = ((x &&& (255 : Int32)).toUInt32.toUInt16.toUInt32.toInt32).toUInt32.toUInt16.toUInt32.toInt32 := rfl
  rw [e, i2c_mask, i2c_mask]
  have h := c_and x 255 (by decide)
  rw [Int32.lt_iff_toInt_lt]
  have h4 : (255 : Int32).toInt = 255 := by decide
  omega

theorem own_lv (p : Int32) : p &&& (3 : Int32) = 0 ∨ p &&& (3 : Int32) = 1 ∨ p &&& (3 : Int32) = 2 ∨ p &&& (3 : Int32) = 3 := by
  have h1 := c_and p 3 (by decide)
  have e3 : (3 : Int32).toInt = 3 := by decide
  have q : ∀ n : Int32, (p &&& 3).toInt = n.toInt → p &&& 3 = n := fun n h => Int32.toInt_inj.mp h
  have h : (p &&& 3).toInt = 0 ∨ (p &&& 3).toInt = 1 ∨ (p &&& 3).toInt = 2 ∨ (p &&& 3).toInt = 3 := by omega
  rcases h with h | h | h | h
  · exact Or.inl (q 0 h)
  · exact Or.inr (Or.inl (q 1 h))
  · exact Or.inr (Or.inr (Or.inl (q 2 h)))
  · exact Or.inr (Or.inr (Or.inr (q 3 h)))
theorem tw0 {a0 : Array Value} {Z : State} (hw : ∀ d ∈ tables_1, d.before a0 Z = true) : (Jvm.Cond.arrayClass Jvm.ClassFile.FieldType.char).before a0 Z = true := hw _ (List.mem_of_getElem? (i := 0) rfl)
theorem tw1 {a0 : Array Value} {Z : State} (hw : ∀ d ∈ tables_1, d.before a0 Z = true) : (Jvm.Cond.classLink "com/example/poll3/poll3/model/CurveFitNonePinLaw" (7 : Nat) "java/lang/String").before a0 Z = true := hw _ (List.mem_of_getElem? (i := 1) rfl)
theorem tw2 {a0 : Array Value} {Z : State} (hw : ∀ d ∈ tables_1, d.before a0 Z = true) : (Jvm.Cond.instantiable "java/lang/String" (4 : Nat)).before a0 Z = true := hw _ (List.mem_of_getElem? (i := 2) rfl)
theorem tw3 {a0 : Array Value} {Z : State} (hw : ∀ d ∈ tables_1, d.before a0 Z = true) : (Jvm.Cond.initialized "java/lang/String").before a0 Z = true := hw _ (List.mem_of_getElem? (i := 3) rfl)
theorem tw4 {a0 : Array Value} {Z : State} (hw : ∀ d ∈ tables_1, d.before a0 Z = true) : (Jvm.Cond.methodLink "com/example/poll3/poll3/model/CurveFitNonePinLaw" (9 : Nat) ({ cls := "java/lang/String", name := "<init>", desc := "([C)V" } : Jvm.MethodName)).before a0 Z = true := hw _ (List.mem_of_getElem? (i := 4) rfl)
theorem tw5 {a0 : Array Value} {Z : State} (hw : ∀ d ∈ tables_1, d.before a0 Z = true) : (Jvm.Cond.instanceMethod ({ cls := "java/lang/String", name := "<init>", desc := "([C)V" } : Jvm.MethodName)).before a0 Z = true := hw _ (List.mem_of_getElem? (i := 5) rfl)
theorem tw6 {a0 : Array Value} {Z : State} (hw : ∀ d ∈ tables_1, d.before a0 Z = true) : (Jvm.Cond.code ({ cls := "java/lang/String", name := "<init>", desc := "([C)V" } : Jvm.MethodName) jdk_42_method_3_code (2 : Nat) (Option.none : Option Jvm.ClassFile.FieldType)).before a0 Z = true := hw _ (List.mem_of_getElem? (i := 6) rfl)
theorem tw7 {a0 : Array Value} {Z : State} (hw : ∀ d ∈ tables_1, d.before a0 Z = true) : (Jvm.Cond.methodLink "java/lang/String" (27 : Nat) ({ cls := "java/lang/String", name := "<init>", desc := "([CIILjava/lang/Void;)V" } : Jvm.MethodName)).before a0 Z = true := hw _ (List.mem_of_getElem? (i := 7) rfl)
theorem tw8 {a0 : Array Value} {Z : State} (hw : ∀ d ∈ tables_1, d.before a0 Z = true) : (Jvm.Cond.instanceMethod ({ cls := "java/lang/String", name := "<init>", desc := "([CIILjava/lang/Void;)V" } : Jvm.MethodName)).before a0 Z = true := hw _ (List.mem_of_getElem? (i := 8) rfl)
theorem tw10 {a0 : Array Value} {Z : State} (hw : ∀ d ∈ tables_1, d.before a0 Z = true) : (Jvm.Cond.code ({ cls := "java/lang/String", name := "<init>", desc := "([CIILjava/lang/Void;)V" } : Jvm.MethodName) jdk_42_method_149_code (6 : Nat) (Option.none : Option Jvm.ClassFile.FieldType)).before a0 Z = true := hw _ (List.mem_of_getElem? (i := 10) rfl)
theorem tw11 {a0 : Array Value} {Z : State} (hw : ∀ d ∈ tables_1, d.before a0 Z = true) : (Jvm.Cond.methodLink "java/lang/String" (1 : Nat) ({ cls := "java/lang/Object", name := "<init>", desc := "()V" } : Jvm.MethodName)).before a0 Z = true := hw _ (List.mem_of_getElem? (i := 11) rfl)
theorem tw12 {a0 : Array Value} {Z : State} (hw : ∀ d ∈ tables_1, d.before a0 Z = true) : (Jvm.Cond.instanceMethod ({ cls := "java/lang/Object", name := "<init>", desc := "()V" } : Jvm.MethodName)).before a0 Z = true := hw _ (List.mem_of_getElem? (i := 12) rfl)
theorem tw13 {a0 : Array Value} {Z : State} (hw : ∀ d ∈ tables_1, d.before a0 Z = true) : (Jvm.Cond.code ({ cls := "java/lang/Object", name := "<init>", desc := "()V" } : Jvm.MethodName) object_method_1_code (1 : Nat) (Option.none : Option Jvm.ClassFile.FieldType)).before a0 Z = true := hw _ (List.mem_of_getElem? (i := 13) rfl)
theorem tw14 {a0 : Array Value} {Z : State} (hw : ∀ d ∈ tables_1, d.before a0 Z = true) : (Jvm.Cond.fieldLink "java/lang/String" (38 : Nat) "java/lang/String" "COMPACT_STRINGS" "Z").before a0 Z = true := hw _ (List.mem_of_getElem? (i := 14) rfl)
theorem tw15 {a0 : Array Value} {Z : State} (hw : ∀ d ∈ tables_1, d.before a0 Z = true) : (Jvm.Cond.methodLink "java/lang/String" (177 : Nat) ({ cls := "java/lang/StringUTF16", name := "compress", desc := "([CII)[B" } : Jvm.MethodName)).before a0 Z = true := hw _ (List.mem_of_getElem? (i := 15) rfl)
theorem tw16 {a0 : Array Value} {Z : State} (hw : ∀ d ∈ tables_1, d.before a0 Z = true) : (Jvm.Cond.static ({ cls := "java/lang/StringUTF16", name := "compress", desc := "([CII)[B" } : Jvm.MethodName)).before a0 Z = true := hw _ (List.mem_of_getElem? (i := 16) rfl)
theorem tw17 {a0 : Array Value} {Z : State} (hw : ∀ d ∈ tables_1, d.before a0 Z = true) : (Jvm.Cond.initialized "java/lang/StringUTF16").before a0 Z = true := hw _ (List.mem_of_getElem? (i := 17) rfl)
theorem tw18 {a0 : Array Value} {Z : State} (hw : ∀ d ∈ tables_1, d.before a0 Z = true) : (Jvm.Cond.code ({ cls := "java/lang/StringUTF16", name := "compress", desc := "([CII)[B" } : Jvm.MethodName) jdk_52_method_16_code (6 : Nat) (Option.some (Jvm.ClassFile.FieldType.array Jvm.ClassFile.FieldType.byte))).before a0 Z = true := hw _ (List.mem_of_getElem? (i := 18) rfl)
theorem tw19 {a0 : Array Value} {Z : State} (hw : ∀ d ∈ tables_1, d.before a0 Z = true) : (Jvm.Cond.arrayClass Jvm.ClassFile.FieldType.byte).before a0 Z = true := hw _ (List.mem_of_getElem? (i := 19) rfl)
theorem tw20 {a0 : Array Value} {Z : State} (hw : ∀ d ∈ tables_1, d.before a0 Z = true) : (Jvm.Cond.methodLink "java/lang/StringUTF16" (115 : Nat) ({ cls := "java/lang/StringUTF16", name := "compress", desc := "([CI[BII)I" } : Jvm.MethodName)).before a0 Z = true := hw _ (List.mem_of_getElem? (i := 20) rfl)
theorem tw21 {a0 : Array Value} {Z : State} (hw : ∀ d ∈ tables_1, d.before a0 Z = true) : (Jvm.Cond.static ({ cls := "java/lang/StringUTF16", name := "compress", desc := "([CI[BII)I" } : Jvm.MethodName)).before a0 Z = true := hw _ (List.mem_of_getElem? (i := 21) rfl)
theorem tw22 {a0 : Array Value} {Z : State} (hw : ∀ d ∈ tables_1, d.before a0 Z = true) : (Jvm.Cond.code ({ cls := "java/lang/StringUTF16", name := "compress", desc := "([CI[BII)I" } : Jvm.MethodName) jdk_52_method_21_code (7 : Nat) (Option.some Jvm.ClassFile.FieldType.int)).before a0 Z = true := hw _ (List.mem_of_getElem? (i := 22) rfl)
theorem tw23 {a0 : Array Value} {Z : State} (hw : ∀ d ∈ tables_1, d.before a0 Z = true) : (Jvm.Cond.methodLink "java/lang/String" (47 : Nat) ({ cls := "java/lang/StringUTF16", name := "coderFromArrayLen", desc := "([BI)B" } : Jvm.MethodName)).before a0 Z = true := hw _ (List.mem_of_getElem? (i := 23) rfl)
theorem tw24 {a0 : Array Value} {Z : State} (hw : ∀ d ∈ tables_1, d.before a0 Z = true) : (Jvm.Cond.static ({ cls := "java/lang/StringUTF16", name := "coderFromArrayLen", desc := "([BI)B" } : Jvm.MethodName)).before a0 Z = true := hw _ (List.mem_of_getElem? (i := 24) rfl)
theorem tw25 {a0 : Array Value} {Z : State} (hw : ∀ d ∈ tables_1, d.before a0 Z = true) : (Jvm.Cond.code ({ cls := "java/lang/StringUTF16", name := "coderFromArrayLen", desc := "([BI)B" } : Jvm.MethodName) jdk_52_method_15_code (2 : Nat) (Option.some Jvm.ClassFile.FieldType.byte)).before a0 Z = true := hw _ (List.mem_of_getElem? (i := 25) rfl)
theorem tw26 {a0 : Array Value} {Z : State} (hw : ∀ d ∈ tables_1, d.before a0 Z = true) : (Jvm.Cond.fieldLink "java/lang/String" (15 : Nat) "java/lang/String" "coder" "B").before a0 Z = true := hw _ (List.mem_of_getElem? (i := 26) rfl)
theorem tw27 {a0 : Array Value} {Z : State} (hw : ∀ d ∈ tables_1, d.before a0 Z = true) : (Jvm.Cond.laysFinal "java/lang/String" "java/lang/String" "coder" "B").before a0 Z = true := hw _ (List.mem_of_getElem? (i := 27) rfl)
theorem tw28 {a0 : Array Value} {Z : State} (hw : ∀ d ∈ tables_1, d.before a0 Z = true) : (Jvm.Cond.fieldLink "java/lang/String" (9 : Nat) "java/lang/String" "value" "[B").before a0 Z = true := hw _ (List.mem_of_getElem? (i := 28) rfl)
theorem tw29 {a0 : Array Value} {Z : State} (hw : ∀ d ∈ tables_1, d.before a0 Z = true) : (Jvm.Cond.laysFinal "java/lang/String" "java/lang/String" "value" "[B").before a0 Z = true := hw _ (List.mem_of_getElem? (i := 29) rfl)
theorem tw30 {a0 : Array Value} {Z : State} (hw : ∀ d ∈ tables_1, d.before a0 Z = true) : (Jvm.Cond.methodLink "com/example/poll3/poll3/model/CurveFitNonePinLaw" (12 : Nat) ({ cls := "com/example/poll3/poll3/model/CurveFit", name := "none", desc := "(Ljava/lang/String;)Lcom/example/poll3/poll3/model/CurveFit;" } : Jvm.MethodName)).before a0 Z = true := hw _ (List.mem_of_getElem? (i := 30) rfl)
theorem tw31 {a0 : Array Value} {Z : State} (hw : ∀ d ∈ tables_1, d.before a0 Z = true) : (Jvm.Cond.static ({ cls := "com/example/poll3/poll3/model/CurveFit", name := "none", desc := "(Ljava/lang/String;)Lcom/example/poll3/poll3/model/CurveFit;" } : Jvm.MethodName)).before a0 Z = true := hw _ (List.mem_of_getElem? (i := 31) rfl)
theorem tw32 {a0 : Array Value} {Z : State} (hw : ∀ d ∈ tables_1, d.before a0 Z = true) : (Jvm.Cond.initialized "com/example/poll3/poll3/model/CurveFit").before a0 Z = true := hw _ (List.mem_of_getElem? (i := 32) rfl)
theorem tw33 {a0 : Array Value} {Z : State} (hw : ∀ d ∈ tables_1, d.before a0 Z = true) : (Jvm.Cond.code ({ cls := "com/example/poll3/poll3/model/CurveFit", name := "none", desc := "(Ljava/lang/String;)Lcom/example/poll3/poll3/model/CurveFit;" } : Jvm.MethodName) prog_30_method_2_code (1 : Nat) (Option.some (Jvm.ClassFile.FieldType.object "com/example/poll3/poll3/model/CurveFit"))).before a0 Z = true := hw _ (List.mem_of_getElem? (i := 33) rfl)
theorem tw34 {a0 : Array Value} {Z : State} (hw : ∀ d ∈ tables_1, d.before a0 Z = true) : (Jvm.Cond.classLink "com/example/poll3/poll3/model/CurveFit" (8 : Nat) "com/example/poll3/poll3/model/CurveFit").before a0 Z = true := hw _ (List.mem_of_getElem? (i := 34) rfl)
theorem tw35 {a0 : Array Value} {Z : State} (hw : ∀ d ∈ tables_1, d.before a0 Z = true) : (Jvm.Cond.instantiable "com/example/poll3/poll3/model/CurveFit" (5 : Nat)).before a0 Z = true := hw _ (List.mem_of_getElem? (i := 35) rfl)
theorem tw36 {a0 : Array Value} {Z : State} (hw : ∀ d ∈ tables_1, d.before a0 Z = true) : (Jvm.Cond.fieldLink "com/example/poll3/poll3/model/CurveFit" (27 : Nat) "com/example/poll3/poll3/model/CurveFit$Curve" "NONE" "Lcom/example/poll3/poll3/model/CurveFit$Curve;").before a0 Z = true := hw _ (List.mem_of_getElem? (i := 36) rfl)
theorem tw37 {a0 : Array Value} {Z : State} (hw : ∀ d ∈ tables_1, d.before a0 Z = true) : (Jvm.Cond.initialized "com/example/poll3/poll3/model/CurveFit$Curve").before a0 Z = true := hw _ (List.mem_of_getElem? (i := 37) rfl)
theorem tw38 {a0 : Array Value} {Z : State} (hw : ∀ d ∈ tables_1, d.before a0 Z = true) : (Jvm.Cond.laysStatic "com/example/poll3/poll3/model/CurveFit$Curve" "NONE" "Lcom/example/poll3/poll3/model/CurveFit$Curve;").before a0 Z = true := hw _ (List.mem_of_getElem? (i := 38) rfl)
theorem tw39 {a0 : Array Value} {Z : State} (hw : ∀ d ∈ tables_1, d.before a0 Z = true) : (Jvm.Cond.constantDouble "com/example/poll3/poll3/model/CurveFit" (34 : Nat) (9221120237041090560 : UInt64)).before a0 Z = true := hw _ (List.mem_of_getElem? (i := 39) rfl)
theorem tw40 {a0 : Array Value} {Z : State} (hw : ∀ d ∈ tables_1, d.before a0 Z = true) : (Jvm.Cond.methodLink "com/example/poll3/poll3/model/CurveFit" (36 : Nat) ({ cls := "com/example/poll3/poll3/model/CurveFit", name := "<init>", desc := "(Ljava/lang/String;Lcom/example/poll3/poll3/model/CurveFit$Curve;DDD)V" } : Jvm.MethodName)).before a0 Z = true := hw _ (List.mem_of_getElem? (i := 40) rfl)
theorem tw41 {a0 : Array Value} {Z : State} (hw : ∀ d ∈ tables_1, d.before a0 Z = true) : (Jvm.Cond.instanceMethod ({ cls := "com/example/poll3/poll3/model/CurveFit", name := "<init>", desc := "(Ljava/lang/String;Lcom/example/poll3/poll3/model/CurveFit$Curve;DDD)V" } : Jvm.MethodName)).before a0 Z = true := hw _ (List.mem_of_getElem? (i := 41) rfl)
theorem tw42 {a0 : Array Value} {Z : State} (hw : ∀ d ∈ tables_1, d.before a0 Z = true) : (Jvm.Cond.code ({ cls := "com/example/poll3/poll3/model/CurveFit", name := "<init>", desc := "(Ljava/lang/String;Lcom/example/poll3/poll3/model/CurveFit$Curve;DDD)V" } : Jvm.MethodName) prog_30_method_1_code (9 : Nat) (Option.none : Option Jvm.ClassFile.FieldType)).before a0 Z = true := hw _ (List.mem_of_getElem? (i := 42) rfl)
theorem tw43 {a0 : Array Value} {Z : State} (hw : ∀ d ∈ tables_1, d.before a0 Z = true) : (Jvm.Cond.methodLink "com/example/poll3/poll3/model/CurveFit" (1 : Nat) ({ cls := "java/lang/Record", name := "<init>", desc := "()V" } : Jvm.MethodName)).before a0 Z = true := hw _ (List.mem_of_getElem? (i := 43) rfl)
theorem tw44 {a0 : Array Value} {Z : State} (hw : ∀ d ∈ tables_1, d.before a0 Z = true) : (Jvm.Cond.instanceMethod ({ cls := "java/lang/Record", name := "<init>", desc := "()V" } : Jvm.MethodName)).before a0 Z = true := hw _ (List.mem_of_getElem? (i := 44) rfl)
theorem tw46 {a0 : Array Value} {Z : State} (hw : ∀ d ∈ tables_1, d.before a0 Z = true) : (Jvm.Cond.initialized "java/lang/Record").before a0 Z = true := hw _ (List.mem_of_getElem? (i := 46) rfl)
theorem tw47 {a0 : Array Value} {Z : State} (hw : ∀ d ∈ tables_1, d.before a0 Z = true) : (Jvm.Cond.code ({ cls := "java/lang/Record", name := "<init>", desc := "()V" } : Jvm.MethodName) jdk_30_method_1_code (1 : Nat) (Option.none : Option Jvm.ClassFile.FieldType)).before a0 Z = true := hw _ (List.mem_of_getElem? (i := 47) rfl)
theorem tw48 {a0 : Array Value} {Z : State} (hw : ∀ d ∈ tables_1, d.before a0 Z = true) : (Jvm.Cond.methodLink "java/lang/Record" (1 : Nat) ({ cls := "java/lang/Object", name := "<init>", desc := "()V" } : Jvm.MethodName)).before a0 Z = true := hw _ (List.mem_of_getElem? (i := 48) rfl)
theorem tw49 {a0 : Array Value} {Z : State} (hw : ∀ d ∈ tables_1, d.before a0 Z = true) : (Jvm.Cond.fieldLink "com/example/poll3/poll3/model/CurveFit" (7 : Nat) "com/example/poll3/poll3/model/CurveFit" "server" "Ljava/lang/String;").before a0 Z = true := hw _ (List.mem_of_getElem? (i := 49) rfl)
theorem tw50 {a0 : Array Value} {Z : State} (hw : ∀ d ∈ tables_1, d.before a0 Z = true) : (Jvm.Cond.laysFinal "com/example/poll3/poll3/model/CurveFit" "com/example/poll3/poll3/model/CurveFit" "server" "Ljava/lang/String;").before a0 Z = true := hw _ (List.mem_of_getElem? (i := 50) rfl)
theorem tw51 {a0 : Array Value} {Z : State} (hw : ∀ d ∈ tables_1, d.before a0 Z = true) : (Jvm.Cond.fieldLink "com/example/poll3/poll3/model/CurveFit" (13 : Nat) "com/example/poll3/poll3/model/CurveFit" "kept" "Lcom/example/poll3/poll3/model/CurveFit$Curve;").before a0 Z = true := hw _ (List.mem_of_getElem? (i := 51) rfl)
theorem tw52 {a0 : Array Value} {Z : State} (hw : ∀ d ∈ tables_1, d.before a0 Z = true) : (Jvm.Cond.laysFinal "com/example/poll3/poll3/model/CurveFit" "com/example/poll3/poll3/model/CurveFit" "kept" "Lcom/example/poll3/poll3/model/CurveFit$Curve;").before a0 Z = true := hw _ (List.mem_of_getElem? (i := 52) rfl)
theorem tw53 {a0 : Array Value} {Z : State} (hw : ∀ d ∈ tables_1, d.before a0 Z = true) : (Jvm.Cond.fieldLink "com/example/poll3/poll3/model/CurveFit" (17 : Nat) "com/example/poll3/poll3/model/CurveFit" "linear" "D").before a0 Z = true := hw _ (List.mem_of_getElem? (i := 53) rfl)
theorem tw54 {a0 : Array Value} {Z : State} (hw : ∀ d ∈ tables_1, d.before a0 Z = true) : (Jvm.Cond.laysFinal "com/example/poll3/poll3/model/CurveFit" "com/example/poll3/poll3/model/CurveFit" "linear" "D").before a0 Z = true := hw _ (List.mem_of_getElem? (i := 54) rfl)
theorem tw55 {a0 : Array Value} {Z : State} (hw : ∀ d ∈ tables_1, d.before a0 Z = true) : (Jvm.Cond.fieldLink "com/example/poll3/poll3/model/CurveFit" (21 : Nat) "com/example/poll3/poll3/model/CurveFit" "logarithmic" "D").before a0 Z = true := hw _ (List.mem_of_getElem? (i := 55) rfl)
theorem tw56 {a0 : Array Value} {Z : State} (hw : ∀ d ∈ tables_1, d.before a0 Z = true) : (Jvm.Cond.laysFinal "com/example/poll3/poll3/model/CurveFit" "com/example/poll3/poll3/model/CurveFit" "logarithmic" "D").before a0 Z = true := hw _ (List.mem_of_getElem? (i := 56) rfl)
theorem tw57 {a0 : Array Value} {Z : State} (hw : ∀ d ∈ tables_1, d.before a0 Z = true) : (Jvm.Cond.fieldLink "com/example/poll3/poll3/model/CurveFit" (24 : Nat) "com/example/poll3/poll3/model/CurveFit" "exponential" "D").before a0 Z = true := hw _ (List.mem_of_getElem? (i := 57) rfl)
theorem tw58 {a0 : Array Value} {Z : State} (hw : ∀ d ∈ tables_1, d.before a0 Z = true) : (Jvm.Cond.laysFinal "com/example/poll3/poll3/model/CurveFit" "com/example/poll3/poll3/model/CurveFit" "exponential" "D").before a0 Z = true := hw _ (List.mem_of_getElem? (i := 58) rfl)
theorem tw59 {a0 : Array Value} {Z : State} (hw : ∀ d ∈ tables_1, d.before a0 Z = true) : (Jvm.Cond.methodLink "com/example/poll3/poll3/model/CurveFitNonePinLaw" (18 : Nat) ({ cls := "com/example/poll3/poll3/model/CurveFit", name := "linear", desc := "()D" } : Jvm.MethodName)).before a0 Z = true := hw _ (List.mem_of_getElem? (i := 59) rfl)
theorem tw60 {a0 : Array Value} {Z : State} (hw : ∀ d ∈ tables_1, d.before a0 Z = true) : (Jvm.Cond.declares ({ cls := "com/example/poll3/poll3/model/CurveFit", name := "linear", desc := "()D" } : Jvm.MethodName)).before a0 Z = true := hw _ (List.mem_of_getElem? (i := 60) rfl)
theorem tw61 {a0 : Array Value} {Z : State} (hw : ∀ d ∈ tables_1, d.before a0 Z = true) : (Jvm.Cond.instanceMethod ({ cls := "com/example/poll3/poll3/model/CurveFit", name := "linear", desc := "()D" } : Jvm.MethodName)).before a0 Z = true := hw _ (List.mem_of_getElem? (i := 61) rfl)
theorem tw62 {a0 : Array Value} {Z : State} (hw : ∀ d ∈ tables_1, d.before a0 Z = true) : (Jvm.Cond.selects "com/example/poll3/poll3/model/CurveFit" ({ cls := "com/example/poll3/poll3/model/CurveFit", name := "linear", desc := "()D" } : Jvm.MethodName) ({ cls := "com/example/poll3/poll3/model/CurveFit", name := "linear", desc := "()D" } : Jvm.MethodName)).before a0 Z = true := hw _ (List.mem_of_getElem? (i := 62) rfl)
theorem tw63 {a0 : Array Value} {Z : State} (hw : ∀ d ∈ tables_1, d.before a0 Z = true) : (Jvm.Cond.code ({ cls := "com/example/poll3/poll3/model/CurveFit", name := "linear", desc := "()D" } : Jvm.MethodName) prog_30_method_8_code (1 : Nat) (Option.some Jvm.ClassFile.FieldType.double)).before a0 Z = true := hw _ (List.mem_of_getElem? (i := 63) rfl)
theorem tw64 {a0 : Array Value} {Z : State} (hw : ∀ d ∈ tables_1, d.before a0 Z = true) : (Jvm.Cond.methodLink "com/example/poll3/poll3/model/CurveFitNonePinLaw" (22 : Nat) ({ cls := "com/example/poll3/poll3/model/CurveFit", name := "logarithmic", desc := "()D" } : Jvm.MethodName)).before a0 Z = true := hw _ (List.mem_of_getElem? (i := 64) rfl)
theorem tw65 {a0 : Array Value} {Z : State} (hw : ∀ d ∈ tables_1, d.before a0 Z = true) : (Jvm.Cond.declares ({ cls := "com/example/poll3/poll3/model/CurveFit", name := "logarithmic", desc := "()D" } : Jvm.MethodName)).before a0 Z = true := hw _ (List.mem_of_getElem? (i := 65) rfl)
theorem tw66 {a0 : Array Value} {Z : State} (hw : ∀ d ∈ tables_1, d.before a0 Z = true) : (Jvm.Cond.instanceMethod ({ cls := "com/example/poll3/poll3/model/CurveFit", name := "logarithmic", desc := "()D" } : Jvm.MethodName)).before a0 Z = true := hw _ (List.mem_of_getElem? (i := 66) rfl)
theorem tw67 {a0 : Array Value} {Z : State} (hw : ∀ d ∈ tables_1, d.before a0 Z = true) : (Jvm.Cond.selects "com/example/poll3/poll3/model/CurveFit" ({ cls := "com/example/poll3/poll3/model/CurveFit", name := "logarithmic", desc := "()D" } : Jvm.MethodName) ({ cls := "com/example/poll3/poll3/model/CurveFit", name := "logarithmic", desc := "()D" } : Jvm.MethodName)).before a0 Z = true := hw _ (List.mem_of_getElem? (i := 67) rfl)
theorem tw68 {a0 : Array Value} {Z : State} (hw : ∀ d ∈ tables_1, d.before a0 Z = true) : (Jvm.Cond.code ({ cls := "com/example/poll3/poll3/model/CurveFit", name := "logarithmic", desc := "()D" } : Jvm.MethodName) prog_30_method_9_code (1 : Nat) (Option.some Jvm.ClassFile.FieldType.double)).before a0 Z = true := hw _ (List.mem_of_getElem? (i := 68) rfl)
theorem tw69 {a0 : Array Value} {Z : State} (hw : ∀ d ∈ tables_1, d.before a0 Z = true) : (Jvm.Cond.methodLink "com/example/poll3/poll3/model/CurveFitNonePinLaw" (25 : Nat) ({ cls := "com/example/poll3/poll3/model/CurveFit", name := "exponential", desc := "()D" } : Jvm.MethodName)).before a0 Z = true := hw _ (List.mem_of_getElem? (i := 69) rfl)
theorem tw70 {a0 : Array Value} {Z : State} (hw : ∀ d ∈ tables_1, d.before a0 Z = true) : (Jvm.Cond.declares ({ cls := "com/example/poll3/poll3/model/CurveFit", name := "exponential", desc := "()D" } : Jvm.MethodName)).before a0 Z = true := hw _ (List.mem_of_getElem? (i := 70) rfl)
theorem tw71 {a0 : Array Value} {Z : State} (hw : ∀ d ∈ tables_1, d.before a0 Z = true) : (Jvm.Cond.instanceMethod ({ cls := "com/example/poll3/poll3/model/CurveFit", name := "exponential", desc := "()D" } : Jvm.MethodName)).before a0 Z = true := hw _ (List.mem_of_getElem? (i := 71) rfl)
theorem tw72 {a0 : Array Value} {Z : State} (hw : ∀ d ∈ tables_1, d.before a0 Z = true) : (Jvm.Cond.selects "com/example/poll3/poll3/model/CurveFit" ({ cls := "com/example/poll3/poll3/model/CurveFit", name := "exponential", desc := "()D" } : Jvm.MethodName) ({ cls := "com/example/poll3/poll3/model/CurveFit", name := "exponential", desc := "()D" } : Jvm.MethodName)).before a0 Z = true := hw _ (List.mem_of_getElem? (i := 72) rfl)
theorem tw73 {a0 : Array Value} {Z : State} (hw : ∀ d ∈ tables_1, d.before a0 Z = true) : (Jvm.Cond.code ({ cls := "com/example/poll3/poll3/model/CurveFit", name := "exponential", desc := "()D" } : Jvm.MethodName) prog_30_method_10_code (1 : Nat) (Option.some Jvm.ClassFile.FieldType.double)).before a0 Z = true := hw _ (List.mem_of_getElem? (i := 73) rfl)
theorem tw74 {a0 : Array Value} {Z : State} (hw : ∀ d ∈ tables_1, d.before a0 Z = true) : (Jvm.Cond.methodLink "com/example/poll3/poll3/model/CurveFitNonePinLaw" (28 : Nat) ({ cls := "com/example/poll3/poll3/model/CurveFit", name := "server", desc := "()Ljava/lang/String;" } : Jvm.MethodName)).before a0 Z = true := hw _ (List.mem_of_getElem? (i := 74) rfl)
theorem tw75 {a0 : Array Value} {Z : State} (hw : ∀ d ∈ tables_1, d.before a0 Z = true) : (Jvm.Cond.declares ({ cls := "com/example/poll3/poll3/model/CurveFit", name := "server", desc := "()Ljava/lang/String;" } : Jvm.MethodName)).before a0 Z = true := hw _ (List.mem_of_getElem? (i := 75) rfl)
theorem tw76 {a0 : Array Value} {Z : State} (hw : ∀ d ∈ tables_1, d.before a0 Z = true) : (Jvm.Cond.instanceMethod ({ cls := "com/example/poll3/poll3/model/CurveFit", name := "server", desc := "()Ljava/lang/String;" } : Jvm.MethodName)).before a0 Z = true := hw _ (List.mem_of_getElem? (i := 76) rfl)
theorem tw77 {a0 : Array Value} {Z : State} (hw : ∀ d ∈ tables_1, d.before a0 Z = true) : (Jvm.Cond.selects "com/example/poll3/poll3/model/CurveFit" ({ cls := "com/example/poll3/poll3/model/CurveFit", name := "server", desc := "()Ljava/lang/String;" } : Jvm.MethodName) ({ cls := "com/example/poll3/poll3/model/CurveFit", name := "server", desc := "()Ljava/lang/String;" } : Jvm.MethodName)).before a0 Z = true := hw _ (List.mem_of_getElem? (i := 77) rfl)
theorem tw78 {a0 : Array Value} {Z : State} (hw : ∀ d ∈ tables_1, d.before a0 Z = true) : (Jvm.Cond.code ({ cls := "com/example/poll3/poll3/model/CurveFit", name := "server", desc := "()Ljava/lang/String;" } : Jvm.MethodName) prog_30_method_6_code (1 : Nat) (Option.some (Jvm.ClassFile.FieldType.object "java/lang/String"))).before a0 Z = true := hw _ (List.mem_of_getElem? (i := 78) rfl)
theorem tw79 {a0 : Array Value} {Z : State} (hw : ∀ d ∈ tables_1, d.before a0 Z = true) : (Jvm.Cond.methodLink "com/example/poll3/poll3/model/CurveFitNonePinLaw" (32 : Nat) ({ cls := "java/lang/String", name := "equals", desc := "(Ljava/lang/Object;)Z" } : Jvm.MethodName)).before a0 Z = true := hw _ (List.mem_of_getElem? (i := 79) rfl)
theorem tw80 {a0 : Array Value} {Z : State} (hw : ∀ d ∈ tables_1, d.before a0 Z = true) : (Jvm.Cond.declares ({ cls := "java/lang/String", name := "equals", desc := "(Ljava/lang/Object;)Z" } : Jvm.MethodName)).before a0 Z = true := hw _ (List.mem_of_getElem? (i := 80) rfl)
theorem tw81 {a0 : Array Value} {Z : State} (hw : ∀ d ∈ tables_1, d.before a0 Z = true) : (Jvm.Cond.instanceMethod ({ cls := "java/lang/String", name := "equals", desc := "(Ljava/lang/Object;)Z" } : Jvm.MethodName)).before a0 Z = true := hw _ (List.mem_of_getElem? (i := 81) rfl)
theorem tw82 {a0 : Array Value} {Z : State} (hw : ∀ d ∈ tables_1, d.before a0 Z = true) : (Jvm.Cond.selects "java/lang/String" ({ cls := "java/lang/String", name := "equals", desc := "(Ljava/lang/Object;)Z" } : Jvm.MethodName) ({ cls := "java/lang/String", name := "equals", desc := "(Ljava/lang/Object;)Z" } : Jvm.MethodName)).before a0 Z = true := hw _ (List.mem_of_getElem? (i := 82) rfl)
theorem tw83 {a0 : Array Value} {Z : State} (hw : ∀ d ∈ tables_1, d.before a0 Z = true) : (Jvm.Cond.code ({ cls := "java/lang/String", name := "equals", desc := "(Ljava/lang/Object;)Z" } : Jvm.MethodName) jdk_42_method_66_code (3 : Nat) (Option.some Jvm.ClassFile.FieldType.boolean)).before a0 Z = true := hw _ (List.mem_of_getElem? (i := 83) rfl)
theorem tw84 {a0 : Array Value} {Z : State} (hw : ∀ d ∈ tables_1, d.before a0 Z = true) : (Jvm.Cond.methodLink "com/example/poll3/poll3/model/CurveFitNonePinLaw" (36 : Nat) ({ cls := "com/example/poll3/poll3/model/CurveFit", name := "kept", desc := "()Lcom/example/poll3/poll3/model/CurveFit$Curve;" } : Jvm.MethodName)).before a0 Z = true := hw _ (List.mem_of_getElem? (i := 84) rfl)
theorem tw85 {a0 : Array Value} {Z : State} (hw : ∀ d ∈ tables_1, d.before a0 Z = true) : (Jvm.Cond.declares ({ cls := "com/example/poll3/poll3/model/CurveFit", name := "kept", desc := "()Lcom/example/poll3/poll3/model/CurveFit$Curve;" } : Jvm.MethodName)).before a0 Z = true := hw _ (List.mem_of_getElem? (i := 85) rfl)
theorem tw86 {a0 : Array Value} {Z : State} (hw : ∀ d ∈ tables_1, d.before a0 Z = true) : (Jvm.Cond.instanceMethod ({ cls := "com/example/poll3/poll3/model/CurveFit", name := "kept", desc := "()Lcom/example/poll3/poll3/model/CurveFit$Curve;" } : Jvm.MethodName)).before a0 Z = true := hw _ (List.mem_of_getElem? (i := 86) rfl)
theorem tw87 {a0 : Array Value} {Z : State} (hw : ∀ d ∈ tables_1, d.before a0 Z = true) : (Jvm.Cond.selects "com/example/poll3/poll3/model/CurveFit" ({ cls := "com/example/poll3/poll3/model/CurveFit", name := "kept", desc := "()Lcom/example/poll3/poll3/model/CurveFit$Curve;" } : Jvm.MethodName) ({ cls := "com/example/poll3/poll3/model/CurveFit", name := "kept", desc := "()Lcom/example/poll3/poll3/model/CurveFit$Curve;" } : Jvm.MethodName)).before a0 Z = true := hw _ (List.mem_of_getElem? (i := 87) rfl)
theorem tw88 {a0 : Array Value} {Z : State} (hw : ∀ d ∈ tables_1, d.before a0 Z = true) : (Jvm.Cond.code ({ cls := "com/example/poll3/poll3/model/CurveFit", name := "kept", desc := "()Lcom/example/poll3/poll3/model/CurveFit$Curve;" } : Jvm.MethodName) prog_30_method_7_code (1 : Nat) (Option.some (Jvm.ClassFile.FieldType.object "com/example/poll3/poll3/model/CurveFit$Curve"))).before a0 Z = true := hw _ (List.mem_of_getElem? (i := 88) rfl)
theorem tw89 {a0 : Array Value} {Z : State} (hw : ∀ d ∈ tables_1, d.before a0 Z = true) : (Jvm.Cond.fieldLink "com/example/poll3/poll3/model/CurveFitNonePinLaw" (40 : Nat) "com/example/poll3/poll3/model/CurveFit$Curve" "NONE" "Lcom/example/poll3/poll3/model/CurveFit$Curve;").before a0 Z = true := hw _ (List.mem_of_getElem? (i := 89) rfl)
theorem tw90 {a0 : Array Value} {Z : State} (hw : ∀ d ∈ tables_1, d.before a0 Z = true) : (Jvm.Cond.stringLink "java/lang/String" (7 : Nat) "").before a0 Z = true := hw _ (List.mem_of_getElem? (i := 90) rfl)
theorem tw91 {a0 : Array Value} {Z : State} (hw : ∀ d ∈ tables_1, d.before a0 Z = true) : (Jvm.Cond.soleField "java/lang/String" "value").before a0 Z = true := hw _ (List.mem_of_getElem? (i := 91) rfl)
theorem tw92 {a0 : Array Value} {Z : State} (hw : ∀ d ∈ tables_1, d.before a0 Z = true) : (Jvm.Cond.soleField "java/lang/String" "coder").before a0 Z = true := hw _ (List.mem_of_getElem? (i := 92) rfl)
theorem pn_0 : plainFor (⟨"java/lang/StringUTF16", "compress", "([CI[BII)I"⟩ : MethodName) = true := by first | exact plainFor_of_name (by first | (simp [plainName, overriddenIn]; done) | decide +kernel) | decide +kernel
theorem pd_0 : parseMethodDescriptor "([CI[BII)I" = some ⟨[(.array .char), .int, (.array .byte), .int, .int], some .int⟩ := by decide +kernel
theorem pn_1 : plainFor (⟨"java/lang/StringUTF16", "compress", "([CII)[B"⟩ : MethodName) = true := by first | exact plainFor_of_name (by first | (simp [plainName, overriddenIn]; done) | decide +kernel) | decide +kernel
theorem pn_2 : plainFor (⟨"java/lang/StringUTF16", "coderFromArrayLen", "([BI)B"⟩ : MethodName) = true := by first | exact plainFor_of_name (by first | (simp [plainName, overriddenIn]; done) | decide +kernel) | decide +kernel
theorem pd_1 : parseMethodDescriptor "([CII)[B" = some ⟨[(.array .char), .int, .int], some (.array .byte)⟩ := by decide +kernel
theorem pd_2 : parseMethodDescriptor "([BI)B" = some ⟨[(.array .byte), .int], some .byte⟩ := by decide +kernel
theorem pn_3 : plainFor (⟨"java/lang/String", "<init>", "([CIILjava/lang/Void;)V"⟩ : MethodName) = true := by first | exact plainFor_of_name (by first | (simp [plainName, overriddenIn]; done) | decide +kernel) | decide +kernel
theorem pd_3 : parseMethodDescriptor "([CIILjava/lang/Void;)V" = some ⟨[(.array .char), .int, .int, (.object "java/lang/Void")], none⟩ := by decide +kernel
theorem pn_4 : plainFor (⟨"java/lang/String", "<init>", "([C)V"⟩ : MethodName) = true := by first | exact plainFor_of_name (by first | (simp [plainName, overriddenIn]; done) | decide +kernel) | decide +kernel
theorem own_c0 {P : Cond → Prop} : ∀ y ∈ ([] : List Cond), P y := fun _ h => absurd h List.not_mem_nil
theorem own_cS {P : Cond → Prop} {x : Cond} {xs : List Cond} (h : P x) (q : ∀ y ∈ xs, P y) : ∀ y ∈ x :: xs, P y := List.forall_mem_cons.mpr ⟨h, q⟩
theorem own_wS {a0 : Array Value} {Z : State} (hw : ∀ d ∈ tables_1, d.before a0 Z = true) : ∀ a ∈ Bundle.stringAtoms, a.before a0 Z = true := by
  show ∀ a ∈ ([Jvm.Cond.initialized "java/lang/String", Jvm.Cond.instantiable "java/lang/String" (4 : Nat), Jvm.Cond.arrayClass Jvm.ClassFile.FieldType.byte, Jvm.Cond.laysFinal "java/lang/String" "java/lang/String" "value" "[B", Jvm.Cond.laysFinal "java/lang/String" "java/lang/String" "coder" "B", Jvm.Cond.soleField "java/lang/String" "value", Jvm.Cond.soleField "java/lang/String" "coder"] : List Cond), a.before a0 Z = true
  exact (own_cS (P := fun a => a.before a0 Z = true) (tw3 hw) (own_cS (P := fun a => a.before a0 Z = true) (tw2 hw) (own_cS (P := fun a => a.before a0 Z = true) (tw19 hw) (own_cS (P := fun a => a.before a0 Z = true) (tw29 hw) (own_cS (P := fun a => a.before a0 Z = true) (tw27 hw) (own_cS (P := fun a => a.before a0 Z = true) (tw91 hw) (own_cS (P := fun a => a.before a0 Z = true) (tw92 hw) own_c0)))))))
theorem pn_5 : plainName "java/lang/Record" = true := by first | (simp [plainName, overriddenIn]; done) | decide +kernel
theorem pd_4 : parseMethodDescriptor "()V" = some ⟨[], none⟩ := by decide +kernel
theorem pn_6 : plainName "com/example/poll3/poll3/model/CurveFit" = true := by first | (simp [plainName, overriddenIn]; done) | decide +kernel
theorem pd_5 : parseMethodDescriptor "(Ljava/lang/String;Lcom/example/poll3/poll3/model/CurveFit$Curve;DDD)V" = some ⟨[(.object "java/lang/String"), (.object "com/example/poll3/poll3/model/CurveFit$Curve"), .double, .double, .double], none⟩ := by decide +kernel
theorem pn_7 : plainFor (⟨"java/lang/String", "equals", "(Ljava/lang/Object;)Z"⟩ : MethodName) = true := by first | exact plainFor_of_name (by first | (simp [plainName, overriddenIn]; done) | decide +kernel) | decide +kernel
theorem pd_6 : parseMethodDescriptor "([C)V" = some ⟨[(.array .char)], none⟩ := by decide +kernel
theorem pd_7 : parseMethodDescriptor "(Ljava/lang/String;)Lcom/example/poll3/poll3/model/CurveFit;" = some ⟨[(.object "java/lang/String")], some (.object "com/example/poll3/poll3/model/CurveFit")⟩ := by decide +kernel
theorem pd_8 : parseMethodDescriptor "()D" = some ⟨[], some .double⟩ := by decide +kernel
theorem pd_9 : parseMethodDescriptor "()Ljava/lang/String;" = some ⟨[], some (.object "java/lang/String")⟩ := by decide +kernel
theorem pd_10 : parseMethodDescriptor "(Ljava/lang/Object;)Z" = some ⟨[(.object "java/lang/Object")], some .boolean⟩ := by decide +kernel
theorem pd_11 : parseMethodDescriptor "()Lcom/example/poll3/poll3/model/CurveFit$Curve;" = some ⟨[], some (.object "com/example/poll3/poll3/model/CurveFit$Curve")⟩ := by decide +kernel
theorem pn_8 : plainName "com/example/poll3/poll3/model/CurveFitNonePinLaw" = true := by first | (simp [plainName, overriddenIn]; done) | decide +kernel
theorem ef_comp5_1 (m : MethodId) (x0 : Addr) (x1 : Int32) (x2 : Addr) (x3 : Int32) (x4 : Int32) : entryFrame m #[(.ref x0), (.int x1), (.ref x2), (.int x3), (.int x4)] 7 = mkF m 0 #[.val (.ref x0), .val (.int x1), .val (.ref x2), .val (.int x3), .val (.int x4), .unset, .unset] [] := by first | (simp [entryFrame, mkF, argsToLocals, Value.category]; done) | rfl
theorem d_comp5_1_0 : decode jdk_52_method_21_code 0 = .ok (.iconst 0, 1) := by decide +kernel
theorem d_comp5_1_1 : decode jdk_52_method_21_code 1 = .ok (.istore 5, 2) := by decide +kernel
theorem d_comp5_1_3 : decode jdk_52_method_21_code 3 = .ok (.iload 5, 2) := by decide +kernel
theorem d_comp5_1_5 : decode jdk_52_method_21_code 5 = .ok (.iload 4, 2) := by decide +kernel
theorem d_comp5_1_7 : decode jdk_52_method_21_code 7 = .ok (.if_icmp .ge 37, 3) := by decide +kernel
theorem d_comp5_1_10 : decode jdk_52_method_21_code 10 = .ok (.aload_n 0, 1) := by decide +kernel
theorem d_comp5_1_11 : decode jdk_52_method_21_code 11 = .ok (.iload_n 1, 1) := by decide +kernel
theorem d_comp5_1_12 : decode jdk_52_method_21_code 12 = .ok (.caload, 1) := by decide +kernel
theorem d_comp5_1_13 : decode jdk_52_method_21_code 13 = .ok (.istore 6, 2) := by decide +kernel
theorem d_comp5_1_15 : decode jdk_52_method_21_code 15 = .ok (.iload 6, 2) := by decide +kernel
theorem d_comp5_1_17 : decode jdk_52_method_21_code 17 = .ok (.sipush 255, 3) := by decide +kernel
theorem d_comp5_1_20 : decode jdk_52_method_21_code 20 = .ok (.if_icmp .le 6, 3) := by decide +kernel
theorem d_comp5_1_26 : decode jdk_52_method_21_code 26 = .ok (.aload_n 2, 1) := by decide +kernel
theorem d_comp5_1_27 : decode jdk_52_method_21_code 27 = .ok (.iload_n 3, 1) := by decide +kernel
theorem d_comp5_1_28 : decode jdk_52_method_21_code 28 = .ok (.iload 6, 2) := by decide +kernel
theorem d_comp5_1_30 : decode jdk_52_method_21_code 30 = .ok (.i2b, 1) := by decide +kernel
theorem d_comp5_1_31 : decode jdk_52_method_21_code 31 = .ok (.bastore, 1) := by decide +kernel
theorem d_comp5_1_32 : decode jdk_52_method_21_code 32 = .ok (.iinc 1 1, 3) := by decide +kernel
theorem d_comp5_1_35 : decode jdk_52_method_21_code 35 = .ok (.iinc 3 1, 3) := by decide +kernel
theorem d_comp5_1_38 : decode jdk_52_method_21_code 38 = .ok (.iinc 5 1, 3) := by decide +kernel
theorem d_comp5_1_41 : decode jdk_52_method_21_code 41 = .ok (.goto (-38), 3) := by decide +kernel
theorem d_comp5_1_44 : decode jdk_52_method_21_code 44 = .ok (.iload 4, 2) := by decide +kernel
theorem d_comp5_1_46 : decode jdk_52_method_21_code 46 = .ok (.ireturn, 1) := by decide +kernel
set_option maxRecDepth 65536 in
set_option maxHeartbeats 4000000 in
theorem m_comp5_1 (l : Launch) (Z : State) (a0 : Array Value) (hw : ∀ d ∈ tables_1, d.before a0 Z = true) (hs : ∀ d ∈ jdkStatics_1, d.before a0 Z = true) (a b : Addr) (f gb : Nat → Int32) (h0 : Heap) (Aa : Ar Z h0 a .char 1 (fun i => .int (f i))) (q0 : ¬ ((255 : Int32) < f 0)) (Ab : Ar Z h0 b .byte 1 (fun i => .int (gb i))) (nab : a ≠ b) :
    OMet l (⟨"java/lang/StringUTF16", "compress", "([CI[BII)I"⟩ : MethodName) jdk_52_method_21_code 7 (Option.some FieldType.int) [] ({ frames := 0, cells := 0, slots := 0, locals := 0 } : Room) Z h0 [b] #[(.ref a), (.int (0 : Int32)), (.ref b), (.int (0 : Int32)), (.int (1 : Int32))] (fun v h' => v = some (.int 1) ∧ ∃ g' : Nat → Int32, Ar Z h' b .byte 1 (fun i => .int (g' i))) := by
  refine OMet.of (own := "java/lang/StringUTF16") (nm := "compress") pn_0 rfl rfl ?_
  intro p e s m below meth c T0 P0 hby hml hret hnm
  refine Done.step (T' := T0) (g' := (mkF m 0 #[.val (.ref a), .val (.int (0 : Int32)), .val (.ref b), .val (.int (0 : Int32)), .val (.int (1 : Int32)), .unset, .unset] [])) (fun t kk => castTop (ef_comp5_1 m a (0 : Int32) b (0 : Int32) (1 : Int32)) kk) ?_
  refine Done.step (T' := T0) (g' := (mkF m 12 #[.val (.ref a), .val (.int (0 : Int32)), .val (.ref b), .val (.int (0 : Int32)), .val (.int (1 : Int32)), .val (.int (0 : Int32)), .unset] [(.int (0 : Int32)), (.ref a)])) (fun t kk => ?_) ?_
  · show Steps p.tables e below (T0.setTop (mkF m 0 _ [])) t
    refine XS.iconst P0.here P0.x rfl (hb hby d_comp5_1_0) ?_
    show Steps p.tables e below (T0.setTop (mkF m 1 _ [(.int (0 : Int32))])) t
    refine XS.istore P0.here P0.x rfl (hb hby d_comp5_1_1) rfl (l' := #[.val (.ref a), .val (.int (0 : Int32)), .val (.ref b), .val (.int (0 : Int32)), .val (.int (1 : Int32)), .val (.int (0 : Int32)), .unset]) rfl ?_
    show Steps p.tables e below (T0.setTop (mkF m 3 _ [])) t
    refine XS.iload P0.here P0.x rfl (hb hby d_comp5_1_3) rfl ?_
    show Steps p.tables e below (T0.setTop (mkF m 5 _ [(.int (0 : Int32))])) t
    refine XS.iload P0.here P0.x rfl (hb hby d_comp5_1_5) rfl ?_
    show Steps p.tables e below (T0.setTop (mkF m 7 _ [(.int (1 : Int32)), (.int (0 : Int32))])) t
    refine XS.icmpNo P0.here P0.x rfl (hb hby d_comp5_1_7) rfl (iiW_ge_f (by decide)) ?_
    show Steps p.tables e below (T0.setTop (mkF m 10 _ [])) t
    refine XS.aloadN P0.here P0.x rfl (hb hby d_comp5_1_10) rfl rfl ?_
    show Steps p.tables e below (T0.setTop (mkF m 11 _ [(.ref a)])) t
    refine XS.iloadN P0.here P0.x rfl (hb hby d_comp5_1_11) rfl ?_
    exact kk
  refine wCaload P0 Aa (j := (0 : Int32)) (i := 0) rfl (by decide) (v := (.int (f 0))) rfl (hb hby d_comp5_1_12) rfl ?_
  show Done _ _ _ _ _ _ _ _ _ _ _ _ _ _ _ T0 (mkF m 13 _ [(.int (f 0))])
  refine Done.step (T' := T0) (g' := (mkF m 31 #[.val (.ref a), .val (.int (0 : Int32)), .val (.ref b), .val (.int (0 : Int32)), .val (.int (1 : Int32)), .val (.int (0 : Int32)), .val (.int (f 0))] [(.int (f 0).toInt8.toInt32), (.int (0 : Int32)), (.ref b)])) (fun t kk => ?_) ?_
  · show Steps p.tables e below (T0.setTop (mkF m 13 _ [(.int (f 0))])) t
    refine XS.istore P0.here P0.x rfl (hb hby d_comp5_1_13) rfl (l' := #[.val (.ref a), .val (.int (0 : Int32)), .val (.ref b), .val (.int (0 : Int32)), .val (.int (1 : Int32)), .val (.int (0 : Int32)), .val (.int (f 0))]) rfl ?_
    show Steps p.tables e below (T0.setTop (mkF m 15 _ [])) t
    refine XS.iload P0.here P0.x rfl (hb hby d_comp5_1_15) rfl ?_
    show Steps p.tables e below (T0.setTop (mkF m 17 _ [(.int (f 0))])) t
    refine XS.sipush P0.here P0.x rfl (hb hby d_comp5_1_17) ?_
    show Steps p.tables e below (T0.setTop (mkF m 20 _ [(.int (255 : Int32)), (.int (f 0))])) t
    refine XS.icmpYes P0.here P0.x rfl (pc0 := 20) (pc' := 26) rfl (hb hby d_comp5_1_20) rfl (iiW_le_t q0) (by decide) (by decide) ?_
    show Steps p.tables e below (T0.setTop (mkF m 26 _ [])) t
    refine XS.aloadN P0.here P0.x rfl (hb hby d_comp5_1_26) rfl rfl ?_
    show Steps p.tables e below (T0.setTop (mkF m 27 _ [(.ref b)])) t
    refine XS.iloadN P0.here P0.x rfl (hb hby d_comp5_1_27) rfl ?_
    show Steps p.tables e below (T0.setTop (mkF m 28 _ [(.int (0 : Int32)), (.ref b)])) t
    refine XS.iload P0.here P0.x rfl (hb hby d_comp5_1_28) rfl ?_
    show Steps p.tables e below (T0.setTop (mkF m 30 _ [(.int (f 0)), (.int (0 : Int32)), (.ref b)])) t
    refine XS.i2b P0.here P0.x rfl (hb hby d_comp5_1_30) rfl ?_
    exact kk
  refine wBastore P0 (f := gb) Ab (j := (0 : Int32)) (i := 0) rfl (by decide) (Or.inl (by simp)) (hb hby d_comp5_1_31) rfl (fun T1 h3 P2 W4 A5 => ?_)
  have szh3 : h3.size = h0.size := W4.size
  show Done _ _ _ _ _ _ _ _ _ _ _ _ _ _ _ T1 (mkF m 32 _ [])
  refine Done.step (T' := T1) (g' := (mkF m 3 #[.val (.ref a), .val (.int ((0 : Int32) + (1 : Int32))), .val (.ref b), .val (.int ((0 : Int32) + (1 : Int32))), .val (.int (1 : Int32)), .val (.int ((0 : Int32) + (1 : Int32))), .val (.int (f 0))] [])) (fun t kk => ?_) ?_
  · show Steps p.tables e below (T1.setTop (mkF m 32 _ [])) t
    refine XS.iinc P2.here P2.x rfl (hb hby d_comp5_1_32) rfl (l' := #[.val (.ref a), .val (.int ((0 : Int32) + (1 : Int32))), .val (.ref b), .val (.int (0 : Int32)), .val (.int (1 : Int32)), .val (.int (0 : Int32)), .val (.int (f 0))]) rfl ?_
    show Steps p.tables e below (T1.setTop (mkF m 35 _ [])) t
    refine XS.iinc P2.here P2.x rfl (hb hby d_comp5_1_35) rfl (l' := #[.val (.ref a), .val (.int ((0 : Int32) + (1 : Int32))), .val (.ref b), .val (.int ((0 : Int32) + (1 : Int32))), .val (.int (1 : Int32)), .val (.int (0 : Int32)), .val (.int (f 0))]) rfl ?_
    show Steps p.tables e below (T1.setTop (mkF m 38 _ [])) t
    refine XS.iinc P2.here P2.x rfl (hb hby d_comp5_1_38) rfl (l' := #[.val (.ref a), .val (.int ((0 : Int32) + (1 : Int32))), .val (.ref b), .val (.int ((0 : Int32) + (1 : Int32))), .val (.int (1 : Int32)), .val (.int ((0 : Int32) + (1 : Int32))), .val (.int (f 0))]) rfl ?_
    show Steps p.tables e below (T1.setTop (mkF m 41 _ [])) t
    refine XS.goto P2.here P2.x rfl (pc0 := 41) (pc' := 3) rfl (hb hby d_comp5_1_41) (by decide) (by decide) ?_
    exact kk
  show Done _ _ _ _ _ _ _ _ _ _ _ _ _ _ _ T1 (mkF m 3 #[.val (.ref a), .val (.int (1 : Int32)), .val (.ref b), .val (.int ((0 : Int32) + (1 : Int32))), .val (.int (1 : Int32)), .val (.int ((0 : Int32) + (1 : Int32))), .val (.int (f 0))] [])
  show Done _ _ _ _ _ _ _ _ _ _ _ _ _ _ _ T1 (mkF m 3 #[.val (.ref a), .val (.int (1 : Int32)), .val (.ref b), .val (.int (1 : Int32)), .val (.int (1 : Int32)), .val (.int ((0 : Int32) + (1 : Int32))), .val (.int (f 0))] [])
  show Done _ _ _ _ _ _ _ _ _ _ _ _ _ _ _ T1 (mkF m 3 #[.val (.ref a), .val (.int (1 : Int32)), .val (.ref b), .val (.int (1 : Int32)), .val (.int (1 : Int32)), .val (.int (1 : Int32)), .val (.int (f 0))] [])
  refine Done.stepL (pc' := 46) (st' := [(.int (1 : Int32))]) (fun t kk => ?_) ?_
  · show Steps p.tables e below (T1.setTop (mkF m 3 _ [])) t
    refine XS.iload P2.here P2.x rfl (hb hby d_comp5_1_3) rfl ?_
    show Steps p.tables e below (T1.setTop (mkF m 5 _ [(.int (1 : Int32))])) t
    refine XS.iload P2.here P2.x rfl (hb hby d_comp5_1_5) rfl ?_
    show Steps p.tables e below (T1.setTop (mkF m 7 _ [(.int (1 : Int32)), (.int (1 : Int32))])) t
    refine XS.icmpYes P2.here P2.x rfl (pc0 := 7) (pc' := 44) rfl (hb hby d_comp5_1_7) rfl (iiW_ge_t (by decide)) (by decide) (by decide) ?_
    show Steps p.tables e below (T1.setTop (mkF m 44 _ [])) t
    refine XS.iload P2.here P2.x rfl (hb hby d_comp5_1_44) rfl ?_
    exact kk
  exact wRetI P2 hret (hb hby d_comp5_1_46) ⟨rfl, _, A5⟩
theorem ef_comp3_1 (m : MethodId) (x0 : Addr) (x1 : Int32) (x2 : Int32) : entryFrame m #[(.ref x0), (.int x1), (.int x2)] 6 = mkF m 0 #[.val (.ref x0), .val (.int x1), .val (.int x2), .unset, .unset, .unset] [] := by first | (simp [entryFrame, mkF, argsToLocals, Value.category]; done) | rfl
theorem d_comp3_1_0 : decode jdk_52_method_16_code 0 = .ok (.iload_n 2, 1) := by decide +kernel
theorem d_comp3_1_1 : decode jdk_52_method_16_code 1 = .ok (.newarray .byte, 2) := by decide +kernel
theorem d_comp3_1_3 : decode jdk_52_method_16_code 3 = .ok (.astore_n 3, 1) := by decide +kernel
theorem d_comp3_1_4 : decode jdk_52_method_16_code 4 = .ok (.aload_n 0, 1) := by decide +kernel
theorem d_comp3_1_5 : decode jdk_52_method_16_code 5 = .ok (.iload_n 1, 1) := by decide +kernel
theorem d_comp3_1_6 : decode jdk_52_method_16_code 6 = .ok (.aload_n 3, 1) := by decide +kernel
theorem d_comp3_1_7 : decode jdk_52_method_16_code 7 = .ok (.iconst 0, 1) := by decide +kernel
theorem d_comp3_1_8 : decode jdk_52_method_16_code 8 = .ok (.iload_n 2, 1) := by decide +kernel
theorem d_comp3_1_9 : decode jdk_52_method_16_code 9 = .ok (.invokestatic 115, 3) := by decide +kernel
theorem d_comp3_1_12 : decode jdk_52_method_16_code 12 = .ok (.istore 4, 2) := by decide +kernel
theorem d_comp3_1_14 : decode jdk_52_method_16_code 14 = .ok (.iload 4, 2) := by decide +kernel
theorem d_comp3_1_16 : decode jdk_52_method_16_code 16 = .ok (.iload_n 2, 1) := by decide +kernel
theorem d_comp3_1_17 : decode jdk_52_method_16_code 17 = .ok (.if_icmp .eq 40, 3) := by decide +kernel
theorem d_comp3_1_57 : decode jdk_52_method_16_code 57 = .ok (.aload_n 3, 1) := by decide +kernel
theorem d_comp3_1_58 : decode jdk_52_method_16_code 58 = .ok (.areturn, 1) := by decide +kernel
set_option maxRecDepth 65536 in
set_option maxHeartbeats 4000000 in
theorem m_comp3_1 (l : Launch) (Z : State) (a0 : Array Value) (hw : ∀ d ∈ tables_1, d.before a0 Z = true) (hs : ∀ d ∈ jdkStatics_1, d.before a0 Z = true) (a : Addr) (f : Nat → Int32) (h0 : Heap) (Aa : Ar Z h0 a .char 1 (fun i => .int (f i))) (q0 : ¬ ((255 : Int32) < f 0)) :
    OMet l (⟨"java/lang/StringUTF16", "compress", "([CII)[B"⟩ : MethodName) jdk_52_method_16_code 6 (Option.some (FieldType.array FieldType.byte)) [] ({ frames := 1, cells := 1, slots := 1, locals := 18 } : Room) Z h0 [] #[(.ref a), (.int (0 : Int32)), (.int (1 : Int32))] (fun v h' => ∃ (b : Addr) (g' : Nat → Int32), v = some (.ref b) ∧ h0.size ≤ b ∧ Ar Z h' b .byte 1 (fun i => .int (g' i))) := by
  refine OMet.of (own := "java/lang/StringUTF16") (nm := "compress") pn_1 rfl rfl ?_
  intro p e s m below meth c T0 P0 hby hml hret hnm
  refine Done.step (T' := T0) (g' := (mkF m 0 #[.val (.ref a), .val (.int (0 : Int32)), .val (.int (1 : Int32)), .unset, .unset, .unset] [])) (fun t kk => castTop (ef_comp3_1 m a (0 : Int32) (1 : Int32)) kk) ?_
  have lta := Aa.ltN
  refine Done.stepL (pc' := 1) (st' := [(.int (1 : Int32))]) (fun t kk => ?_) ?_
  · show Steps p.tables e below (T0.setTop (mkF m 0 _ [])) t
    refine XS.iloadN P0.here P0.x rfl (hb hby d_comp3_1_0) rfl ?_
    exact kk
  refine wNewA (aty := .byte) P0 (tw19 hw) (hb hby d_comp3_1_1) rfl (N := 1) rfl (cap := 1) (Nat.le_refl _) (by decide) (by decide) (by decide) (ad := "[B") (by decide) (ty := .byte) (dv := (.int (0 : Int32))) rfl rfl (k' := 1) (n' := 1) rfl rfl (fun T1 h3 b4 g5 lt6 P2 E7 A8 X9 => ?_)
  have ge_b4 : h0.size ≤ b4 := by have := P0.ge; omega
  show Done _ _ _ _ _ _ _ _ _ _ _ _ _ _ _ T1 (mkF m 3 _ [(.ref b4)])
  refine Done.step (T' := T1) (g' := (mkF m 9 #[.val (.ref a), .val (.int (0 : Int32)), .val (.int (1 : Int32)), .val (.ref b4), .unset, .unset] [(.int (1 : Int32)), (.int (0 : Int32)), (.ref b4), (.int (0 : Int32)), (.ref a)])) (fun t kk => ?_) ?_
  · show Steps p.tables e below (T1.setTop (mkF m 3 _ [(.ref b4)])) t
    refine XS.astoreN P2.here P2.x rfl (hb hby d_comp3_1_3) rfl rfl (l' := #[.val (.ref a), .val (.int (0 : Int32)), .val (.int (1 : Int32)), .val (.ref b4), .unset, .unset]) rfl ?_
    show Steps p.tables e below (T1.setTop (mkF m 4 _ [])) t
    refine XS.aloadN P2.here P2.x rfl (hb hby d_comp3_1_4) rfl rfl ?_
    show Steps p.tables e below (T1.setTop (mkF m 5 _ [(.ref a)])) t
    refine XS.iloadN P2.here P2.x rfl (hb hby d_comp3_1_5) rfl ?_
    show Steps p.tables e below (T1.setTop (mkF m 6 _ [(.int (0 : Int32)), (.ref a)])) t
    refine XS.aloadN P2.here P2.x rfl (hb hby d_comp3_1_6) rfl rfl ?_
    show Steps p.tables e below (T1.setTop (mkF m 7 _ [(.ref b4), (.int (0 : Int32)), (.ref a)])) t
    refine XS.iconst P2.here P2.x rfl (hb hby d_comp3_1_7) ?_
    show Steps p.tables e below (T1.setTop (mkF m 8 _ [(.int (0 : Int32)), (.ref b4), (.int (0 : Int32)), (.ref a)])) t
    refine XS.iloadN P2.here P2.x rfl (hb hby d_comp3_1_8) rfl ?_
    exact kk
  have f14 := (Aa.ext E7)
  refine wCallS P2 (m_comp5_1 l Z a0 hw hs a b4 f (fun _ => (0 : Int32)) h3 f14 q0 A8 (by first | assumption | exact Ne.symm (by assumption) | exact adr_ne (by omega) | omega)) (tw20 hw) (tw21 hw) (tw17 hw) (tw22 hw) (by decide) (by rw [hml]; rfl) (lenOf pd_0 rfl) (argsL := [(.ref a), (.int (0 : Int32)), (.ref b4), (.int (0 : Int32)), (.int (1 : Int32))]) (rest := []) rfl rfl (W := 0) (Nat.le_of_eq rfl) (by decide) (by decide) (by decide) (by decide) (allS (Or.inr ge_b4) all0) (hb hby d_comp3_1_9) rfl (k' := 1) (n' := 1) rfl rfl ?_
  rintro T10 h15 _ P11 K16 ⟨rfl, g13, A12⟩
  have szh15 : h3.size ≤ h15.size := K16.1
  show Done _ _ _ _ _ _ _ _ _ _ _ _ _ _ _ T10 (mkF m 12 _ [(.int (1 : Int32))])
  refine Done.step (T' := T10) (g' := (mkF m 58 #[.val (.ref a), .val (.int (0 : Int32)), .val (.int (1 : Int32)), .val (.ref b4), .val (.int (1 : Int32)), .unset] [(.ref b4)])) (fun t kk => ?_) ?_
  · show Steps p.tables e below (T10.setTop (mkF m 12 _ [(.int (1 : Int32))])) t
    refine XS.istore P11.here P11.x rfl (hb hby d_comp3_1_12) rfl (l' := #[.val (.ref a), .val (.int (0 : Int32)), .val (.int (1 : Int32)), .val (.ref b4), .val (.int (1 : Int32)), .unset]) rfl ?_
    show Steps p.tables e below (T10.setTop (mkF m 14 _ [])) t
    refine XS.iload P11.here P11.x rfl (hb hby d_comp3_1_14) rfl ?_
    show Steps p.tables e below (T10.setTop (mkF m 16 _ [(.int (1 : Int32))])) t
    refine XS.iloadN P11.here P11.x rfl (hb hby d_comp3_1_16) rfl ?_
    show Steps p.tables e below (T10.setTop (mkF m 17 _ [(.int (1 : Int32)), (.int (1 : Int32))])) t
    refine XS.icmpYes P11.here P11.x rfl (pc0 := 17) (pc' := 57) rfl (hb hby d_comp3_1_17) rfl (iiW_eq_t (by decide)) (by decide) (by decide) ?_
    show Steps p.tables e below (T10.setTop (mkF m 57 _ [])) t
    refine XS.aloadN P11.here P11.x rfl (hb hby d_comp3_1_57) rfl rfl ?_
    exact kk
  exact wRetA P11 hret rfl rfl (hb hby d_comp3_1_58) ⟨b4, _, rfl, ge_b4, A12⟩
theorem ef_coder_1 (m : MethodId) (x0 : Addr) (x1 : Int32) : entryFrame m #[(.ref x0), (.int x1)] 2 = mkF m 0 #[.val (.ref x0), .val (.int x1)] [] := by first | (simp [entryFrame, mkF, argsToLocals, Value.category]; done) | rfl
theorem d_coder_1_0 : decode jdk_52_method_15_code 0 = .ok (.iload_n 1, 1) := by decide +kernel
theorem d_coder_1_1 : decode jdk_52_method_15_code 1 = .ok (.aload_n 0, 1) := by decide +kernel
theorem d_coder_1_2 : decode jdk_52_method_15_code 2 = .ok (.arraylength, 1) := by decide +kernel
theorem d_coder_1_3 : decode jdk_52_method_15_code 3 = .ok (.isub, 1) := by decide +kernel
theorem d_coder_1_4 : decode jdk_52_method_15_code 4 = .ok (.bipush 31, 2) := by decide +kernel
theorem d_coder_1_6 : decode jdk_52_method_15_code 6 = .ok (.iushr, 1) := by decide +kernel
theorem d_coder_1_7 : decode jdk_52_method_15_code 7 = .ok (.i2b, 1) := by decide +kernel
theorem d_coder_1_8 : decode jdk_52_method_15_code 8 = .ok (.ireturn, 1) := by decide +kernel
set_option maxRecDepth 65536 in
set_option maxHeartbeats 4000000 in
theorem m_coder_1 (l : Launch) (Z : State) (a0 : Array Value) (hw : ∀ d ∈ tables_1, d.before a0 Z = true) (hs : ∀ d ∈ jdkStatics_1, d.before a0 Z = true) (a : Addr) (gb : Nat → Int32) (h0 : Heap) (Ab : Ar Z h0 a .byte 1 (fun i => .int (gb i))) :
    OMet l (⟨"java/lang/StringUTF16", "coderFromArrayLen", "([BI)B"⟩ : MethodName) jdk_52_method_15_code 2 (Option.some FieldType.byte) [] ({ frames := 0, cells := 0, slots := 0, locals := 0 } : Room) Z h0 [] #[(.ref a), (.int (1 : Int32))] (fun v h' => ∃ x : Int32, v = some (.int x) ∧ h0 = h') := by
  refine OMet.of (own := "java/lang/StringUTF16") (nm := "coderFromArrayLen") pn_2 rfl rfl ?_
  intro p e s m below meth c T0 P0 hby hml hret hnm
  refine Done.step (T' := T0) (g' := (mkF m 0 #[.val (.ref a), .val (.int (1 : Int32))] [])) (fun t kk => castTop (ef_coder_1 m a (1 : Int32)) kk) ?_
  refine Done.stepL (pc' := 2) (st' := [(.ref a), (.int (1 : Int32))]) (fun t kk => ?_) ?_
  · show Steps p.tables e below (T0.setTop (mkF m 0 _ [])) t
    refine XS.iloadN P0.here P0.x rfl (hb hby d_coder_1_0) rfl ?_
    show Steps p.tables e below (T0.setTop (mkF m 1 _ [(.int (1 : Int32))])) t
    refine XS.aloadN P0.here P0.x rfl (hb hby d_coder_1_1) rfl rfl ?_
    exact kk
  refine wLen P0 Ab (z := (1 : Int32)) rfl (hb hby d_coder_1_2) rfl ?_
  show Done _ _ _ _ _ _ _ _ _ _ _ _ _ _ _ T0 (mkF m 3 _ [(.int (1 : Int32)), (.int (1 : Int32))])
  refine Done.stepL (pc' := 8) (st' := [(.int ((((1 : Int32) - (1 : Int32)).toUInt32 >>> ((31 : Int32) &&& 31).toUInt32).toInt32).toInt8.toInt32)]) (fun t kk => ?_) ?_
  · show Steps p.tables e below (T0.setTop (mkF m 3 _ [(.int (1 : Int32)), (.int (1 : Int32))])) t
    refine XS.isub P0.here P0.x rfl (hb hby d_coder_1_3) rfl ?_
    show Steps p.tables e below (T0.setTop (mkF m 4 _ [(.int ((1 : Int32) - (1 : Int32)))])) t
    refine XS.bipush P0.here P0.x rfl (hb hby d_coder_1_4) ?_
    show Steps p.tables e below (T0.setTop (mkF m 6 _ [(.int (31 : Int32)), (.int ((1 : Int32) - (1 : Int32)))])) t
    refine XS.iushr P0.here P0.x rfl (hb hby d_coder_1_6) rfl ?_
    show Steps p.tables e below (T0.setTop (mkF m 7 _ [(.int ((((1 : Int32) - (1 : Int32)).toUInt32 >>> ((31 : Int32) &&& 31).toUInt32).toInt32))])) t
    refine XS.i2b P0.here P0.x rfl (hb hby d_coder_1_7) rfl ?_
    exact kk
  exact wRetN P0 (t := .byte) hret (by simp) (hb hby d_coder_1_8) ⟨_, rfl, rfl⟩
theorem ef_str4_1 (m : MethodId) (x0 : Addr) (x1 : Addr) (x2 : Int32) (x3 : Int32) : entryFrame m #[(.ref x0), (.ref x1), (.int x2), (.int x3), .null] 6 = mkF m 0 #[.val (.ref x0), .val (.ref x1), .val (.int x2), .val (.int x3), .val .null, .unset] [] := by first | (simp [entryFrame, mkF, argsToLocals, Value.category]; done) | rfl
theorem d_str4_1_0 : decode jdk_42_method_149_code 0 = .ok (.aload_n 0, 1) := by decide +kernel
theorem d_str4_1_1 : decode jdk_42_method_149_code 1 = .ok (.invokespecial 1, 3) := by decide +kernel
theorem d_str4_1_4 : decode jdk_42_method_149_code 4 = .ok (.iload_n 3, 1) := by decide +kernel
theorem d_str4_1_5 : decode jdk_42_method_149_code 5 = .ok (.ifCond .ne 22, 3) := by decide +kernel
theorem d_str4_1_27 : decode jdk_42_method_149_code 27 = .ok (.getstatic 38, 3) := by decide +kernel
theorem d_str4_1_30 : decode jdk_42_method_149_code 30 = .ok (.ifCond .eq 28, 3) := by decide +kernel
theorem d_str4_1_33 : decode jdk_42_method_149_code 33 = .ok (.aload_n 1, 1) := by decide +kernel
theorem d_str4_1_34 : decode jdk_42_method_149_code 34 = .ok (.iload_n 2, 1) := by decide +kernel
theorem d_str4_1_35 : decode jdk_42_method_149_code 35 = .ok (.iload_n 3, 1) := by decide +kernel
theorem d_str4_1_36 : decode jdk_42_method_149_code 36 = .ok (.invokestatic 177, 3) := by decide +kernel
theorem d_str4_1_39 : decode jdk_42_method_149_code 39 = .ok (.astore 5, 2) := by decide +kernel
theorem d_str4_1_41 : decode jdk_42_method_149_code 41 = .ok (.aload_n 0, 1) := by decide +kernel
theorem d_str4_1_42 : decode jdk_42_method_149_code 42 = .ok (.aload 5, 2) := by decide +kernel
theorem d_str4_1_44 : decode jdk_42_method_149_code 44 = .ok (.iload_n 3, 1) := by decide +kernel
theorem d_str4_1_45 : decode jdk_42_method_149_code 45 = .ok (.invokestatic 47, 3) := by decide +kernel
theorem d_str4_1_48 : decode jdk_42_method_149_code 48 = .ok (.putfield 15, 3) := by decide +kernel
theorem d_str4_1_51 : decode jdk_42_method_149_code 51 = .ok (.aload_n 0, 1) := by decide +kernel
theorem d_str4_1_52 : decode jdk_42_method_149_code 52 = .ok (.aload 5, 2) := by decide +kernel
theorem d_str4_1_54 : decode jdk_42_method_149_code 54 = .ok (.putfield 9, 3) := by decide +kernel
theorem d_str4_1_57 : decode jdk_42_method_149_code 57 = .ok (.return_, 1) := by decide +kernel
set_option maxRecDepth 65536 in
set_option maxHeartbeats 4000000 in
theorem m_str4_1 (l : Launch) (Z : State) (a0 : Array Value) (hw : ∀ d ∈ tables_1, d.before a0 Z = true) (hs : ∀ d ∈ jdkStatics_1, d.before a0 Z = true) (z a : Addr) (f : Nat → Int32) (cs : Int32) (h0 : Heap) (E0 : Exa Z h0 z "java/lang/String") (F1 : Fld Z h0 z "java/lang/String" "value" "[B" .null) (F2 : Fld Z h0 z "java/lang/String" "coder" "B" (.int 0)) (nza : z ≠ a) (Aa : Ar Z h0 a .char 1 (fun i => .int (f i))) (q0 : ¬ ((255 : Int32) < f 0)) (S0 : Sta Z h0 "java/lang/String" "COMPACT_STRINGS" "Z" (.int cs)) (hcs : ¬ (cs = (0 : Int32))) :
    OMet l (⟨"java/lang/String", "<init>", "([CIILjava/lang/Void;)V"⟩ : MethodName) jdk_42_method_149_code 6 (Option.none : Option FieldType) [] ({ frames := 2, cells := 1, slots := 1, locals := 35 } : Room) Z h0 [z] #[(.ref z), (.ref a), (.int (0 : Int32)), (.int (1 : Int32)), .null] (fun v h' => v = none) := by
  refine OMet.of (own := "java/lang/String") (nm := "<init>") pn_3 rfl rfl ?_
  intro p e s m below meth c T0 P0 hby hml hret hnm
  refine Done.step (T' := T0) (g' := (mkF m 0 #[.val (.ref z), .val (.ref a), .val (.int (0 : Int32)), .val (.int (1 : Int32)), .val .null, .unset] [])) (fun t kk => castTop (ef_str4_1 m z a (0 : Int32) (1 : Int32)) kk) ?_
  have lta := Aa.ltN
  have ltz := exaN E0
  refine Done.stepL (pc' := 1) (st' := [(.ref z)]) (fun t kk => ?_) ?_
  · show Steps p.tables e below (T0.setTop (mkF m 0 _ [])) t
    refine XS.aloadN P0.here P0.x rfl (hb hby d_str4_1_0) rfl rfl ?_
    exact kk
  refine wInit P0 (tw11 hw) (tw12 hw) (tw13 hw) (by rw [hml]; rfl) (hb hby d_str4_1_1) (by decide) (W := 0) (Nat.le_of_eq rfl) (by decide) rfl (fun T1 P2 => ?_)
  show Done _ _ _ _ _ _ _ _ _ _ _ _ _ _ _ T1 (mkF m 4 _ [])
  refine Done.stepL (pc' := 27) (st' := []) (fun t kk => ?_) ?_
  · show Steps p.tables e below (T1.setTop (mkF m 4 _ [])) t
    refine XS.iloadN P2.here P2.x rfl (hb hby d_str4_1_4) rfl ?_
    show Steps p.tables e below (T1.setTop (mkF m 5 _ [(.int (1 : Int32))])) t
    refine XS.ifYes P2.here P2.x rfl (pc0 := 5) (pc' := 27) rfl (hb hby d_str4_1_5) rfl (i0W_ne_t (by decide)) (by decide) (by decide) ?_
    exact kk
  refine wGetS P2 (host := "") (Or.inl (tw14 hw)) Via.refl S0 (hb hby d_str4_1_27) rfl (fun T3 P4 => ?_)
  show Done _ _ _ _ _ _ _ _ _ _ _ _ _ _ _ T3 (mkF m 30 _ [(.int cs)])
  refine Done.stepL (pc' := 36) (st' := [(.int (1 : Int32)), (.int (0 : Int32)), (.ref a)]) (fun t kk => ?_) ?_
  · show Steps p.tables e below (T3.setTop (mkF m 30 _ [(.int cs)])) t
    refine XS.ifNo P4.here P4.x rfl (hb hby d_str4_1_30) rfl (i0W_eq_f hcs) ?_
    show Steps p.tables e below (T3.setTop (mkF m 33 _ [])) t
    refine XS.aloadN P4.here P4.x rfl (hb hby d_str4_1_33) rfl rfl ?_
    show Steps p.tables e below (T3.setTop (mkF m 34 _ [(.ref a)])) t
    refine XS.iloadN P4.here P4.x rfl (hb hby d_str4_1_34) rfl ?_
    show Steps p.tables e below (T3.setTop (mkF m 35 _ [(.int (0 : Int32)), (.ref a)])) t
    refine XS.iloadN P4.here P4.x rfl (hb hby d_str4_1_35) rfl ?_
    exact kk
  refine wCallS P4 (m_comp3_1 l Z a0 hw hs a f h0 Aa q0) (tw15 hw) (tw16 hw) (tw17 hw) (tw18 hw) (by decide) (by rw [hml]; rfl) (lenOf pd_1 rfl) (argsL := [(.ref a), (.int (0 : Int32)), (.int (1 : Int32))]) (rest := []) rfl rfl (W := 0) (Nat.le_of_eq rfl) (by decide) (by decide) (by decide) (by decide) (by simp) (hb hby d_str4_1_36) rfl (k' := 1) (n' := 1) rfl rfl ?_
  rintro T5 h11 _ P6 K12 ⟨b7, g8, rfl, ge9, A10⟩
  have szh11 : h0.size ≤ h11.size := K12.1
  show Done _ _ _ _ _ _ _ _ _ _ _ _ _ _ _ T5 (mkF m 39 _ [(.ref b7)])
  refine Done.step (T' := T5) (g' := (mkF m 45 #[.val (.ref z), .val (.ref a), .val (.int (0 : Int32)), .val (.int (1 : Int32)), .val .null, .val (.ref b7)] [(.int (1 : Int32)), (.ref b7), (.ref z)])) (fun t kk => ?_) ?_
  · show Steps p.tables e below (T5.setTop (mkF m 39 _ [(.ref b7)])) t
    refine XS.astore P6.here P6.x rfl (hb hby d_str4_1_39) rfl rfl (l' := #[.val (.ref z), .val (.ref a), .val (.int (0 : Int32)), .val (.int (1 : Int32)), .val .null, .val (.ref b7)]) rfl ?_
    show Steps p.tables e below (T5.setTop (mkF m 41 _ [])) t
    refine XS.aloadN P6.here P6.x rfl (hb hby d_str4_1_41) rfl rfl ?_
    show Steps p.tables e below (T5.setTop (mkF m 42 _ [(.ref z)])) t
    refine XS.aload P6.here P6.x rfl (hb hby d_str4_1_42) rfl rfl ?_
    show Steps p.tables e below (T5.setTop (mkF m 44 _ [(.ref b7), (.ref z)])) t
    refine XS.iloadN P6.here P6.x rfl (hb hby d_str4_1_44) rfl ?_
    exact kk
  refine wCallS P6 (m_coder_1 l Z a0 hw hs b7 g8 h11 A10) (tw23 hw) (tw24 hw) (tw17 hw) (tw25 hw) (by decide) (by rw [hml]; rfl) (lenOf pd_2 rfl) (argsL := [(.ref b7), (.int (1 : Int32))]) (rest := [(.ref z)]) rfl rfl (W := 1) (Nat.le_of_eq rfl) (by decide) (by decide) (by decide) (by decide) (by simp) (hb hby d_str4_1_45) rfl (k' := 1) (n' := 1) rfl rfl ?_
  rintro T13 _ _ P14 - ⟨x15, rfl, rfl⟩
  show Done _ _ _ _ _ _ _ _ _ _ _ _ _ _ _ T13 (mkF m 48 _ [(.int x15), (.ref z)])
  have f16 := (F2.keep K12 nin0)
  have f17 := (E0.keep K12)
  refine wPutN P14 (tw26 hw) Via.refl f16 f17 (Or.inr ⟨(tw27 hw), rfl, hnm⟩) (tw2 hw) (ty := .byte) (by decide) (x' := x15.toInt8.toInt32) rfl (fits_nar_byte _) (Or.inl (by simp)) (hb hby d_str4_1_48) rfl (fun T18 h20 P19 W21 F22 => ?_)
  have szh20 : h20.size = h11.size := W21.size
  show Done _ _ _ _ _ _ _ _ _ _ _ _ _ _ _ T18 (mkF m 51 _ [])
  refine Done.stepL (pc' := 54) (st' := [(.ref b7), (.ref z)]) (fun t kk => ?_) ?_
  · show Steps p.tables e below (T18.setTop (mkF m 51 _ [])) t
    refine XS.aloadN P19.here P19.x rfl (hb hby d_str4_1_51) rfl rfl ?_
    show Steps p.tables e below (T18.setTop (mkF m 52 _ [(.ref z)])) t
    refine XS.aload P19.here P19.x rfl (hb hby d_str4_1_52) rfl rfl ?_
    exact kk
  have f23 := ((F1.keep K12 nin0).other W21 (Or.inr (slot_ne (Or.inr (tw29 hw)) (Or.inr (tw27 hw)) (by decide) (t := (.array .byte)) (t' := .byte) (by decide) (by decide))))
  have f24 := (f17.wr W21)
  refine wPut P19 (host := "") (Or.inl (tw28 hw)) Via.refl f23 f24 (Or.inr ⟨(tw29 hw), rfl, hnm⟩) (tw2 hw) (ty := (.array .byte)) (by decide) rfl rfl (Or.inl (by simp)) (hb hby d_str4_1_54) rfl (fun T25 h27 P26 W28 F29 => ?_)
  have szh27 : h27.size = h20.size := W28.size
  show Done _ _ _ _ _ _ _ _ _ _ _ _ _ _ _ T25 (mkF m 57 _ [])
  exact wRetV P26 hret (hb hby d_str4_1_57) rfl
theorem ef_str1_1 (m : MethodId) (x0 : Addr) (x1 : Addr) : entryFrame m #[(.ref x0), (.ref x1)] 2 = mkF m 0 #[.val (.ref x0), .val (.ref x1)] [] := by first | (simp [entryFrame, mkF, argsToLocals, Value.category]; done) | rfl
theorem d_str1_1_0 : decode jdk_42_method_3_code 0 = .ok (.aload_n 0, 1) := by decide +kernel
theorem d_str1_1_1 : decode jdk_42_method_3_code 1 = .ok (.aload_n 1, 1) := by decide +kernel
theorem d_str1_1_2 : decode jdk_42_method_3_code 2 = .ok (.iconst 0, 1) := by decide +kernel
theorem d_str1_1_3 : decode jdk_42_method_3_code 3 = .ok (.aload_n 1, 1) := by decide +kernel
theorem d_str1_1_4 : decode jdk_42_method_3_code 4 = .ok (.arraylength, 1) := by decide +kernel
theorem d_str1_1_5 : decode jdk_42_method_3_code 5 = .ok (.aconst_null, 1) := by decide +kernel
theorem d_str1_1_6 : decode jdk_42_method_3_code 6 = .ok (.invokespecial 27, 3) := by decide +kernel
theorem d_str1_1_9 : decode jdk_42_method_3_code 9 = .ok (.return_, 1) := by decide +kernel
set_option maxRecDepth 65536 in
set_option maxHeartbeats 4000000 in
theorem m_str1_1 (l : Launch) (Z : State) (a0 : Array Value) (hw : ∀ d ∈ tables_1, d.before a0 Z = true) (hs : ∀ d ∈ jdkStatics_1, d.before a0 Z = true) (z a : Addr) (f : Nat → Int32) (cs : Int32) (h0 : Heap) (E0 : Exa Z h0 z "java/lang/String") (F1 : Fld Z h0 z "java/lang/String" "value" "[B" .null) (F2 : Fld Z h0 z "java/lang/String" "coder" "B" (.int 0)) (nza : z ≠ a) (Aa : Ar Z h0 a .char 1 (fun i => .int (f i))) (q0 : ¬ ((255 : Int32) < f 0)) (S0 : Sta Z h0 "java/lang/String" "COMPACT_STRINGS" "Z" (.int cs)) (hcs : ¬ (cs = (0 : Int32))) :
    OMet l (⟨"java/lang/String", "<init>", "([C)V"⟩ : MethodName) jdk_42_method_3_code 2 (Option.none : Option FieldType) [] ({ frames := 3, cells := 1, slots := 1, locals := 52 } : Room) Z h0 [z] #[(.ref z), (.ref a)] (fun v h' => v = none) := by
  refine OMet.of (own := "java/lang/String") (nm := "<init>") pn_4 rfl rfl ?_
  intro p e s m below meth c T0 P0 hby hml hret hnm
  refine Done.step (T' := T0) (g' := (mkF m 0 #[.val (.ref z), .val (.ref a)] [])) (fun t kk => castTop (ef_str1_1 m z a) kk) ?_
  have lta := Aa.ltN
  have ltz := exaN E0
  refine Done.stepL (pc' := 4) (st' := [(.ref a), (.int (0 : Int32)), (.ref a), (.ref z)]) (fun t kk => ?_) ?_
  · show Steps p.tables e below (T0.setTop (mkF m 0 _ [])) t
    refine XS.aloadN P0.here P0.x rfl (hb hby d_str1_1_0) rfl rfl ?_
    show Steps p.tables e below (T0.setTop (mkF m 1 _ [(.ref z)])) t
    refine XS.aloadN P0.here P0.x rfl (hb hby d_str1_1_1) rfl rfl ?_
    show Steps p.tables e below (T0.setTop (mkF m 2 _ [(.ref a), (.ref z)])) t
    refine XS.iconst P0.here P0.x rfl (hb hby d_str1_1_2) ?_
    show Steps p.tables e below (T0.setTop (mkF m 3 _ [(.int (0 : Int32)), (.ref a), (.ref z)])) t
    refine XS.aloadN P0.here P0.x rfl (hb hby d_str1_1_3) rfl rfl ?_
    exact kk
  refine wLen P0 Aa (z := (1 : Int32)) rfl (hb hby d_str1_1_4) rfl ?_
  show Done _ _ _ _ _ _ _ _ _ _ _ _ _ _ _ T0 (mkF m 5 _ [(.int (1 : Int32)), (.int (0 : Int32)), (.ref a), (.ref z)])
  refine Done.stepL (pc' := 6) (st' := [.null, (.int (1 : Int32)), (.int (0 : Int32)), (.ref a), (.ref z)]) (fun t kk => ?_) ?_
  · show Steps p.tables e below (T0.setTop (mkF m 5 _ [(.int (1 : Int32)), (.int (0 : Int32)), (.ref a), (.ref z)])) t
    refine XS.aconstNull P0.here P0.x rfl (hb hby d_str1_1_5) ?_
    exact kk
  refine wCallI P0 (m_str4_1 l Z a0 hw hs z a f cs h0 E0 F1 F2 (by first | assumption | exact Ne.symm (by assumption) | exact adr_ne (by omega) | omega) Aa q0 S0 hcs) rfl (tw7 hw) (tw8 hw) (tw3 hw) (tw10 hw) (by decide) (a := z) (by rw [hml]; rfl) (lenOf pd_3 rfl) (argsL := [(.ref a), (.int (0 : Int32)), (.int (1 : Int32)), .null]) (rest := []) rfl rfl (W := 0) (Nat.le_of_eq rfl) (by decide) (by decide) (by decide) (by decide) (allS (Or.inl (by simp)) all0) (hb hby d_str1_1_6) rfl (k' := 1) (n' := 1) rfl rfl ?_
  rintro T1 h3 _ P2 K4 rfl
  have szh3 : h0.size ≤ h3.size := K4.1
  show Done _ _ _ _ _ _ _ _ _ _ _ _ _ _ _ T1 (mkF m 9 _ [])
  exact wRetV P2 hret (hb hby d_str1_1_9) rfl
theorem ef_comp5_2 (m : MethodId) (x0 : Addr) (x1 : Int32) (x2 : Addr) (x3 : Int32) (x4 : Int32) : entryFrame m #[(.ref x0), (.int x1), (.ref x2), (.int x3), (.int x4)] 7 = mkF m 0 #[.val (.ref x0), .val (.int x1), .val (.ref x2), .val (.int x3), .val (.int x4), .unset, .unset] [] := by first | (simp [entryFrame, mkF, argsToLocals, Value.category]; done) | rfl
theorem d_comp5_2_0 : decode jdk_52_method_21_code 0 = .ok (.iconst 0, 1) := by decide +kernel
theorem d_comp5_2_1 : decode jdk_52_method_21_code 1 = .ok (.istore 5, 2) := by decide +kernel
theorem d_comp5_2_3 : decode jdk_52_method_21_code 3 = .ok (.iload 5, 2) := by decide +kernel
theorem d_comp5_2_5 : decode jdk_52_method_21_code 5 = .ok (.iload 4, 2) := by decide +kernel
theorem d_comp5_2_7 : decode jdk_52_method_21_code 7 = .ok (.if_icmp .ge 37, 3) := by decide +kernel
theorem d_comp5_2_10 : decode jdk_52_method_21_code 10 = .ok (.aload_n 0, 1) := by decide +kernel
theorem d_comp5_2_11 : decode jdk_52_method_21_code 11 = .ok (.iload_n 1, 1) := by decide +kernel
theorem d_comp5_2_12 : decode jdk_52_method_21_code 12 = .ok (.caload, 1) := by decide +kernel
theorem d_comp5_2_13 : decode jdk_52_method_21_code 13 = .ok (.istore 6, 2) := by decide +kernel
theorem d_comp5_2_15 : decode jdk_52_method_21_code 15 = .ok (.iload 6, 2) := by decide +kernel
theorem d_comp5_2_17 : decode jdk_52_method_21_code 17 = .ok (.sipush 255, 3) := by decide +kernel
theorem d_comp5_2_20 : decode jdk_52_method_21_code 20 = .ok (.if_icmp .le 6, 3) := by decide +kernel
theorem d_comp5_2_26 : decode jdk_52_method_21_code 26 = .ok (.aload_n 2, 1) := by decide +kernel
theorem d_comp5_2_27 : decode jdk_52_method_21_code 27 = .ok (.iload_n 3, 1) := by decide +kernel
theorem d_comp5_2_28 : decode jdk_52_method_21_code 28 = .ok (.iload 6, 2) := by decide +kernel
theorem d_comp5_2_30 : decode jdk_52_method_21_code 30 = .ok (.i2b, 1) := by decide +kernel
theorem d_comp5_2_31 : decode jdk_52_method_21_code 31 = .ok (.bastore, 1) := by decide +kernel
theorem d_comp5_2_32 : decode jdk_52_method_21_code 32 = .ok (.iinc 1 1, 3) := by decide +kernel
theorem d_comp5_2_35 : decode jdk_52_method_21_code 35 = .ok (.iinc 3 1, 3) := by decide +kernel
theorem d_comp5_2_38 : decode jdk_52_method_21_code 38 = .ok (.iinc 5 1, 3) := by decide +kernel
theorem d_comp5_2_41 : decode jdk_52_method_21_code 41 = .ok (.goto (-38), 3) := by decide +kernel
theorem d_comp5_2_44 : decode jdk_52_method_21_code 44 = .ok (.iload 4, 2) := by decide +kernel
theorem d_comp5_2_46 : decode jdk_52_method_21_code 46 = .ok (.ireturn, 1) := by decide +kernel
set_option maxRecDepth 65536 in
set_option maxHeartbeats 4000000 in
theorem m_comp5_2 (l : Launch) (Z : State) (a0 : Array Value) (hw : ∀ d ∈ tables_1, d.before a0 Z = true) (hs : ∀ d ∈ jdkStatics_1, d.before a0 Z = true) (a b : Addr) (f gb : Nat → Int32) (h0 : Heap) (Aa : Ar Z h0 a .char 2 (fun i => .int (f i))) (q0 : ¬ ((255 : Int32) < f 0)) (q1 : ¬ ((255 : Int32) < f 1)) (Ab : Ar Z h0 b .byte 2 (fun i => .int (gb i))) (nab : a ≠ b) :
    OMet l (⟨"java/lang/StringUTF16", "compress", "([CI[BII)I"⟩ : MethodName) jdk_52_method_21_code 7 (Option.some FieldType.int) [] ({ frames := 0, cells := 0, slots := 0, locals := 0 } : Room) Z h0 [b] #[(.ref a), (.int (0 : Int32)), (.ref b), (.int (0 : Int32)), (.int (2 : Int32))] (fun v h' => v = some (.int 2) ∧ ∃ g' : Nat → Int32, Ar Z h' b .byte 2 (fun i => .int (g' i))) := by
  refine OMet.of (own := "java/lang/StringUTF16") (nm := "compress") pn_0 rfl rfl ?_
  intro p e s m below meth c T0 P0 hby hml hret hnm
  refine Done.step (T' := T0) (g' := (mkF m 0 #[.val (.ref a), .val (.int (0 : Int32)), .val (.ref b), .val (.int (0 : Int32)), .val (.int (2 : Int32)), .unset, .unset] [])) (fun t kk => castTop (ef_comp5_2 m a (0 : Int32) b (0 : Int32) (2 : Int32)) kk) ?_
  refine Done.step (T' := T0) (g' := (mkF m 12 #[.val (.ref a), .val (.int (0 : Int32)), .val (.ref b), .val (.int (0 : Int32)), .val (.int (2 : Int32)), .val (.int (0 : Int32)), .unset] [(.int (0 : Int32)), (.ref a)])) (fun t kk => ?_) ?_
  · show Steps p.tables e below (T0.setTop (mkF m 0 _ [])) t
    refine XS.iconst P0.here P0.x rfl (hb hby d_comp5_2_0) ?_
    show Steps p.tables e below (T0.setTop (mkF m 1 _ [(.int (0 : Int32))])) t
    refine XS.istore P0.here P0.x rfl (hb hby d_comp5_2_1) rfl (l' := #[.val (.ref a), .val (.int (0 : Int32)), .val (.ref b), .val (.int (0 : Int32)), .val (.int (2 : Int32)), .val (.int (0 : Int32)), .unset]) rfl ?_
    show Steps p.tables e below (T0.setTop (mkF m 3 _ [])) t
    refine XS.iload P0.here P0.x rfl (hb hby d_comp5_2_3) rfl ?_
    show Steps p.tables e below (T0.setTop (mkF m 5 _ [(.int (0 : Int32))])) t
    refine XS.iload P0.here P0.x rfl (hb hby d_comp5_2_5) rfl ?_
    show Steps p.tables e below (T0.setTop (mkF m 7 _ [(.int (2 : Int32)), (.int (0 : Int32))])) t
    refine XS.icmpNo P0.here P0.x rfl (hb hby d_comp5_2_7) rfl (iiW_ge_f (by decide)) ?_
    show Steps p.tables e below (T0.setTop (mkF m 10 _ [])) t
    refine XS.aloadN P0.here P0.x rfl (hb hby d_comp5_2_10) rfl rfl ?_
    show Steps p.tables e below (T0.setTop (mkF m 11 _ [(.ref a)])) t
    refine XS.iloadN P0.here P0.x rfl (hb hby d_comp5_2_11) rfl ?_
    exact kk
  refine wCaload P0 Aa (j := (0 : Int32)) (i := 0) rfl (by decide) (v := (.int (f 0))) rfl (hb hby d_comp5_2_12) rfl ?_
  show Done _ _ _ _ _ _ _ _ _ _ _ _ _ _ _ T0 (mkF m 13 _ [(.int (f 0))])
  refine Done.step (T' := T0) (g' := (mkF m 31 #[.val (.ref a), .val (.int (0 : Int32)), .val (.ref b), .val (.int (0 : Int32)), .val (.int (2 : Int32)), .val (.int (0 : Int32)), .val (.int (f 0))] [(.int (f 0).toInt8.toInt32), (.int (0 : Int32)), (.ref b)])) (fun t kk => ?_) ?_
  · show Steps p.tables e below (T0.setTop (mkF m 13 _ [(.int (f 0))])) t
    refine XS.istore P0.here P0.x rfl (hb hby d_comp5_2_13) rfl (l' := #[.val (.ref a), .val (.int (0 : Int32)), .val (.ref b), .val (.int (0 : Int32)), .val (.int (2 : Int32)), .val (.int (0 : Int32)), .val (.int (f 0))]) rfl ?_
    show Steps p.tables e below (T0.setTop (mkF m 15 _ [])) t
    refine XS.iload P0.here P0.x rfl (hb hby d_comp5_2_15) rfl ?_
    show Steps p.tables e below (T0.setTop (mkF m 17 _ [(.int (f 0))])) t
    refine XS.sipush P0.here P0.x rfl (hb hby d_comp5_2_17) ?_
    show Steps p.tables e below (T0.setTop (mkF m 20 _ [(.int (255 : Int32)), (.int (f 0))])) t
    refine XS.icmpYes P0.here P0.x rfl (pc0 := 20) (pc' := 26) rfl (hb hby d_comp5_2_20) rfl (iiW_le_t q0) (by decide) (by decide) ?_
    show Steps p.tables e below (T0.setTop (mkF m 26 _ [])) t
    refine XS.aloadN P0.here P0.x rfl (hb hby d_comp5_2_26) rfl rfl ?_
    show Steps p.tables e below (T0.setTop (mkF m 27 _ [(.ref b)])) t
    refine XS.iloadN P0.here P0.x rfl (hb hby d_comp5_2_27) rfl ?_
    show Steps p.tables e below (T0.setTop (mkF m 28 _ [(.int (0 : Int32)), (.ref b)])) t
    refine XS.iload P0.here P0.x rfl (hb hby d_comp5_2_28) rfl ?_
    show Steps p.tables e below (T0.setTop (mkF m 30 _ [(.int (f 0)), (.int (0 : Int32)), (.ref b)])) t
    refine XS.i2b P0.here P0.x rfl (hb hby d_comp5_2_30) rfl ?_
    exact kk
  refine wBastore P0 (f := gb) Ab (j := (0 : Int32)) (i := 0) rfl (by decide) (Or.inl (by simp)) (hb hby d_comp5_2_31) rfl (fun T1 h3 P2 W4 A5 => ?_)
  have szh3 : h3.size = h0.size := W4.size
  show Done _ _ _ _ _ _ _ _ _ _ _ _ _ _ _ T1 (mkF m 32 _ [])
  refine Done.step (T' := T1) (g' := (mkF m 3 #[.val (.ref a), .val (.int ((0 : Int32) + (1 : Int32))), .val (.ref b), .val (.int ((0 : Int32) + (1 : Int32))), .val (.int (2 : Int32)), .val (.int ((0 : Int32) + (1 : Int32))), .val (.int (f 0))] [])) (fun t kk => ?_) ?_
  · show Steps p.tables e below (T1.setTop (mkF m 32 _ [])) t
    refine XS.iinc P2.here P2.x rfl (hb hby d_comp5_2_32) rfl (l' := #[.val (.ref a), .val (.int ((0 : Int32) + (1 : Int32))), .val (.ref b), .val (.int (0 : Int32)), .val (.int (2 : Int32)), .val (.int (0 : Int32)), .val (.int (f 0))]) rfl ?_
    show Steps p.tables e below (T1.setTop (mkF m 35 _ [])) t
    refine XS.iinc P2.here P2.x rfl (hb hby d_comp5_2_35) rfl (l' := #[.val (.ref a), .val (.int ((0 : Int32) + (1 : Int32))), .val (.ref b), .val (.int ((0 : Int32) + (1 : Int32))), .val (.int (2 : Int32)), .val (.int (0 : Int32)), .val (.int (f 0))]) rfl ?_
    show Steps p.tables e below (T1.setTop (mkF m 38 _ [])) t
    refine XS.iinc P2.here P2.x rfl (hb hby d_comp5_2_38) rfl (l' := #[.val (.ref a), .val (.int ((0 : Int32) + (1 : Int32))), .val (.ref b), .val (.int ((0 : Int32) + (1 : Int32))), .val (.int (2 : Int32)), .val (.int ((0 : Int32) + (1 : Int32))), .val (.int (f 0))]) rfl ?_
    show Steps p.tables e below (T1.setTop (mkF m 41 _ [])) t
    refine XS.goto P2.here P2.x rfl (pc0 := 41) (pc' := 3) rfl (hb hby d_comp5_2_41) (by decide) (by decide) ?_
    exact kk
  show Done _ _ _ _ _ _ _ _ _ _ _ _ _ _ _ T1 (mkF m 3 #[.val (.ref a), .val (.int (1 : Int32)), .val (.ref b), .val (.int ((0 : Int32) + (1 : Int32))), .val (.int (2 : Int32)), .val (.int ((0 : Int32) + (1 : Int32))), .val (.int (f 0))] [])
  show Done _ _ _ _ _ _ _ _ _ _ _ _ _ _ _ T1 (mkF m 3 #[.val (.ref a), .val (.int (1 : Int32)), .val (.ref b), .val (.int (1 : Int32)), .val (.int (2 : Int32)), .val (.int ((0 : Int32) + (1 : Int32))), .val (.int (f 0))] [])
  show Done _ _ _ _ _ _ _ _ _ _ _ _ _ _ _ T1 (mkF m 3 #[.val (.ref a), .val (.int (1 : Int32)), .val (.ref b), .val (.int (1 : Int32)), .val (.int (2 : Int32)), .val (.int (1 : Int32)), .val (.int (f 0))] [])
  refine Done.stepL (pc' := 12) (st' := [(.int (1 : Int32)), (.ref a)]) (fun t kk => ?_) ?_
  · show Steps p.tables e below (T1.setTop (mkF m 3 _ [])) t
    refine XS.iload P2.here P2.x rfl (hb hby d_comp5_2_3) rfl ?_
    show Steps p.tables e below (T1.setTop (mkF m 5 _ [(.int (1 : Int32))])) t
    refine XS.iload P2.here P2.x rfl (hb hby d_comp5_2_5) rfl ?_
    show Steps p.tables e below (T1.setTop (mkF m 7 _ [(.int (2 : Int32)), (.int (1 : Int32))])) t
    refine XS.icmpNo P2.here P2.x rfl (hb hby d_comp5_2_7) rfl (iiW_ge_f (by decide)) ?_
    show Steps p.tables e below (T1.setTop (mkF m 10 _ [])) t
    refine XS.aloadN P2.here P2.x rfl (hb hby d_comp5_2_10) rfl rfl ?_
    show Steps p.tables e below (T1.setTop (mkF m 11 _ [(.ref a)])) t
    refine XS.iloadN P2.here P2.x rfl (hb hby d_comp5_2_11) rfl ?_
    exact kk
  have f6 := (Aa.other W4 (by first | assumption | exact Ne.symm (by assumption) | exact adr_ne (by omega) | omega))
  refine wCaload P2 f6 (j := (1 : Int32)) (i := 1) rfl (by decide) (v := (.int (f 1))) rfl (hb hby d_comp5_2_12) rfl ?_
  show Done _ _ _ _ _ _ _ _ _ _ _ _ _ _ _ T1 (mkF m 13 _ [(.int (f 1))])
  refine Done.step (T' := T1) (g' := (mkF m 31 #[.val (.ref a), .val (.int (1 : Int32)), .val (.ref b), .val (.int (1 : Int32)), .val (.int (2 : Int32)), .val (.int (1 : Int32)), .val (.int (f 1))] [(.int (f 1).toInt8.toInt32), (.int (1 : Int32)), (.ref b)])) (fun t kk => ?_) ?_
  · show Steps p.tables e below (T1.setTop (mkF m 13 _ [(.int (f 1))])) t
    refine XS.istore P2.here P2.x rfl (hb hby d_comp5_2_13) rfl (l' := #[.val (.ref a), .val (.int (1 : Int32)), .val (.ref b), .val (.int (1 : Int32)), .val (.int (2 : Int32)), .val (.int (1 : Int32)), .val (.int (f 1))]) rfl ?_
    show Steps p.tables e below (T1.setTop (mkF m 15 _ [])) t
    refine XS.iload P2.here P2.x rfl (hb hby d_comp5_2_15) rfl ?_
    show Steps p.tables e below (T1.setTop (mkF m 17 _ [(.int (f 1))])) t
    refine XS.sipush P2.here P2.x rfl (hb hby d_comp5_2_17) ?_
    show Steps p.tables e below (T1.setTop (mkF m 20 _ [(.int (255 : Int32)), (.int (f 1))])) t
    refine XS.icmpYes P2.here P2.x rfl (pc0 := 20) (pc' := 26) rfl (hb hby d_comp5_2_20) rfl (iiW_le_t q1) (by decide) (by decide) ?_
    show Steps p.tables e below (T1.setTop (mkF m 26 _ [])) t
    refine XS.aloadN P2.here P2.x rfl (hb hby d_comp5_2_26) rfl rfl ?_
    show Steps p.tables e below (T1.setTop (mkF m 27 _ [(.ref b)])) t
    refine XS.iloadN P2.here P2.x rfl (hb hby d_comp5_2_27) rfl ?_
    show Steps p.tables e below (T1.setTop (mkF m 28 _ [(.int (1 : Int32)), (.ref b)])) t
    refine XS.iload P2.here P2.x rfl (hb hby d_comp5_2_28) rfl ?_
    show Steps p.tables e below (T1.setTop (mkF m 30 _ [(.int (f 1)), (.int (1 : Int32)), (.ref b)])) t
    refine XS.i2b P2.here P2.x rfl (hb hby d_comp5_2_30) rfl ?_
    exact kk
  refine wBastore P2 (f := (oupd gb 0 (nar .byte (f 0).toInt8.toInt32))) A5 (j := (1 : Int32)) (i := 1) rfl (by decide) (Or.inl (by simp)) (hb hby d_comp5_2_31) rfl (fun T7 h9 P8 W10 A11 => ?_)
  have szh9 : h9.size = h3.size := W10.size
  show Done _ _ _ _ _ _ _ _ _ _ _ _ _ _ _ T7 (mkF m 32 _ [])
  refine Done.step (T' := T7) (g' := (mkF m 3 #[.val (.ref a), .val (.int ((1 : Int32) + (1 : Int32))), .val (.ref b), .val (.int ((1 : Int32) + (1 : Int32))), .val (.int (2 : Int32)), .val (.int ((1 : Int32) + (1 : Int32))), .val (.int (f 1))] [])) (fun t kk => ?_) ?_
  · show Steps p.tables e below (T7.setTop (mkF m 32 _ [])) t
    refine XS.iinc P8.here P8.x rfl (hb hby d_comp5_2_32) rfl (l' := #[.val (.ref a), .val (.int ((1 : Int32) + (1 : Int32))), .val (.ref b), .val (.int (1 : Int32)), .val (.int (2 : Int32)), .val (.int (1 : Int32)), .val (.int (f 1))]) rfl ?_
    show Steps p.tables e below (T7.setTop (mkF m 35 _ [])) t
    refine XS.iinc P8.here P8.x rfl (hb hby d_comp5_2_35) rfl (l' := #[.val (.ref a), .val (.int ((1 : Int32) + (1 : Int32))), .val (.ref b), .val (.int ((1 : Int32) + (1 : Int32))), .val (.int (2 : Int32)), .val (.int (1 : Int32)), .val (.int (f 1))]) rfl ?_
    show Steps p.tables e below (T7.setTop (mkF m 38 _ [])) t
    refine XS.iinc P8.here P8.x rfl (hb hby d_comp5_2_38) rfl (l' := #[.val (.ref a), .val (.int ((1 : Int32) + (1 : Int32))), .val (.ref b), .val (.int ((1 : Int32) + (1 : Int32))), .val (.int (2 : Int32)), .val (.int ((1 : Int32) + (1 : Int32))), .val (.int (f 1))]) rfl ?_
    show Steps p.tables e below (T7.setTop (mkF m 41 _ [])) t
    refine XS.goto P8.here P8.x rfl (pc0 := 41) (pc' := 3) rfl (hb hby d_comp5_2_41) (by decide) (by decide) ?_
    exact kk
  show Done _ _ _ _ _ _ _ _ _ _ _ _ _ _ _ T7 (mkF m 3 #[.val (.ref a), .val (.int (2 : Int32)), .val (.ref b), .val (.int ((1 : Int32) + (1 : Int32))), .val (.int (2 : Int32)), .val (.int ((1 : Int32) + (1 : Int32))), .val (.int (f 1))] [])
  show Done _ _ _ _ _ _ _ _ _ _ _ _ _ _ _ T7 (mkF m 3 #[.val (.ref a), .val (.int (2 : Int32)), .val (.ref b), .val (.int (2 : Int32)), .val (.int (2 : Int32)), .val (.int ((1 : Int32) + (1 : Int32))), .val (.int (f 1))] [])
  show Done _ _ _ _ _ _ _ _ _ _ _ _ _ _ _ T7 (mkF m 3 #[.val (.ref a), .val (.int (2 : Int32)), .val (.ref b), .val (.int (2 : Int32)), .val (.int (2 : Int32)), .val (.int (2 : Int32)), .val (.int (f 1))] [])
  refine Done.stepL (pc' := 46) (st' := [(.int (2 : Int32))]) (fun t kk => ?_) ?_
  · show Steps p.tables e below (T7.setTop (mkF m 3 _ [])) t
    refine XS.iload P8.here P8.x rfl (hb hby d_comp5_2_3) rfl ?_
    show Steps p.tables e below (T7.setTop (mkF m 5 _ [(.int (2 : Int32))])) t
    refine XS.iload P8.here P8.x rfl (hb hby d_comp5_2_5) rfl ?_
    show Steps p.tables e below (T7.setTop (mkF m 7 _ [(.int (2 : Int32)), (.int (2 : Int32))])) t
    refine XS.icmpYes P8.here P8.x rfl (pc0 := 7) (pc' := 44) rfl (hb hby d_comp5_2_7) rfl (iiW_ge_t (by decide)) (by decide) (by decide) ?_
    show Steps p.tables e below (T7.setTop (mkF m 44 _ [])) t
    refine XS.iload P8.here P8.x rfl (hb hby d_comp5_2_44) rfl ?_
    exact kk
  exact wRetI P8 hret (hb hby d_comp5_2_46) ⟨rfl, _, A11⟩
theorem ef_comp3_2 (m : MethodId) (x0 : Addr) (x1 : Int32) (x2 : Int32) : entryFrame m #[(.ref x0), (.int x1), (.int x2)] 6 = mkF m 0 #[.val (.ref x0), .val (.int x1), .val (.int x2), .unset, .unset, .unset] [] := by first | (simp [entryFrame, mkF, argsToLocals, Value.category]; done) | rfl
theorem d_comp3_2_0 : decode jdk_52_method_16_code 0 = .ok (.iload_n 2, 1) := by decide +kernel
theorem d_comp3_2_1 : decode jdk_52_method_16_code 1 = .ok (.newarray .byte, 2) := by decide +kernel
theorem d_comp3_2_3 : decode jdk_52_method_16_code 3 = .ok (.astore_n 3, 1) := by decide +kernel
theorem d_comp3_2_4 : decode jdk_52_method_16_code 4 = .ok (.aload_n 0, 1) := by decide +kernel
theorem d_comp3_2_5 : decode jdk_52_method_16_code 5 = .ok (.iload_n 1, 1) := by decide +kernel
theorem d_comp3_2_6 : decode jdk_52_method_16_code 6 = .ok (.aload_n 3, 1) := by decide +kernel
theorem d_comp3_2_7 : decode jdk_52_method_16_code 7 = .ok (.iconst 0, 1) := by decide +kernel
theorem d_comp3_2_8 : decode jdk_52_method_16_code 8 = .ok (.iload_n 2, 1) := by decide +kernel
theorem d_comp3_2_9 : decode jdk_52_method_16_code 9 = .ok (.invokestatic 115, 3) := by decide +kernel
theorem d_comp3_2_12 : decode jdk_52_method_16_code 12 = .ok (.istore 4, 2) := by decide +kernel
theorem d_comp3_2_14 : decode jdk_52_method_16_code 14 = .ok (.iload 4, 2) := by decide +kernel
theorem d_comp3_2_16 : decode jdk_52_method_16_code 16 = .ok (.iload_n 2, 1) := by decide +kernel
theorem d_comp3_2_17 : decode jdk_52_method_16_code 17 = .ok (.if_icmp .eq 40, 3) := by decide +kernel
theorem d_comp3_2_57 : decode jdk_52_method_16_code 57 = .ok (.aload_n 3, 1) := by decide +kernel
theorem d_comp3_2_58 : decode jdk_52_method_16_code 58 = .ok (.areturn, 1) := by decide +kernel
set_option maxRecDepth 65536 in
set_option maxHeartbeats 4000000 in
theorem m_comp3_2 (l : Launch) (Z : State) (a0 : Array Value) (hw : ∀ d ∈ tables_1, d.before a0 Z = true) (hs : ∀ d ∈ jdkStatics_1, d.before a0 Z = true) (a : Addr) (f : Nat → Int32) (h0 : Heap) (Aa : Ar Z h0 a .char 2 (fun i => .int (f i))) (q0 : ¬ ((255 : Int32) < f 0)) (q1 : ¬ ((255 : Int32) < f 1)) :
    OMet l (⟨"java/lang/StringUTF16", "compress", "([CII)[B"⟩ : MethodName) jdk_52_method_16_code 6 (Option.some (FieldType.array FieldType.byte)) [] ({ frames := 1, cells := 1, slots := 2, locals := 18 } : Room) Z h0 [] #[(.ref a), (.int (0 : Int32)), (.int (2 : Int32))] (fun v h' => ∃ (b : Addr) (g' : Nat → Int32), v = some (.ref b) ∧ h0.size ≤ b ∧ Ar Z h' b .byte 2 (fun i => .int (g' i))) := by
  refine OMet.of (own := "java/lang/StringUTF16") (nm := "compress") pn_1 rfl rfl ?_
  intro p e s m below meth c T0 P0 hby hml hret hnm
  refine Done.step (T' := T0) (g' := (mkF m 0 #[.val (.ref a), .val (.int (0 : Int32)), .val (.int (2 : Int32)), .unset, .unset, .unset] [])) (fun t kk => castTop (ef_comp3_2 m a (0 : Int32) (2 : Int32)) kk) ?_
  have lta := Aa.ltN
  refine Done.stepL (pc' := 1) (st' := [(.int (2 : Int32))]) (fun t kk => ?_) ?_
  · show Steps p.tables e below (T0.setTop (mkF m 0 _ [])) t
    refine XS.iloadN P0.here P0.x rfl (hb hby d_comp3_2_0) rfl ?_
    exact kk
  refine wNewA (aty := .byte) P0 (tw19 hw) (hb hby d_comp3_2_1) rfl (N := 2) rfl (cap := 2) (Nat.le_refl _) (by decide) (by decide) (by decide) (ad := "[B") (by decide) (ty := .byte) (dv := (.int (0 : Int32))) rfl rfl (k' := 1) (n' := 2) rfl rfl (fun T1 h3 b4 g5 lt6 P2 E7 A8 X9 => ?_)
  have ge_b4 : h0.size ≤ b4 := by have := P0.ge; omega
  show Done _ _ _ _ _ _ _ _ _ _ _ _ _ _ _ T1 (mkF m 3 _ [(.ref b4)])
  refine Done.step (T' := T1) (g' := (mkF m 9 #[.val (.ref a), .val (.int (0 : Int32)), .val (.int (2 : Int32)), .val (.ref b4), .unset, .unset] [(.int (2 : Int32)), (.int (0 : Int32)), (.ref b4), (.int (0 : Int32)), (.ref a)])) (fun t kk => ?_) ?_
  · show Steps p.tables e below (T1.setTop (mkF m 3 _ [(.ref b4)])) t
    refine XS.astoreN P2.here P2.x rfl (hb hby d_comp3_2_3) rfl rfl (l' := #[.val (.ref a), .val (.int (0 : Int32)), .val (.int (2 : Int32)), .val (.ref b4), .unset, .unset]) rfl ?_
    show Steps p.tables e below (T1.setTop (mkF m 4 _ [])) t
    refine XS.aloadN P2.here P2.x rfl (hb hby d_comp3_2_4) rfl rfl ?_
    show Steps p.tables e below (T1.setTop (mkF m 5 _ [(.ref a)])) t
    refine XS.iloadN P2.here P2.x rfl (hb hby d_comp3_2_5) rfl ?_
    show Steps p.tables e below (T1.setTop (mkF m 6 _ [(.int (0 : Int32)), (.ref a)])) t
    refine XS.aloadN P2.here P2.x rfl (hb hby d_comp3_2_6) rfl rfl ?_
    show Steps p.tables e below (T1.setTop (mkF m 7 _ [(.ref b4), (.int (0 : Int32)), (.ref a)])) t
    refine XS.iconst P2.here P2.x rfl (hb hby d_comp3_2_7) ?_
    show Steps p.tables e below (T1.setTop (mkF m 8 _ [(.int (0 : Int32)), (.ref b4), (.int (0 : Int32)), (.ref a)])) t
    refine XS.iloadN P2.here P2.x rfl (hb hby d_comp3_2_8) rfl ?_
    exact kk
  have f14 := (Aa.ext E7)
  refine wCallS P2 (m_comp5_2 l Z a0 hw hs a b4 f (fun _ => (0 : Int32)) h3 f14 q0 q1 A8 (by first | assumption | exact Ne.symm (by assumption) | exact adr_ne (by omega) | omega)) (tw20 hw) (tw21 hw) (tw17 hw) (tw22 hw) (by decide) (by rw [hml]; rfl) (lenOf pd_0 rfl) (argsL := [(.ref a), (.int (0 : Int32)), (.ref b4), (.int (0 : Int32)), (.int (2 : Int32))]) (rest := []) rfl rfl (W := 0) (Nat.le_of_eq rfl) (by decide) (by decide) (by decide) (by decide) (allS (Or.inr ge_b4) all0) (hb hby d_comp3_2_9) rfl (k' := 1) (n' := 2) rfl rfl ?_
  rintro T10 h15 _ P11 K16 ⟨rfl, g13, A12⟩
  have szh15 : h3.size ≤ h15.size := K16.1
  show Done _ _ _ _ _ _ _ _ _ _ _ _ _ _ _ T10 (mkF m 12 _ [(.int (2 : Int32))])
  refine Done.step (T' := T10) (g' := (mkF m 58 #[.val (.ref a), .val (.int (0 : Int32)), .val (.int (2 : Int32)), .val (.ref b4), .val (.int (2 : Int32)), .unset] [(.ref b4)])) (fun t kk => ?_) ?_
  · show Steps p.tables e below (T10.setTop (mkF m 12 _ [(.int (2 : Int32))])) t
    refine XS.istore P11.here P11.x rfl (hb hby d_comp3_2_12) rfl (l' := #[.val (.ref a), .val (.int (0 : Int32)), .val (.int (2 : Int32)), .val (.ref b4), .val (.int (2 : Int32)), .unset]) rfl ?_
    show Steps p.tables e below (T10.setTop (mkF m 14 _ [])) t
    refine XS.iload P11.here P11.x rfl (hb hby d_comp3_2_14) rfl ?_
    show Steps p.tables e below (T10.setTop (mkF m 16 _ [(.int (2 : Int32))])) t
    refine XS.iloadN P11.here P11.x rfl (hb hby d_comp3_2_16) rfl ?_
    show Steps p.tables e below (T10.setTop (mkF m 17 _ [(.int (2 : Int32)), (.int (2 : Int32))])) t
    refine XS.icmpYes P11.here P11.x rfl (pc0 := 17) (pc' := 57) rfl (hb hby d_comp3_2_17) rfl (iiW_eq_t (by decide)) (by decide) (by decide) ?_
    show Steps p.tables e below (T10.setTop (mkF m 57 _ [])) t
    refine XS.aloadN P11.here P11.x rfl (hb hby d_comp3_2_57) rfl rfl ?_
    exact kk
  exact wRetA P11 hret rfl rfl (hb hby d_comp3_2_58) ⟨b4, _, rfl, ge_b4, A12⟩
theorem ef_coder_2 (m : MethodId) (x0 : Addr) (x1 : Int32) : entryFrame m #[(.ref x0), (.int x1)] 2 = mkF m 0 #[.val (.ref x0), .val (.int x1)] [] := by first | (simp [entryFrame, mkF, argsToLocals, Value.category]; done) | rfl
theorem d_coder_2_0 : decode jdk_52_method_15_code 0 = .ok (.iload_n 1, 1) := by decide +kernel
theorem d_coder_2_1 : decode jdk_52_method_15_code 1 = .ok (.aload_n 0, 1) := by decide +kernel
theorem d_coder_2_2 : decode jdk_52_method_15_code 2 = .ok (.arraylength, 1) := by decide +kernel
theorem d_coder_2_3 : decode jdk_52_method_15_code 3 = .ok (.isub, 1) := by decide +kernel
theorem d_coder_2_4 : decode jdk_52_method_15_code 4 = .ok (.bipush 31, 2) := by decide +kernel
theorem d_coder_2_6 : decode jdk_52_method_15_code 6 = .ok (.iushr, 1) := by decide +kernel
theorem d_coder_2_7 : decode jdk_52_method_15_code 7 = .ok (.i2b, 1) := by decide +kernel
theorem d_coder_2_8 : decode jdk_52_method_15_code 8 = .ok (.ireturn, 1) := by decide +kernel
set_option maxRecDepth 65536 in
set_option maxHeartbeats 4000000 in
theorem m_coder_2 (l : Launch) (Z : State) (a0 : Array Value) (hw : ∀ d ∈ tables_1, d.before a0 Z = true) (hs : ∀ d ∈ jdkStatics_1, d.before a0 Z = true) (a : Addr) (gb : Nat → Int32) (h0 : Heap) (Ab : Ar Z h0 a .byte 2 (fun i => .int (gb i))) :
    OMet l (⟨"java/lang/StringUTF16", "coderFromArrayLen", "([BI)B"⟩ : MethodName) jdk_52_method_15_code 2 (Option.some FieldType.byte) [] ({ frames := 0, cells := 0, slots := 0, locals := 0 } : Room) Z h0 [] #[(.ref a), (.int (2 : Int32))] (fun v h' => ∃ x : Int32, v = some (.int x) ∧ h0 = h') := by
  refine OMet.of (own := "java/lang/StringUTF16") (nm := "coderFromArrayLen") pn_2 rfl rfl ?_
  intro p e s m below meth c T0 P0 hby hml hret hnm
  refine Done.step (T' := T0) (g' := (mkF m 0 #[.val (.ref a), .val (.int (2 : Int32))] [])) (fun t kk => castTop (ef_coder_2 m a (2 : Int32)) kk) ?_
  refine Done.stepL (pc' := 2) (st' := [(.ref a), (.int (2 : Int32))]) (fun t kk => ?_) ?_
  · show Steps p.tables e below (T0.setTop (mkF m 0 _ [])) t
    refine XS.iloadN P0.here P0.x rfl (hb hby d_coder_2_0) rfl ?_
    show Steps p.tables e below (T0.setTop (mkF m 1 _ [(.int (2 : Int32))])) t
    refine XS.aloadN P0.here P0.x rfl (hb hby d_coder_2_1) rfl rfl ?_
    exact kk
  refine wLen P0 Ab (z := (2 : Int32)) rfl (hb hby d_coder_2_2) rfl ?_
  show Done _ _ _ _ _ _ _ _ _ _ _ _ _ _ _ T0 (mkF m 3 _ [(.int (2 : Int32)), (.int (2 : Int32))])
  refine Done.stepL (pc' := 8) (st' := [(.int ((((2 : Int32) - (2 : Int32)).toUInt32 >>> ((31 : Int32) &&& 31).toUInt32).toInt32).toInt8.toInt32)]) (fun t kk => ?_) ?_
  · show Steps p.tables e below (T0.setTop (mkF m 3 _ [(.int (2 : Int32)), (.int (2 : Int32))])) t
    refine XS.isub P0.here P0.x rfl (hb hby d_coder_2_3) rfl ?_
    show Steps p.tables e below (T0.setTop (mkF m 4 _ [(.int ((2 : Int32) - (2 : Int32)))])) t
    refine XS.bipush P0.here P0.x rfl (hb hby d_coder_2_4) ?_
    show Steps p.tables e below (T0.setTop (mkF m 6 _ [(.int (31 : Int32)), (.int ((2 : Int32) - (2 : Int32)))])) t
    refine XS.iushr P0.here P0.x rfl (hb hby d_coder_2_6) rfl ?_
    show Steps p.tables e below (T0.setTop (mkF m 7 _ [(.int ((((2 : Int32) - (2 : Int32)).toUInt32 >>> ((31 : Int32) &&& 31).toUInt32).toInt32))])) t
    refine XS.i2b P0.here P0.x rfl (hb hby d_coder_2_7) rfl ?_
    exact kk
  exact wRetN P0 (t := .byte) hret (by simp) (hb hby d_coder_2_8) ⟨_, rfl, rfl⟩
theorem ef_str4_2 (m : MethodId) (x0 : Addr) (x1 : Addr) (x2 : Int32) (x3 : Int32) : entryFrame m #[(.ref x0), (.ref x1), (.int x2), (.int x3), .null] 6 = mkF m 0 #[.val (.ref x0), .val (.ref x1), .val (.int x2), .val (.int x3), .val .null, .unset] [] := by first | (simp [entryFrame, mkF, argsToLocals, Value.category]; done) | rfl
theorem d_str4_2_0 : decode jdk_42_method_149_code 0 = .ok (.aload_n 0, 1) := by decide +kernel
theorem d_str4_2_1 : decode jdk_42_method_149_code 1 = .ok (.invokespecial 1, 3) := by decide +kernel
theorem d_str4_2_4 : decode jdk_42_method_149_code 4 = .ok (.iload_n 3, 1) := by decide +kernel
theorem d_str4_2_5 : decode jdk_42_method_149_code 5 = .ok (.ifCond .ne 22, 3) := by decide +kernel
theorem d_str4_2_27 : decode jdk_42_method_149_code 27 = .ok (.getstatic 38, 3) := by decide +kernel
theorem d_str4_2_30 : decode jdk_42_method_149_code 30 = .ok (.ifCond .eq 28, 3) := by decide +kernel
theorem d_str4_2_33 : decode jdk_42_method_149_code 33 = .ok (.aload_n 1, 1) := by decide +kernel
theorem d_str4_2_34 : decode jdk_42_method_149_code 34 = .ok (.iload_n 2, 1) := by decide +kernel
theorem d_str4_2_35 : decode jdk_42_method_149_code 35 = .ok (.iload_n 3, 1) := by decide +kernel
theorem d_str4_2_36 : decode jdk_42_method_149_code 36 = .ok (.invokestatic 177, 3) := by decide +kernel
theorem d_str4_2_39 : decode jdk_42_method_149_code 39 = .ok (.astore 5, 2) := by decide +kernel
theorem d_str4_2_41 : decode jdk_42_method_149_code 41 = .ok (.aload_n 0, 1) := by decide +kernel
theorem d_str4_2_42 : decode jdk_42_method_149_code 42 = .ok (.aload 5, 2) := by decide +kernel
theorem d_str4_2_44 : decode jdk_42_method_149_code 44 = .ok (.iload_n 3, 1) := by decide +kernel
theorem d_str4_2_45 : decode jdk_42_method_149_code 45 = .ok (.invokestatic 47, 3) := by decide +kernel
theorem d_str4_2_48 : decode jdk_42_method_149_code 48 = .ok (.putfield 15, 3) := by decide +kernel
theorem d_str4_2_51 : decode jdk_42_method_149_code 51 = .ok (.aload_n 0, 1) := by decide +kernel
theorem d_str4_2_52 : decode jdk_42_method_149_code 52 = .ok (.aload 5, 2) := by decide +kernel
theorem d_str4_2_54 : decode jdk_42_method_149_code 54 = .ok (.putfield 9, 3) := by decide +kernel
theorem d_str4_2_57 : decode jdk_42_method_149_code 57 = .ok (.return_, 1) := by decide +kernel
set_option maxRecDepth 65536 in
set_option maxHeartbeats 4000000 in
theorem m_str4_2 (l : Launch) (Z : State) (a0 : Array Value) (hw : ∀ d ∈ tables_1, d.before a0 Z = true) (hs : ∀ d ∈ jdkStatics_1, d.before a0 Z = true) (z a : Addr) (f : Nat → Int32) (cs : Int32) (h0 : Heap) (E0 : Exa Z h0 z "java/lang/String") (F1 : Fld Z h0 z "java/lang/String" "value" "[B" .null) (F2 : Fld Z h0 z "java/lang/String" "coder" "B" (.int 0)) (nza : z ≠ a) (Aa : Ar Z h0 a .char 2 (fun i => .int (f i))) (q0 : ¬ ((255 : Int32) < f 0)) (q1 : ¬ ((255 : Int32) < f 1)) (S0 : Sta Z h0 "java/lang/String" "COMPACT_STRINGS" "Z" (.int cs)) (hcs : ¬ (cs = (0 : Int32))) :
    OMet l (⟨"java/lang/String", "<init>", "([CIILjava/lang/Void;)V"⟩ : MethodName) jdk_42_method_149_code 6 (Option.none : Option FieldType) [] ({ frames := 2, cells := 1, slots := 2, locals := 35 } : Room) Z h0 [z] #[(.ref z), (.ref a), (.int (0 : Int32)), (.int (2 : Int32)), .null] (fun v h' => v = none) := by
  refine OMet.of (own := "java/lang/String") (nm := "<init>") pn_3 rfl rfl ?_
  intro p e s m below meth c T0 P0 hby hml hret hnm
  refine Done.step (T' := T0) (g' := (mkF m 0 #[.val (.ref z), .val (.ref a), .val (.int (0 : Int32)), .val (.int (2 : Int32)), .val .null, .unset] [])) (fun t kk => castTop (ef_str4_2 m z a (0 : Int32) (2 : Int32)) kk) ?_
  have lta := Aa.ltN
  have ltz := exaN E0
  refine Done.stepL (pc' := 1) (st' := [(.ref z)]) (fun t kk => ?_) ?_
  · show Steps p.tables e below (T0.setTop (mkF m 0 _ [])) t
    refine XS.aloadN P0.here P0.x rfl (hb hby d_str4_2_0) rfl rfl ?_
    exact kk
  refine wInit P0 (tw11 hw) (tw12 hw) (tw13 hw) (by rw [hml]; rfl) (hb hby d_str4_2_1) (by decide) (W := 0) (Nat.le_of_eq rfl) (by decide) rfl (fun T1 P2 => ?_)
  show Done _ _ _ _ _ _ _ _ _ _ _ _ _ _ _ T1 (mkF m 4 _ [])
  refine Done.stepL (pc' := 27) (st' := []) (fun t kk => ?_) ?_
  · show Steps p.tables e below (T1.setTop (mkF m 4 _ [])) t
    refine XS.iloadN P2.here P2.x rfl (hb hby d_str4_2_4) rfl ?_
    show Steps p.tables e below (T1.setTop (mkF m 5 _ [(.int (2 : Int32))])) t
    refine XS.ifYes P2.here P2.x rfl (pc0 := 5) (pc' := 27) rfl (hb hby d_str4_2_5) rfl (i0W_ne_t (by decide)) (by decide) (by decide) ?_
    exact kk
  refine wGetS P2 (host := "") (Or.inl (tw14 hw)) Via.refl S0 (hb hby d_str4_2_27) rfl (fun T3 P4 => ?_)
  show Done _ _ _ _ _ _ _ _ _ _ _ _ _ _ _ T3 (mkF m 30 _ [(.int cs)])
  refine Done.stepL (pc' := 36) (st' := [(.int (2 : Int32)), (.int (0 : Int32)), (.ref a)]) (fun t kk => ?_) ?_
  · show Steps p.tables e below (T3.setTop (mkF m 30 _ [(.int cs)])) t
    refine XS.ifNo P4.here P4.x rfl (hb hby d_str4_2_30) rfl (i0W_eq_f hcs) ?_
    show Steps p.tables e below (T3.setTop (mkF m 33 _ [])) t
    refine XS.aloadN P4.here P4.x rfl (hb hby d_str4_2_33) rfl rfl ?_
    show Steps p.tables e below (T3.setTop (mkF m 34 _ [(.ref a)])) t
    refine XS.iloadN P4.here P4.x rfl (hb hby d_str4_2_34) rfl ?_
    show Steps p.tables e below (T3.setTop (mkF m 35 _ [(.int (0 : Int32)), (.ref a)])) t
    refine XS.iloadN P4.here P4.x rfl (hb hby d_str4_2_35) rfl ?_
    exact kk
  refine wCallS P4 (m_comp3_2 l Z a0 hw hs a f h0 Aa q0 q1) (tw15 hw) (tw16 hw) (tw17 hw) (tw18 hw) (by decide) (by rw [hml]; rfl) (lenOf pd_1 rfl) (argsL := [(.ref a), (.int (0 : Int32)), (.int (2 : Int32))]) (rest := []) rfl rfl (W := 0) (Nat.le_of_eq rfl) (by decide) (by decide) (by decide) (by decide) (by simp) (hb hby d_str4_2_36) rfl (k' := 1) (n' := 2) rfl rfl ?_
  rintro T5 h11 _ P6 K12 ⟨b7, g8, rfl, ge9, A10⟩
  have szh11 : h0.size ≤ h11.size := K12.1
  show Done _ _ _ _ _ _ _ _ _ _ _ _ _ _ _ T5 (mkF m 39 _ [(.ref b7)])
  refine Done.step (T' := T5) (g' := (mkF m 45 #[.val (.ref z), .val (.ref a), .val (.int (0 : Int32)), .val (.int (2 : Int32)), .val .null, .val (.ref b7)] [(.int (2 : Int32)), (.ref b7), (.ref z)])) (fun t kk => ?_) ?_
  · show Steps p.tables e below (T5.setTop (mkF m 39 _ [(.ref b7)])) t
    refine XS.astore P6.here P6.x rfl (hb hby d_str4_2_39) rfl rfl (l' := #[.val (.ref z), .val (.ref a), .val (.int (0 : Int32)), .val (.int (2 : Int32)), .val .null, .val (.ref b7)]) rfl ?_
    show Steps p.tables e below (T5.setTop (mkF m 41 _ [])) t
    refine XS.aloadN P6.here P6.x rfl (hb hby d_str4_2_41) rfl rfl ?_
    show Steps p.tables e below (T5.setTop (mkF m 42 _ [(.ref z)])) t
    refine XS.aload P6.here P6.x rfl (hb hby d_str4_2_42) rfl rfl ?_
    show Steps p.tables e below (T5.setTop (mkF m 44 _ [(.ref b7), (.ref z)])) t
    refine XS.iloadN P6.here P6.x rfl (hb hby d_str4_2_44) rfl ?_
    exact kk
  refine wCallS P6 (m_coder_2 l Z a0 hw hs b7 g8 h11 A10) (tw23 hw) (tw24 hw) (tw17 hw) (tw25 hw) (by decide) (by rw [hml]; rfl) (lenOf pd_2 rfl) (argsL := [(.ref b7), (.int (2 : Int32))]) (rest := [(.ref z)]) rfl rfl (W := 1) (Nat.le_of_eq rfl) (by decide) (by decide) (by decide) (by decide) (by simp) (hb hby d_str4_2_45) rfl (k' := 1) (n' := 2) rfl rfl ?_
  rintro T13 _ _ P14 - ⟨x15, rfl, rfl⟩
  show Done _ _ _ _ _ _ _ _ _ _ _ _ _ _ _ T13 (mkF m 48 _ [(.int x15), (.ref z)])
  have f16 := (F2.keep K12 nin0)
  have f17 := (E0.keep K12)
  refine wPutN P14 (tw26 hw) Via.refl f16 f17 (Or.inr ⟨(tw27 hw), rfl, hnm⟩) (tw2 hw) (ty := .byte) (by decide) (x' := x15.toInt8.toInt32) rfl (fits_nar_byte _) (Or.inl (by simp)) (hb hby d_str4_2_48) rfl (fun T18 h20 P19 W21 F22 => ?_)
  have szh20 : h20.size = h11.size := W21.size
  show Done _ _ _ _ _ _ _ _ _ _ _ _ _ _ _ T18 (mkF m 51 _ [])
  refine Done.stepL (pc' := 54) (st' := [(.ref b7), (.ref z)]) (fun t kk => ?_) ?_
  · show Steps p.tables e below (T18.setTop (mkF m 51 _ [])) t
    refine XS.aloadN P19.here P19.x rfl (hb hby d_str4_2_51) rfl rfl ?_
    show Steps p.tables e below (T18.setTop (mkF m 52 _ [(.ref z)])) t
    refine XS.aload P19.here P19.x rfl (hb hby d_str4_2_52) rfl rfl ?_
    exact kk
  have f23 := ((F1.keep K12 nin0).other W21 (Or.inr (slot_ne (Or.inr (tw29 hw)) (Or.inr (tw27 hw)) (by decide) (t := (.array .byte)) (t' := .byte) (by decide) (by decide))))
  have f24 := (f17.wr W21)
  refine wPut P19 (host := "") (Or.inl (tw28 hw)) Via.refl f23 f24 (Or.inr ⟨(tw29 hw), rfl, hnm⟩) (tw2 hw) (ty := (.array .byte)) (by decide) rfl rfl (Or.inl (by simp)) (hb hby d_str4_2_54) rfl (fun T25 h27 P26 W28 F29 => ?_)
  have szh27 : h27.size = h20.size := W28.size
  show Done _ _ _ _ _ _ _ _ _ _ _ _ _ _ _ T25 (mkF m 57 _ [])
  exact wRetV P26 hret (hb hby d_str4_2_57) rfl
theorem ef_str1_2 (m : MethodId) (x0 : Addr) (x1 : Addr) : entryFrame m #[(.ref x0), (.ref x1)] 2 = mkF m 0 #[.val (.ref x0), .val (.ref x1)] [] := by first | (simp [entryFrame, mkF, argsToLocals, Value.category]; done) | rfl
theorem d_str1_2_0 : decode jdk_42_method_3_code 0 = .ok (.aload_n 0, 1) := by decide +kernel
theorem d_str1_2_1 : decode jdk_42_method_3_code 1 = .ok (.aload_n 1, 1) := by decide +kernel
theorem d_str1_2_2 : decode jdk_42_method_3_code 2 = .ok (.iconst 0, 1) := by decide +kernel
theorem d_str1_2_3 : decode jdk_42_method_3_code 3 = .ok (.aload_n 1, 1) := by decide +kernel
theorem d_str1_2_4 : decode jdk_42_method_3_code 4 = .ok (.arraylength, 1) := by decide +kernel
theorem d_str1_2_5 : decode jdk_42_method_3_code 5 = .ok (.aconst_null, 1) := by decide +kernel
theorem d_str1_2_6 : decode jdk_42_method_3_code 6 = .ok (.invokespecial 27, 3) := by decide +kernel
theorem d_str1_2_9 : decode jdk_42_method_3_code 9 = .ok (.return_, 1) := by decide +kernel
set_option maxRecDepth 65536 in
set_option maxHeartbeats 4000000 in
theorem m_str1_2 (l : Launch) (Z : State) (a0 : Array Value) (hw : ∀ d ∈ tables_1, d.before a0 Z = true) (hs : ∀ d ∈ jdkStatics_1, d.before a0 Z = true) (z a : Addr) (f : Nat → Int32) (cs : Int32) (h0 : Heap) (E0 : Exa Z h0 z "java/lang/String") (F1 : Fld Z h0 z "java/lang/String" "value" "[B" .null) (F2 : Fld Z h0 z "java/lang/String" "coder" "B" (.int 0)) (nza : z ≠ a) (Aa : Ar Z h0 a .char 2 (fun i => .int (f i))) (q0 : ¬ ((255 : Int32) < f 0)) (q1 : ¬ ((255 : Int32) < f 1)) (S0 : Sta Z h0 "java/lang/String" "COMPACT_STRINGS" "Z" (.int cs)) (hcs : ¬ (cs = (0 : Int32))) :
    OMet l (⟨"java/lang/String", "<init>", "([C)V"⟩ : MethodName) jdk_42_method_3_code 2 (Option.none : Option FieldType) [] ({ frames := 3, cells := 1, slots := 2, locals := 52 } : Room) Z h0 [z] #[(.ref z), (.ref a)] (fun v h' => v = none) := by
  refine OMet.of (own := "java/lang/String") (nm := "<init>") pn_4 rfl rfl ?_
  intro p e s m below meth c T0 P0 hby hml hret hnm
  refine Done.step (T' := T0) (g' := (mkF m 0 #[.val (.ref z), .val (.ref a)] [])) (fun t kk => castTop (ef_str1_2 m z a) kk) ?_
  have lta := Aa.ltN
  have ltz := exaN E0
  refine Done.stepL (pc' := 4) (st' := [(.ref a), (.int (0 : Int32)), (.ref a), (.ref z)]) (fun t kk => ?_) ?_
  · show Steps p.tables e below (T0.setTop (mkF m 0 _ [])) t
    refine XS.aloadN P0.here P0.x rfl (hb hby d_str1_2_0) rfl rfl ?_
    show Steps p.tables e below (T0.setTop (mkF m 1 _ [(.ref z)])) t
    refine XS.aloadN P0.here P0.x rfl (hb hby d_str1_2_1) rfl rfl ?_
    show Steps p.tables e below (T0.setTop (mkF m 2 _ [(.ref a), (.ref z)])) t
    refine XS.iconst P0.here P0.x rfl (hb hby d_str1_2_2) ?_
    show Steps p.tables e below (T0.setTop (mkF m 3 _ [(.int (0 : Int32)), (.ref a), (.ref z)])) t
    refine XS.aloadN P0.here P0.x rfl (hb hby d_str1_2_3) rfl rfl ?_
    exact kk
  refine wLen P0 Aa (z := (2 : Int32)) rfl (hb hby d_str1_2_4) rfl ?_
  show Done _ _ _ _ _ _ _ _ _ _ _ _ _ _ _ T0 (mkF m 5 _ [(.int (2 : Int32)), (.int (0 : Int32)), (.ref a), (.ref z)])
  refine Done.stepL (pc' := 6) (st' := [.null, (.int (2 : Int32)), (.int (0 : Int32)), (.ref a), (.ref z)]) (fun t kk => ?_) ?_
  · show Steps p.tables e below (T0.setTop (mkF m 5 _ [(.int (2 : Int32)), (.int (0 : Int32)), (.ref a), (.ref z)])) t
    refine XS.aconstNull P0.here P0.x rfl (hb hby d_str1_2_5) ?_
    exact kk
  refine wCallI P0 (m_str4_2 l Z a0 hw hs z a f cs h0 E0 F1 F2 (by first | assumption | exact Ne.symm (by assumption) | exact adr_ne (by omega) | omega) Aa q0 q1 S0 hcs) rfl (tw7 hw) (tw8 hw) (tw3 hw) (tw10 hw) (by decide) (a := z) (by rw [hml]; rfl) (lenOf pd_3 rfl) (argsL := [(.ref a), (.int (0 : Int32)), (.int (2 : Int32)), .null]) (rest := []) rfl rfl (W := 0) (Nat.le_of_eq rfl) (by decide) (by decide) (by decide) (by decide) (allS (Or.inl (by simp)) all0) (hb hby d_str1_2_6) rfl (k' := 1) (n' := 2) rfl rfl ?_
  rintro T1 h3 _ P2 K4 rfl
  have szh3 : h0.size ≤ h3.size := K4.1
  show Done _ _ _ _ _ _ _ _ _ _ _ _ _ _ _ T1 (mkF m 9 _ [])
  exact wRetV P2 hret (hb hby d_str1_2_9) rfl
theorem ef_comp5_3 (m : MethodId) (x0 : Addr) (x1 : Int32) (x2 : Addr) (x3 : Int32) (x4 : Int32) : entryFrame m #[(.ref x0), (.int x1), (.ref x2), (.int x3), (.int x4)] 7 = mkF m 0 #[.val (.ref x0), .val (.int x1), .val (.ref x2), .val (.int x3), .val (.int x4), .unset, .unset] [] := by first | (simp [entryFrame, mkF, argsToLocals, Value.category]; done) | rfl
theorem d_comp5_3_0 : decode jdk_52_method_21_code 0 = .ok (.iconst 0, 1) := by decide +kernel
theorem d_comp5_3_1 : decode jdk_52_method_21_code 1 = .ok (.istore 5, 2) := by decide +kernel
theorem d_comp5_3_3 : decode jdk_52_method_21_code 3 = .ok (.iload 5, 2) := by decide +kernel
theorem d_comp5_3_5 : decode jdk_52_method_21_code 5 = .ok (.iload 4, 2) := by decide +kernel
theorem d_comp5_3_7 : decode jdk_52_method_21_code 7 = .ok (.if_icmp .ge 37, 3) := by decide +kernel
theorem d_comp5_3_10 : decode jdk_52_method_21_code 10 = .ok (.aload_n 0, 1) := by decide +kernel
theorem d_comp5_3_11 : decode jdk_52_method_21_code 11 = .ok (.iload_n 1, 1) := by decide +kernel
theorem d_comp5_3_12 : decode jdk_52_method_21_code 12 = .ok (.caload, 1) := by decide +kernel
theorem d_comp5_3_13 : decode jdk_52_method_21_code 13 = .ok (.istore 6, 2) := by decide +kernel
theorem d_comp5_3_15 : decode jdk_52_method_21_code 15 = .ok (.iload 6, 2) := by decide +kernel
theorem d_comp5_3_17 : decode jdk_52_method_21_code 17 = .ok (.sipush 255, 3) := by decide +kernel
theorem d_comp5_3_20 : decode jdk_52_method_21_code 20 = .ok (.if_icmp .le 6, 3) := by decide +kernel
theorem d_comp5_3_26 : decode jdk_52_method_21_code 26 = .ok (.aload_n 2, 1) := by decide +kernel
theorem d_comp5_3_27 : decode jdk_52_method_21_code 27 = .ok (.iload_n 3, 1) := by decide +kernel
theorem d_comp5_3_28 : decode jdk_52_method_21_code 28 = .ok (.iload 6, 2) := by decide +kernel
theorem d_comp5_3_30 : decode jdk_52_method_21_code 30 = .ok (.i2b, 1) := by decide +kernel
theorem d_comp5_3_31 : decode jdk_52_method_21_code 31 = .ok (.bastore, 1) := by decide +kernel
theorem d_comp5_3_32 : decode jdk_52_method_21_code 32 = .ok (.iinc 1 1, 3) := by decide +kernel
theorem d_comp5_3_35 : decode jdk_52_method_21_code 35 = .ok (.iinc 3 1, 3) := by decide +kernel
theorem d_comp5_3_38 : decode jdk_52_method_21_code 38 = .ok (.iinc 5 1, 3) := by decide +kernel
theorem d_comp5_3_41 : decode jdk_52_method_21_code 41 = .ok (.goto (-38), 3) := by decide +kernel
theorem d_comp5_3_44 : decode jdk_52_method_21_code 44 = .ok (.iload 4, 2) := by decide +kernel
theorem d_comp5_3_46 : decode jdk_52_method_21_code 46 = .ok (.ireturn, 1) := by decide +kernel
set_option maxRecDepth 65536 in
set_option maxHeartbeats 4000000 in
theorem m_comp5_3 (l : Launch) (Z : State) (a0 : Array Value) (hw : ∀ d ∈ tables_1, d.before a0 Z = true) (hs : ∀ d ∈ jdkStatics_1, d.before a0 Z = true) (a b : Addr) (f gb : Nat → Int32) (h0 : Heap) (Aa : Ar Z h0 a .char 3 (fun i => .int (f i))) (q0 : ¬ ((255 : Int32) < f 0)) (q1 : ¬ ((255 : Int32) < f 1)) (q2 : ¬ ((255 : Int32) < f 2)) (Ab : Ar Z h0 b .byte 3 (fun i => .int (gb i))) (nab : a ≠ b) :
    OMet l (⟨"java/lang/StringUTF16", "compress", "([CI[BII)I"⟩ : MethodName) jdk_52_method_21_code 7 (Option.some FieldType.int) [] ({ frames := 0, cells := 0, slots := 0, locals := 0 } : Room) Z h0 [b] #[(.ref a), (.int (0 : Int32)), (.ref b), (.int (0 : Int32)), (.int (3 : Int32))] (fun v h' => v = some (.int 3) ∧ ∃ g' : Nat → Int32, Ar Z h' b .byte 3 (fun i => .int (g' i))) := by
  refine OMet.of (own := "java/lang/StringUTF16") (nm := "compress") pn_0 rfl rfl ?_
  intro p e s m below meth c T0 P0 hby hml hret hnm
  refine Done.step (T' := T0) (g' := (mkF m 0 #[.val (.ref a), .val (.int (0 : Int32)), .val (.ref b), .val (.int (0 : Int32)), .val (.int (3 : Int32)), .unset, .unset] [])) (fun t kk => castTop (ef_comp5_3 m a (0 : Int32) b (0 : Int32) (3 : Int32)) kk) ?_
  refine Done.step (T' := T0) (g' := (mkF m 12 #[.val (.ref a), .val (.int (0 : Int32)), .val (.ref b), .val (.int (0 : Int32)), .val (.int (3 : Int32)), .val (.int (0 : Int32)), .unset] [(.int (0 : Int32)), (.ref a)])) (fun t kk => ?_) ?_
  · show Steps p.tables e below (T0.setTop (mkF m 0 _ [])) t
    refine XS.iconst P0.here P0.x rfl (hb hby d_comp5_3_0) ?_
    show Steps p.tables e below (T0.setTop (mkF m 1 _ [(.int (0 : Int32))])) t
    refine XS.istore P0.here P0.x rfl (hb hby d_comp5_3_1) rfl (l' := #[.val (.ref a), .val (.int (0 : Int32)), .val (.ref b), .val (.int (0 : Int32)), .val (.int (3 : Int32)), .val (.int (0 : Int32)), .unset]) rfl ?_
    show Steps p.tables e below (T0.setTop (mkF m 3 _ [])) t
    refine XS.iload P0.here P0.x rfl (hb hby d_comp5_3_3) rfl ?_
    show Steps p.tables e below (T0.setTop (mkF m 5 _ [(.int (0 : Int32))])) t
    refine XS.iload P0.here P0.x rfl (hb hby d_comp5_3_5) rfl ?_
    show Steps p.tables e below (T0.setTop (mkF m 7 _ [(.int (3 : Int32)), (.int (0 : Int32))])) t
    refine XS.icmpNo P0.here P0.x rfl (hb hby d_comp5_3_7) rfl (iiW_ge_f (by decide)) ?_
    show Steps p.tables e below (T0.setTop (mkF m 10 _ [])) t
    refine XS.aloadN P0.here P0.x rfl (hb hby d_comp5_3_10) rfl rfl ?_
    show Steps p.tables e below (T0.setTop (mkF m 11 _ [(.ref a)])) t
    refine XS.iloadN P0.here P0.x rfl (hb hby d_comp5_3_11) rfl ?_
    exact kk
  refine wCaload P0 Aa (j := (0 : Int32)) (i := 0) rfl (by decide) (v := (.int (f 0))) rfl (hb hby d_comp5_3_12) rfl ?_
  show Done _ _ _ _ _ _ _ _ _ _ _ _ _ _ _ T0 (mkF m 13 _ [(.int (f 0))])
  refine Done.step (T' := T0) (g' := (mkF m 31 #[.val (.ref a), .val (.int (0 : Int32)), .val (.ref b), .val (.int (0 : Int32)), .val (.int (3 : Int32)), .val (.int (0 : Int32)), .val (.int (f 0))] [(.int (f 0).toInt8.toInt32), (.int (0 : Int32)), (.ref b)])) (fun t kk => ?_) ?_
  · show Steps p.tables e below (T0.setTop (mkF m 13 _ [(.int (f 0))])) t
    refine XS.istore P0.here P0.x rfl (hb hby d_comp5_3_13) rfl (l' := #[.val (.ref a), .val (.int (0 : Int32)), .val (.ref b), .val (.int (0 : Int32)), .val (.int (3 : Int32)), .val (.int (0 : Int32)), .val (.int (f 0))]) rfl ?_
    show Steps p.tables e below (T0.setTop (mkF m 15 _ [])) t
    refine XS.iload P0.here P0.x rfl (hb hby d_comp5_3_15) rfl ?_
    show Steps p.tables e below (T0.setTop (mkF m 17 _ [(.int (f 0))])) t
    refine XS.sipush P0.here P0.x rfl (hb hby d_comp5_3_17) ?_
    show Steps p.tables e below (T0.setTop (mkF m 20 _ [(.int (255 : Int32)), (.int (f 0))])) t
    refine XS.icmpYes P0.here P0.x rfl (pc0 := 20) (pc' := 26) rfl (hb hby d_comp5_3_20) rfl (iiW_le_t q0) (by decide) (by decide) ?_
    show Steps p.tables e below (T0.setTop (mkF m 26 _ [])) t
    refine XS.aloadN P0.here P0.x rfl (hb hby d_comp5_3_26) rfl rfl ?_
    show Steps p.tables e below (T0.setTop (mkF m 27 _ [(.ref b)])) t
    refine XS.iloadN P0.here P0.x rfl (hb hby d_comp5_3_27) rfl ?_
    show Steps p.tables e below (T0.setTop (mkF m 28 _ [(.int (0 : Int32)), (.ref b)])) t
    refine XS.iload P0.here P0.x rfl (hb hby d_comp5_3_28) rfl ?_
    show Steps p.tables e below (T0.setTop (mkF m 30 _ [(.int (f 0)), (.int (0 : Int32)), (.ref b)])) t
    refine XS.i2b P0.here P0.x rfl (hb hby d_comp5_3_30) rfl ?_
    exact kk
  refine wBastore P0 (f := gb) Ab (j := (0 : Int32)) (i := 0) rfl (by decide) (Or.inl (by simp)) (hb hby d_comp5_3_31) rfl (fun T1 h3 P2 W4 A5 => ?_)
  have szh3 : h3.size = h0.size := W4.size
  show Done _ _ _ _ _ _ _ _ _ _ _ _ _ _ _ T1 (mkF m 32 _ [])
  refine Done.step (T' := T1) (g' := (mkF m 3 #[.val (.ref a), .val (.int ((0 : Int32) + (1 : Int32))), .val (.ref b), .val (.int ((0 : Int32) + (1 : Int32))), .val (.int (3 : Int32)), .val (.int ((0 : Int32) + (1 : Int32))), .val (.int (f 0))] [])) (fun t kk => ?_) ?_
  · show Steps p.tables e below (T1.setTop (mkF m 32 _ [])) t
    refine XS.iinc P2.here P2.x rfl (hb hby d_comp5_3_32) rfl (l' := #[.val (.ref a), .val (.int ((0 : Int32) + (1 : Int32))), .val (.ref b), .val (.int (0 : Int32)), .val (.int (3 : Int32)), .val (.int (0 : Int32)), .val (.int (f 0))]) rfl ?_
    show Steps p.tables e below (T1.setTop (mkF m 35 _ [])) t
    refine XS.iinc P2.here P2.x rfl (hb hby d_comp5_3_35) rfl (l' := #[.val (.ref a), .val (.int ((0 : Int32) + (1 : Int32))), .val (.ref b), .val (.int ((0 : Int32) + (1 : Int32))), .val (.int (3 : Int32)), .val (.int (0 : Int32)), .val (.int (f 0))]) rfl ?_
    show Steps p.tables e below (T1.setTop (mkF m 38 _ [])) t
    refine XS.iinc P2.here P2.x rfl (hb hby d_comp5_3_38) rfl (l' := #[.val (.ref a), .val (.int ((0 : Int32) + (1 : Int32))), .val (.ref b), .val (.int ((0 : Int32) + (1 : Int32))), .val (.int (3 : Int32)), .val (.int ((0 : Int32) + (1 : Int32))), .val (.int (f 0))]) rfl ?_
    show Steps p.tables e below (T1.setTop (mkF m 41 _ [])) t
    refine XS.goto P2.here P2.x rfl (pc0 := 41) (pc' := 3) rfl (hb hby d_comp5_3_41) (by decide) (by decide) ?_
    exact kk
  show Done _ _ _ _ _ _ _ _ _ _ _ _ _ _ _ T1 (mkF m 3 #[.val (.ref a), .val (.int (1 : Int32)), .val (.ref b), .val (.int ((0 : Int32) + (1 : Int32))), .val (.int (3 : Int32)), .val (.int ((0 : Int32) + (1 : Int32))), .val (.int (f 0))] [])
  show Done _ _ _ _ _ _ _ _ _ _ _ _ _ _ _ T1 (mkF m 3 #[.val (.ref a), .val (.int (1 : Int32)), .val (.ref b), .val (.int (1 : Int32)), .val (.int (3 : Int32)), .val (.int ((0 : Int32) + (1 : Int32))), .val (.int (f 0))] [])
  show Done _ _ _ _ _ _ _ _ _ _ _ _ _ _ _ T1 (mkF m 3 #[.val (.ref a), .val (.int (1 : Int32)), .val (.ref b), .val (.int (1 : Int32)), .val (.int (3 : Int32)), .val (.int (1 : Int32)), .val (.int (f 0))] [])
  refine Done.stepL (pc' := 12) (st' := [(.int (1 : Int32)), (.ref a)]) (fun t kk => ?_) ?_
  · show Steps p.tables e below (T1.setTop (mkF m 3 _ [])) t
    refine XS.iload P2.here P2.x rfl (hb hby d_comp5_3_3) rfl ?_
    show Steps p.tables e below (T1.setTop (mkF m 5 _ [(.int (1 : Int32))])) t
    refine XS.iload P2.here P2.x rfl (hb hby d_comp5_3_5) rfl ?_
    show Steps p.tables e below (T1.setTop (mkF m 7 _ [(.int (3 : Int32)), (.int (1 : Int32))])) t
    refine XS.icmpNo P2.here P2.x rfl (hb hby d_comp5_3_7) rfl (iiW_ge_f (by decide)) ?_
    show Steps p.tables e below (T1.setTop (mkF m 10 _ [])) t
    refine XS.aloadN P2.here P2.x rfl (hb hby d_comp5_3_10) rfl rfl ?_
    show Steps p.tables e below (T1.setTop (mkF m 11 _ [(.ref a)])) t
    refine XS.iloadN P2.here P2.x rfl (hb hby d_comp5_3_11) rfl ?_
    exact kk
  have f6 := (Aa.other W4 (by first | assumption | exact Ne.symm (by assumption) | exact adr_ne (by omega) | omega))
  refine wCaload P2 f6 (j := (1 : Int32)) (i := 1) rfl (by decide) (v := (.int (f 1))) rfl (hb hby d_comp5_3_12) rfl ?_
  show Done _ _ _ _ _ _ _ _ _ _ _ _ _ _ _ T1 (mkF m 13 _ [(.int (f 1))])
  refine Done.step (T' := T1) (g' := (mkF m 31 #[.val (.ref a), .val (.int (1 : Int32)), .val (.ref b), .val (.int (1 : Int32)), .val (.int (3 : Int32)), .val (.int (1 : Int32)), .val (.int (f 1))] [(.int (f 1).toInt8.toInt32), (.int (1 : Int32)), (.ref b)])) (fun t kk => ?_) ?_
  · show Steps p.tables e below (T1.setTop (mkF m 13 _ [(.int (f 1))])) t
    refine XS.istore P2.here P2.x rfl (hb hby d_comp5_3_13) rfl (l' := #[.val (.ref a), .val (.int (1 : Int32)), .val (.ref b), .val (.int (1 : Int32)), .val (.int (3 : Int32)), .val (.int (1 : Int32)), .val (.int (f 1))]) rfl ?_
    show Steps p.tables e below (T1.setTop (mkF m 15 _ [])) t
    refine XS.iload P2.here P2.x rfl (hb hby d_comp5_3_15) rfl ?_
    show Steps p.tables e below (T1.setTop (mkF m 17 _ [(.int (f 1))])) t
    refine XS.sipush P2.here P2.x rfl (hb hby d_comp5_3_17) ?_
    show Steps p.tables e below (T1.setTop (mkF m 20 _ [(.int (255 : Int32)), (.int (f 1))])) t
    refine XS.icmpYes P2.here P2.x rfl (pc0 := 20) (pc' := 26) rfl (hb hby d_comp5_3_20) rfl (iiW_le_t q1) (by decide) (by decide) ?_
    show Steps p.tables e below (T1.setTop (mkF m 26 _ [])) t
    refine XS.aloadN P2.here P2.x rfl (hb hby d_comp5_3_26) rfl rfl ?_
    show Steps p.tables e below (T1.setTop (mkF m 27 _ [(.ref b)])) t
    refine XS.iloadN P2.here P2.x rfl (hb hby d_comp5_3_27) rfl ?_
    show Steps p.tables e below (T1.setTop (mkF m 28 _ [(.int (1 : Int32)), (.ref b)])) t
    refine XS.iload P2.here P2.x rfl (hb hby d_comp5_3_28) rfl ?_
    show Steps p.tables e below (T1.setTop (mkF m 30 _ [(.int (f 1)), (.int (1 : Int32)), (.ref b)])) t
    refine XS.i2b P2.here P2.x rfl (hb hby d_comp5_3_30) rfl ?_
    exact kk
  refine wBastore P2 (f := (oupd gb 0 (nar .byte (f 0).toInt8.toInt32))) A5 (j := (1 : Int32)) (i := 1) rfl (by decide) (Or.inl (by simp)) (hb hby d_comp5_3_31) rfl (fun T7 h9 P8 W10 A11 => ?_)
  have szh9 : h9.size = h3.size := W10.size
  show Done _ _ _ _ _ _ _ _ _ _ _ _ _ _ _ T7 (mkF m 32 _ [])
  refine Done.step (T' := T7) (g' := (mkF m 3 #[.val (.ref a), .val (.int ((1 : Int32) + (1 : Int32))), .val (.ref b), .val (.int ((1 : Int32) + (1 : Int32))), .val (.int (3 : Int32)), .val (.int ((1 : Int32) + (1 : Int32))), .val (.int (f 1))] [])) (fun t kk => ?_) ?_
  · show Steps p.tables e below (T7.setTop (mkF m 32 _ [])) t
    refine XS.iinc P8.here P8.x rfl (hb hby d_comp5_3_32) rfl (l' := #[.val (.ref a), .val (.int ((1 : Int32) + (1 : Int32))), .val (.ref b), .val (.int (1 : Int32)), .val (.int (3 : Int32)), .val (.int (1 : Int32)), .val (.int (f 1))]) rfl ?_
    show Steps p.tables e below (T7.setTop (mkF m 35 _ [])) t
    refine XS.iinc P8.here P8.x rfl (hb hby d_comp5_3_35) rfl (l' := #[.val (.ref a), .val (.int ((1 : Int32) + (1 : Int32))), .val (.ref b), .val (.int ((1 : Int32) + (1 : Int32))), .val (.int (3 : Int32)), .val (.int (1 : Int32)), .val (.int (f 1))]) rfl ?_
    show Steps p.tables e below (T7.setTop (mkF m 38 _ [])) t
    refine XS.iinc P8.here P8.x rfl (hb hby d_comp5_3_38) rfl (l' := #[.val (.ref a), .val (.int ((1 : Int32) + (1 : Int32))), .val (.ref b), .val (.int ((1 : Int32) + (1 : Int32))), .val (.int (3 : Int32)), .val (.int ((1 : Int32) + (1 : Int32))), .val (.int (f 1))]) rfl ?_
    show Steps p.tables e below (T7.setTop (mkF m 41 _ [])) t
    refine XS.goto P8.here P8.x rfl (pc0 := 41) (pc' := 3) rfl (hb hby d_comp5_3_41) (by decide) (by decide) ?_
    exact kk
  show Done _ _ _ _ _ _ _ _ _ _ _ _ _ _ _ T7 (mkF m 3 #[.val (.ref a), .val (.int (2 : Int32)), .val (.ref b), .val (.int ((1 : Int32) + (1 : Int32))), .val (.int (3 : Int32)), .val (.int ((1 : Int32) + (1 : Int32))), .val (.int (f 1))] [])
  show Done _ _ _ _ _ _ _ _ _ _ _ _ _ _ _ T7 (mkF m 3 #[.val (.ref a), .val (.int (2 : Int32)), .val (.ref b), .val (.int (2 : Int32)), .val (.int (3 : Int32)), .val (.int ((1 : Int32) + (1 : Int32))), .val (.int (f 1))] [])
  show Done _ _ _ _ _ _ _ _ _ _ _ _ _ _ _ T7 (mkF m 3 #[.val (.ref a), .val (.int (2 : Int32)), .val (.ref b), .val (.int (2 : Int32)), .val (.int (3 : Int32)), .val (.int (2 : Int32)), .val (.int (f 1))] [])
  refine Done.stepL (pc' := 12) (st' := [(.int (2 : Int32)), (.ref a)]) (fun t kk => ?_) ?_
  · show Steps p.tables e below (T7.setTop (mkF m 3 _ [])) t
    refine XS.iload P8.here P8.x rfl (hb hby d_comp5_3_3) rfl ?_
    show Steps p.tables e below (T7.setTop (mkF m 5 _ [(.int (2 : Int32))])) t
    refine XS.iload P8.here P8.x rfl (hb hby d_comp5_3_5) rfl ?_
    show Steps p.tables e below (T7.setTop (mkF m 7 _ [(.int (3 : Int32)), (.int (2 : Int32))])) t
    refine XS.icmpNo P8.here P8.x rfl (hb hby d_comp5_3_7) rfl (iiW_ge_f (by decide)) ?_
    show Steps p.tables e below (T7.setTop (mkF m 10 _ [])) t
    refine XS.aloadN P8.here P8.x rfl (hb hby d_comp5_3_10) rfl rfl ?_
    show Steps p.tables e below (T7.setTop (mkF m 11 _ [(.ref a)])) t
    refine XS.iloadN P8.here P8.x rfl (hb hby d_comp5_3_11) rfl ?_
    exact kk
  have f12 := (f6.other W10 (by first | assumption | exact Ne.symm (by assumption) | exact adr_ne (by omega) | omega))
  refine wCaload P8 f12 (j := (2 : Int32)) (i := 2) rfl (by decide) (v := (.int (f 2))) rfl (hb hby d_comp5_3_12) rfl ?_
  show Done _ _ _ _ _ _ _ _ _ _ _ _ _ _ _ T7 (mkF m 13 _ [(.int (f 2))])
  refine Done.step (T' := T7) (g' := (mkF m 31 #[.val (.ref a), .val (.int (2 : Int32)), .val (.ref b), .val (.int (2 : Int32)), .val (.int (3 : Int32)), .val (.int (2 : Int32)), .val (.int (f 2))] [(.int (f 2).toInt8.toInt32), (.int (2 : Int32)), (.ref b)])) (fun t kk => ?_) ?_
  · show Steps p.tables e below (T7.setTop (mkF m 13 _ [(.int (f 2))])) t
    refine XS.istore P8.here P8.x rfl (hb hby d_comp5_3_13) rfl (l' := #[.val (.ref a), .val (.int (2 : Int32)), .val (.ref b), .val (.int (2 : Int32)), .val (.int (3 : Int32)), .val (.int (2 : Int32)), .val (.int (f 2))]) rfl ?_
    show Steps p.tables e below (T7.setTop (mkF m 15 _ [])) t
    refine XS.iload P8.here P8.x rfl (hb hby d_comp5_3_15) rfl ?_
    show Steps p.tables e below (T7.setTop (mkF m 17 _ [(.int (f 2))])) t
    refine XS.sipush P8.here P8.x rfl (hb hby d_comp5_3_17) ?_
    show Steps p.tables e below (T7.setTop (mkF m 20 _ [(.int (255 : Int32)), (.int (f 2))])) t
    refine XS.icmpYes P8.here P8.x rfl (pc0 := 20) (pc' := 26) rfl (hb hby d_comp5_3_20) rfl (iiW_le_t q2) (by decide) (by decide) ?_
    show Steps p.tables e below (T7.setTop (mkF m 26 _ [])) t
    refine XS.aloadN P8.here P8.x rfl (hb hby d_comp5_3_26) rfl rfl ?_
    show Steps p.tables e below (T7.setTop (mkF m 27 _ [(.ref b)])) t
    refine XS.iloadN P8.here P8.x rfl (hb hby d_comp5_3_27) rfl ?_
    show Steps p.tables e below (T7.setTop (mkF m 28 _ [(.int (2 : Int32)), (.ref b)])) t
    refine XS.iload P8.here P8.x rfl (hb hby d_comp5_3_28) rfl ?_
    show Steps p.tables e below (T7.setTop (mkF m 30 _ [(.int (f 2)), (.int (2 : Int32)), (.ref b)])) t
    refine XS.i2b P8.here P8.x rfl (hb hby d_comp5_3_30) rfl ?_
    exact kk
  refine wBastore P8 (f := (oupd (oupd gb 0 (nar .byte (f 0).toInt8.toInt32)) 1 (nar .byte (f 1).toInt8.toInt32))) A11 (j := (2 : Int32)) (i := 2) rfl (by decide) (Or.inl (by simp)) (hb hby d_comp5_3_31) rfl (fun T13 h15 P14 W16 A17 => ?_)
  have szh15 : h15.size = h9.size := W16.size
  show Done _ _ _ _ _ _ _ _ _ _ _ _ _ _ _ T13 (mkF m 32 _ [])
  refine Done.step (T' := T13) (g' := (mkF m 3 #[.val (.ref a), .val (.int ((2 : Int32) + (1 : Int32))), .val (.ref b), .val (.int ((2 : Int32) + (1 : Int32))), .val (.int (3 : Int32)), .val (.int ((2 : Int32) + (1 : Int32))), .val (.int (f 2))] [])) (fun t kk => ?_) ?_
  · show Steps p.tables e below (T13.setTop (mkF m 32 _ [])) t
    refine XS.iinc P14.here P14.x rfl (hb hby d_comp5_3_32) rfl (l' := #[.val (.ref a), .val (.int ((2 : Int32) + (1 : Int32))), .val (.ref b), .val (.int (2 : Int32)), .val (.int (3 : Int32)), .val (.int (2 : Int32)), .val (.int (f 2))]) rfl ?_
    show Steps p.tables e below (T13.setTop (mkF m 35 _ [])) t
    refine XS.iinc P14.here P14.x rfl (hb hby d_comp5_3_35) rfl (l' := #[.val (.ref a), .val (.int ((2 : Int32) + (1 : Int32))), .val (.ref b), .val (.int ((2 : Int32) + (1 : Int32))), .val (.int (3 : Int32)), .val (.int (2 : Int32)), .val (.int (f 2))]) rfl ?_
    show Steps p.tables e below (T13.setTop (mkF m 38 _ [])) t
    refine XS.iinc P14.here P14.x rfl (hb hby d_comp5_3_38) rfl (l' := #[.val (.ref a), .val (.int ((2 : Int32) + (1 : Int32))), .val (.ref b), .val (.int ((2 : Int32) + (1 : Int32))), .val (.int (3 : Int32)), .val (.int ((2 : Int32) + (1 : Int32))), .val (.int (f 2))]) rfl ?_
    show Steps p.tables e below (T13.setTop (mkF m 41 _ [])) t
    refine XS.goto P14.here P14.x rfl (pc0 := 41) (pc' := 3) rfl (hb hby d_comp5_3_41) (by decide) (by decide) ?_
    exact kk
  show Done _ _ _ _ _ _ _ _ _ _ _ _ _ _ _ T13 (mkF m 3 #[.val (.ref a), .val (.int (3 : Int32)), .val (.ref b), .val (.int ((2 : Int32) + (1 : Int32))), .val (.int (3 : Int32)), .val (.int ((2 : Int32) + (1 : Int32))), .val (.int (f 2))] [])
  show Done _ _ _ _ _ _ _ _ _ _ _ _ _ _ _ T13 (mkF m 3 #[.val (.ref a), .val (.int (3 : Int32)), .val (.ref b), .val (.int (3 : Int32)), .val (.int (3 : Int32)), .val (.int ((2 : Int32) + (1 : Int32))), .val (.int (f 2))] [])
  show Done _ _ _ _ _ _ _ _ _ _ _ _ _ _ _ T13 (mkF m 3 #[.val (.ref a), .val (.int (3 : Int32)), .val (.ref b), .val (.int (3 : Int32)), .val (.int (3 : Int32)), .val (.int (3 : Int32)), .val (.int (f 2))] [])
  refine Done.stepL (pc' := 46) (st' := [(.int (3 : Int32))]) (fun t kk => ?_) ?_
  · show Steps p.tables e below (T13.setTop (mkF m 3 _ [])) t
    refine XS.iload P14.here P14.x rfl (hb hby d_comp5_3_3) rfl ?_
    show Steps p.tables e below (T13.setTop (mkF m 5 _ [(.int (3 : Int32))])) t
    refine XS.iload P14.here P14.x rfl (hb hby d_comp5_3_5) rfl ?_
    show Steps p.tables e below (T13.setTop (mkF m 7 _ [(.int (3 : Int32)), (.int (3 : Int32))])) t
    refine XS.icmpYes P14.here P14.x rfl (pc0 := 7) (pc' := 44) rfl (hb hby d_comp5_3_7) rfl (iiW_ge_t (by decide)) (by decide) (by decide) ?_
    show Steps p.tables e below (T13.setTop (mkF m 44 _ [])) t
    refine XS.iload P14.here P14.x rfl (hb hby d_comp5_3_44) rfl ?_
    exact kk
  exact wRetI P14 hret (hb hby d_comp5_3_46) ⟨rfl, _, A17⟩
theorem ef_comp3_3 (m : MethodId) (x0 : Addr) (x1 : Int32) (x2 : Int32) : entryFrame m #[(.ref x0), (.int x1), (.int x2)] 6 = mkF m 0 #[.val (.ref x0), .val (.int x1), .val (.int x2), .unset, .unset, .unset] [] := by first | (simp [entryFrame, mkF, argsToLocals, Value.category]; done) | rfl
theorem d_comp3_3_0 : decode jdk_52_method_16_code 0 = .ok (.iload_n 2, 1) := by decide +kernel
theorem d_comp3_3_1 : decode jdk_52_method_16_code 1 = .ok (.newarray .byte, 2) := by decide +kernel
theorem d_comp3_3_3 : decode jdk_52_method_16_code 3 = .ok (.astore_n 3, 1) := by decide +kernel
theorem d_comp3_3_4 : decode jdk_52_method_16_code 4 = .ok (.aload_n 0, 1) := by decide +kernel
theorem d_comp3_3_5 : decode jdk_52_method_16_code 5 = .ok (.iload_n 1, 1) := by decide +kernel
theorem d_comp3_3_6 : decode jdk_52_method_16_code 6 = .ok (.aload_n 3, 1) := by decide +kernel
theorem d_comp3_3_7 : decode jdk_52_method_16_code 7 = .ok (.iconst 0, 1) := by decide +kernel
theorem d_comp3_3_8 : decode jdk_52_method_16_code 8 = .ok (.iload_n 2, 1) := by decide +kernel
theorem d_comp3_3_9 : decode jdk_52_method_16_code 9 = .ok (.invokestatic 115, 3) := by decide +kernel
theorem d_comp3_3_12 : decode jdk_52_method_16_code 12 = .ok (.istore 4, 2) := by decide +kernel
theorem d_comp3_3_14 : decode jdk_52_method_16_code 14 = .ok (.iload 4, 2) := by decide +kernel
theorem d_comp3_3_16 : decode jdk_52_method_16_code 16 = .ok (.iload_n 2, 1) := by decide +kernel
theorem d_comp3_3_17 : decode jdk_52_method_16_code 17 = .ok (.if_icmp .eq 40, 3) := by decide +kernel
theorem d_comp3_3_57 : decode jdk_52_method_16_code 57 = .ok (.aload_n 3, 1) := by decide +kernel
theorem d_comp3_3_58 : decode jdk_52_method_16_code 58 = .ok (.areturn, 1) := by decide +kernel
set_option maxRecDepth 65536 in
set_option maxHeartbeats 4000000 in
theorem m_comp3_3 (l : Launch) (Z : State) (a0 : Array Value) (hw : ∀ d ∈ tables_1, d.before a0 Z = true) (hs : ∀ d ∈ jdkStatics_1, d.before a0 Z = true) (a : Addr) (f : Nat → Int32) (h0 : Heap) (Aa : Ar Z h0 a .char 3 (fun i => .int (f i))) (q0 : ¬ ((255 : Int32) < f 0)) (q1 : ¬ ((255 : Int32) < f 1)) (q2 : ¬ ((255 : Int32) < f 2)) :
    OMet l (⟨"java/lang/StringUTF16", "compress", "([CII)[B"⟩ : MethodName) jdk_52_method_16_code 6 (Option.some (FieldType.array FieldType.byte)) [] ({ frames := 1, cells := 1, slots := 3, locals := 18 } : Room) Z h0 [] #[(.ref a), (.int (0 : Int32)), (.int (3 : Int32))] (fun v h' => ∃ (b : Addr) (g' : Nat → Int32), v = some (.ref b) ∧ h0.size ≤ b ∧ Ar Z h' b .byte 3 (fun i => .int (g' i))) := by
  refine OMet.of (own := "java/lang/StringUTF16") (nm := "compress") pn_1 rfl rfl ?_
  intro p e s m below meth c T0 P0 hby hml hret hnm
  refine Done.step (T' := T0) (g' := (mkF m 0 #[.val (.ref a), .val (.int (0 : Int32)), .val (.int (3 : Int32)), .unset, .unset, .unset] [])) (fun t kk => castTop (ef_comp3_3 m a (0 : Int32) (3 : Int32)) kk) ?_
  have lta := Aa.ltN
  refine Done.stepL (pc' := 1) (st' := [(.int (3 : Int32))]) (fun t kk => ?_) ?_
  · show Steps p.tables e below (T0.setTop (mkF m 0 _ [])) t
    refine XS.iloadN P0.here P0.x rfl (hb hby d_comp3_3_0) rfl ?_
    exact kk
  refine wNewA (aty := .byte) P0 (tw19 hw) (hb hby d_comp3_3_1) rfl (N := 3) rfl (cap := 3) (Nat.le_refl _) (by decide) (by decide) (by decide) (ad := "[B") (by decide) (ty := .byte) (dv := (.int (0 : Int32))) rfl rfl (k' := 1) (n' := 3) rfl rfl (fun T1 h3 b4 g5 lt6 P2 E7 A8 X9 => ?_)
  have ge_b4 : h0.size ≤ b4 := by have := P0.ge; omega
  show Done _ _ _ _ _ _ _ _ _ _ _ _ _ _ _ T1 (mkF m 3 _ [(.ref b4)])
  refine Done.step (T' := T1) (g' := (mkF m 9 #[.val (.ref a), .val (.int (0 : Int32)), .val (.int (3 : Int32)), .val (.ref b4), .unset, .unset] [(.int (3 : Int32)), (.int (0 : Int32)), (.ref b4), (.int (0 : Int32)), (.ref a)])) (fun t kk => ?_) ?_
  · show Steps p.tables e below (T1.setTop (mkF m 3 _ [(.ref b4)])) t
    refine XS.astoreN P2.here P2.x rfl (hb hby d_comp3_3_3) rfl rfl (l' := #[.val (.ref a), .val (.int (0 : Int32)), .val (.int (3 : Int32)), .val (.ref b4), .unset, .unset]) rfl ?_
    show Steps p.tables e below (T1.setTop (mkF m 4 _ [])) t
    refine XS.aloadN P2.here P2.x rfl (hb hby d_comp3_3_4) rfl rfl ?_
    show Steps p.tables e below (T1.setTop (mkF m 5 _ [(.ref a)])) t
    refine XS.iloadN P2.here P2.x rfl (hb hby d_comp3_3_5) rfl ?_
    show Steps p.tables e below (T1.setTop (mkF m 6 _ [(.int (0 : Int32)), (.ref a)])) t
    refine XS.aloadN P2.here P2.x rfl (hb hby d_comp3_3_6) rfl rfl ?_
    show Steps p.tables e below (T1.setTop (mkF m 7 _ [(.ref b4), (.int (0 : Int32)), (.ref a)])) t
    refine XS.iconst P2.here P2.x rfl (hb hby d_comp3_3_7) ?_
    show Steps p.tables e below (T1.setTop (mkF m 8 _ [(.int (0 : Int32)), (.ref b4), (.int (0 : Int32)), (.ref a)])) t
    refine XS.iloadN P2.here P2.x rfl (hb hby d_comp3_3_8) rfl ?_
    exact kk
  have f14 := (Aa.ext E7)
  refine wCallS P2 (m_comp5_3 l Z a0 hw hs a b4 f (fun _ => (0 : Int32)) h3 f14 q0 q1 q2 A8 (by first | assumption | exact Ne.symm (by assumption) | exact adr_ne (by omega) | omega)) (tw20 hw) (tw21 hw) (tw17 hw) (tw22 hw) (by decide) (by rw [hml]; rfl) (lenOf pd_0 rfl) (argsL := [(.ref a), (.int (0 : Int32)), (.ref b4), (.int (0 : Int32)), (.int (3 : Int32))]) (rest := []) rfl rfl (W := 0) (Nat.le_of_eq rfl) (by decide) (by decide) (by decide) (by decide) (allS (Or.inr ge_b4) all0) (hb hby d_comp3_3_9) rfl (k' := 1) (n' := 3) rfl rfl ?_
  rintro T10 h15 _ P11 K16 ⟨rfl, g13, A12⟩
  have szh15 : h3.size ≤ h15.size := K16.1
  show Done _ _ _ _ _ _ _ _ _ _ _ _ _ _ _ T10 (mkF m 12 _ [(.int (3 : Int32))])
  refine Done.step (T' := T10) (g' := (mkF m 58 #[.val (.ref a), .val (.int (0 : Int32)), .val (.int (3 : Int32)), .val (.ref b4), .val (.int (3 : Int32)), .unset] [(.ref b4)])) (fun t kk => ?_) ?_
  · show Steps p.tables e below (T10.setTop (mkF m 12 _ [(.int (3 : Int32))])) t
    refine XS.istore P11.here P11.x rfl (hb hby d_comp3_3_12) rfl (l' := #[.val (.ref a), .val (.int (0 : Int32)), .val (.int (3 : Int32)), .val (.ref b4), .val (.int (3 : Int32)), .unset]) rfl ?_
    show Steps p.tables e below (T10.setTop (mkF m 14 _ [])) t
    refine XS.iload P11.here P11.x rfl (hb hby d_comp3_3_14) rfl ?_
    show Steps p.tables e below (T10.setTop (mkF m 16 _ [(.int (3 : Int32))])) t
    refine XS.iloadN P11.here P11.x rfl (hb hby d_comp3_3_16) rfl ?_
    show Steps p.tables e below (T10.setTop (mkF m 17 _ [(.int (3 : Int32)), (.int (3 : Int32))])) t
    refine XS.icmpYes P11.here P11.x rfl (pc0 := 17) (pc' := 57) rfl (hb hby d_comp3_3_17) rfl (iiW_eq_t (by decide)) (by decide) (by decide) ?_
    show Steps p.tables e below (T10.setTop (mkF m 57 _ [])) t
    refine XS.aloadN P11.here P11.x rfl (hb hby d_comp3_3_57) rfl rfl ?_
    exact kk
  exact wRetA P11 hret rfl rfl (hb hby d_comp3_3_58) ⟨b4, _, rfl, ge_b4, A12⟩
theorem ef_coder_3 (m : MethodId) (x0 : Addr) (x1 : Int32) : entryFrame m #[(.ref x0), (.int x1)] 2 = mkF m 0 #[.val (.ref x0), .val (.int x1)] [] := by first | (simp [entryFrame, mkF, argsToLocals, Value.category]; done) | rfl
theorem d_coder_3_0 : decode jdk_52_method_15_code 0 = .ok (.iload_n 1, 1) := by decide +kernel
theorem d_coder_3_1 : decode jdk_52_method_15_code 1 = .ok (.aload_n 0, 1) := by decide +kernel
theorem d_coder_3_2 : decode jdk_52_method_15_code 2 = .ok (.arraylength, 1) := by decide +kernel
theorem d_coder_3_3 : decode jdk_52_method_15_code 3 = .ok (.isub, 1) := by decide +kernel
theorem d_coder_3_4 : decode jdk_52_method_15_code 4 = .ok (.bipush 31, 2) := by decide +kernel
theorem d_coder_3_6 : decode jdk_52_method_15_code 6 = .ok (.iushr, 1) := by decide +kernel
theorem d_coder_3_7 : decode jdk_52_method_15_code 7 = .ok (.i2b, 1) := by decide +kernel
theorem d_coder_3_8 : decode jdk_52_method_15_code 8 = .ok (.ireturn, 1) := by decide +kernel
set_option maxRecDepth 65536 in
set_option maxHeartbeats 4000000 in
theorem m_coder_3 (l : Launch) (Z : State) (a0 : Array Value) (hw : ∀ d ∈ tables_1, d.before a0 Z = true) (hs : ∀ d ∈ jdkStatics_1, d.before a0 Z = true) (a : Addr) (gb : Nat → Int32) (h0 : Heap) (Ab : Ar Z h0 a .byte 3 (fun i => .int (gb i))) :
    OMet l (⟨"java/lang/StringUTF16", "coderFromArrayLen", "([BI)B"⟩ : MethodName) jdk_52_method_15_code 2 (Option.some FieldType.byte) [] ({ frames := 0, cells := 0, slots := 0, locals := 0 } : Room) Z h0 [] #[(.ref a), (.int (3 : Int32))] (fun v h' => ∃ x : Int32, v = some (.int x) ∧ h0 = h') := by
  refine OMet.of (own := "java/lang/StringUTF16") (nm := "coderFromArrayLen") pn_2 rfl rfl ?_
  intro p e s m below meth c T0 P0 hby hml hret hnm
  refine Done.step (T' := T0) (g' := (mkF m 0 #[.val (.ref a), .val (.int (3 : Int32))] [])) (fun t kk => castTop (ef_coder_3 m a (3 : Int32)) kk) ?_
  refine Done.stepL (pc' := 2) (st' := [(.ref a), (.int (3 : Int32))]) (fun t kk => ?_) ?_
  · show Steps p.tables e below (T0.setTop (mkF m 0 _ [])) t
    refine XS.iloadN P0.here P0.x rfl (hb hby d_coder_3_0) rfl ?_
    show Steps p.tables e below (T0.setTop (mkF m 1 _ [(.int (3 : Int32))])) t
    refine XS.aloadN P0.here P0.x rfl (hb hby d_coder_3_1) rfl rfl ?_
    exact kk
  refine wLen P0 Ab (z := (3 : Int32)) rfl (hb hby d_coder_3_2) rfl ?_
  show Done _ _ _ _ _ _ _ _ _ _ _ _ _ _ _ T0 (mkF m 3 _ [(.int (3 : Int32)), (.int (3 : Int32))])
  refine Done.stepL (pc' := 8) (st' := [(.int ((((3 : Int32) - (3 : Int32)).toUInt32 >>> ((31 : Int32) &&& 31).toUInt32).toInt32).toInt8.toInt32)]) (fun t kk => ?_) ?_
  · show Steps p.tables e below (T0.setTop (mkF m 3 _ [(.int (3 : Int32)), (.int (3 : Int32))])) t
    refine XS.isub P0.here P0.x rfl (hb hby d_coder_3_3) rfl ?_
    show Steps p.tables e below (T0.setTop (mkF m 4 _ [(.int ((3 : Int32) - (3 : Int32)))])) t
    refine XS.bipush P0.here P0.x rfl (hb hby d_coder_3_4) ?_
    show Steps p.tables e below (T0.setTop (mkF m 6 _ [(.int (31 : Int32)), (.int ((3 : Int32) - (3 : Int32)))])) t
    refine XS.iushr P0.here P0.x rfl (hb hby d_coder_3_6) rfl ?_
    show Steps p.tables e below (T0.setTop (mkF m 7 _ [(.int ((((3 : Int32) - (3 : Int32)).toUInt32 >>> ((31 : Int32) &&& 31).toUInt32).toInt32))])) t
    refine XS.i2b P0.here P0.x rfl (hb hby d_coder_3_7) rfl ?_
    exact kk
  exact wRetN P0 (t := .byte) hret (by simp) (hb hby d_coder_3_8) ⟨_, rfl, rfl⟩
theorem ef_str4_3 (m : MethodId) (x0 : Addr) (x1 : Addr) (x2 : Int32) (x3 : Int32) : entryFrame m #[(.ref x0), (.ref x1), (.int x2), (.int x3), .null] 6 = mkF m 0 #[.val (.ref x0), .val (.ref x1), .val (.int x2), .val (.int x3), .val .null, .unset] [] := by first | (simp [entryFrame, mkF, argsToLocals, Value.category]; done) | rfl
theorem d_str4_3_0 : decode jdk_42_method_149_code 0 = .ok (.aload_n 0, 1) := by decide +kernel
theorem d_str4_3_1 : decode jdk_42_method_149_code 1 = .ok (.invokespecial 1, 3) := by decide +kernel
theorem d_str4_3_4 : decode jdk_42_method_149_code 4 = .ok (.iload_n 3, 1) := by decide +kernel
theorem d_str4_3_5 : decode jdk_42_method_149_code 5 = .ok (.ifCond .ne 22, 3) := by decide +kernel
theorem d_str4_3_27 : decode jdk_42_method_149_code 27 = .ok (.getstatic 38, 3) := by decide +kernel
theorem d_str4_3_30 : decode jdk_42_method_149_code 30 = .ok (.ifCond .eq 28, 3) := by decide +kernel
theorem d_str4_3_33 : decode jdk_42_method_149_code 33 = .ok (.aload_n 1, 1) := by decide +kernel
theorem d_str4_3_34 : decode jdk_42_method_149_code 34 = .ok (.iload_n 2, 1) := by decide +kernel
theorem d_str4_3_35 : decode jdk_42_method_149_code 35 = .ok (.iload_n 3, 1) := by decide +kernel
theorem d_str4_3_36 : decode jdk_42_method_149_code 36 = .ok (.invokestatic 177, 3) := by decide +kernel
theorem d_str4_3_39 : decode jdk_42_method_149_code 39 = .ok (.astore 5, 2) := by decide +kernel
theorem d_str4_3_41 : decode jdk_42_method_149_code 41 = .ok (.aload_n 0, 1) := by decide +kernel
theorem d_str4_3_42 : decode jdk_42_method_149_code 42 = .ok (.aload 5, 2) := by decide +kernel
theorem d_str4_3_44 : decode jdk_42_method_149_code 44 = .ok (.iload_n 3, 1) := by decide +kernel
theorem d_str4_3_45 : decode jdk_42_method_149_code 45 = .ok (.invokestatic 47, 3) := by decide +kernel
theorem d_str4_3_48 : decode jdk_42_method_149_code 48 = .ok (.putfield 15, 3) := by decide +kernel
theorem d_str4_3_51 : decode jdk_42_method_149_code 51 = .ok (.aload_n 0, 1) := by decide +kernel
theorem d_str4_3_52 : decode jdk_42_method_149_code 52 = .ok (.aload 5, 2) := by decide +kernel
theorem d_str4_3_54 : decode jdk_42_method_149_code 54 = .ok (.putfield 9, 3) := by decide +kernel
theorem d_str4_3_57 : decode jdk_42_method_149_code 57 = .ok (.return_, 1) := by decide +kernel
set_option maxRecDepth 65536 in
set_option maxHeartbeats 4000000 in
theorem m_str4_3 (l : Launch) (Z : State) (a0 : Array Value) (hw : ∀ d ∈ tables_1, d.before a0 Z = true) (hs : ∀ d ∈ jdkStatics_1, d.before a0 Z = true) (z a : Addr) (f : Nat → Int32) (cs : Int32) (h0 : Heap) (E0 : Exa Z h0 z "java/lang/String") (F1 : Fld Z h0 z "java/lang/String" "value" "[B" .null) (F2 : Fld Z h0 z "java/lang/String" "coder" "B" (.int 0)) (nza : z ≠ a) (Aa : Ar Z h0 a .char 3 (fun i => .int (f i))) (q0 : ¬ ((255 : Int32) < f 0)) (q1 : ¬ ((255 : Int32) < f 1)) (q2 : ¬ ((255 : Int32) < f 2)) (S0 : Sta Z h0 "java/lang/String" "COMPACT_STRINGS" "Z" (.int cs)) (hcs : ¬ (cs = (0 : Int32))) :
    OMet l (⟨"java/lang/String", "<init>", "([CIILjava/lang/Void;)V"⟩ : MethodName) jdk_42_method_149_code 6 (Option.none : Option FieldType) [] ({ frames := 2, cells := 1, slots := 3, locals := 35 } : Room) Z h0 [z] #[(.ref z), (.ref a), (.int (0 : Int32)), (.int (3 : Int32)), .null] (fun v h' => v = none) := by
  refine OMet.of (own := "java/lang/String") (nm := "<init>") pn_3 rfl rfl ?_
  intro p e s m below meth c T0 P0 hby hml hret hnm
  refine Done.step (T' := T0) (g' := (mkF m 0 #[.val (.ref z), .val (.ref a), .val (.int (0 : Int32)), .val (.int (3 : Int32)), .val .null, .unset] [])) (fun t kk => castTop (ef_str4_3 m z a (0 : Int32) (3 : Int32)) kk) ?_
  have lta := Aa.ltN
  have ltz := exaN E0
  refine Done.stepL (pc' := 1) (st' := [(.ref z)]) (fun t kk => ?_) ?_
  · show Steps p.tables e below (T0.setTop (mkF m 0 _ [])) t
    refine XS.aloadN P0.here P0.x rfl (hb hby d_str4_3_0) rfl rfl ?_
    exact kk
  refine wInit P0 (tw11 hw) (tw12 hw) (tw13 hw) (by rw [hml]; rfl) (hb hby d_str4_3_1) (by decide) (W := 0) (Nat.le_of_eq rfl) (by decide) rfl (fun T1 P2 => ?_)
  show Done _ _ _ _ _ _ _ _ _ _ _ _ _ _ _ T1 (mkF m 4 _ [])
  refine Done.stepL (pc' := 27) (st' := []) (fun t kk => ?_) ?_
  · show Steps p.tables e below (T1.setTop (mkF m 4 _ [])) t
    refine XS.iloadN P2.here P2.x rfl (hb hby d_str4_3_4) rfl ?_
    show Steps p.tables e below (T1.setTop (mkF m 5 _ [(.int (3 : Int32))])) t
    refine XS.ifYes P2.here P2.x rfl (pc0 := 5) (pc' := 27) rfl (hb hby d_str4_3_5) rfl (i0W_ne_t (by decide)) (by decide) (by decide) ?_
    exact kk
  refine wGetS P2 (host := "") (Or.inl (tw14 hw)) Via.refl S0 (hb hby d_str4_3_27) rfl (fun T3 P4 => ?_)
  show Done _ _ _ _ _ _ _ _ _ _ _ _ _ _ _ T3 (mkF m 30 _ [(.int cs)])
  refine Done.stepL (pc' := 36) (st' := [(.int (3 : Int32)), (.int (0 : Int32)), (.ref a)]) (fun t kk => ?_) ?_
  · show Steps p.tables e below (T3.setTop (mkF m 30 _ [(.int cs)])) t
    refine XS.ifNo P4.here P4.x rfl (hb hby d_str4_3_30) rfl (i0W_eq_f hcs) ?_
    show Steps p.tables e below (T3.setTop (mkF m 33 _ [])) t
    refine XS.aloadN P4.here P4.x rfl (hb hby d_str4_3_33) rfl rfl ?_
    show Steps p.tables e below (T3.setTop (mkF m 34 _ [(.ref a)])) t
    refine XS.iloadN P4.here P4.x rfl (hb hby d_str4_3_34) rfl ?_
    show Steps p.tables e below (T3.setTop (mkF m 35 _ [(.int (0 : Int32)), (.ref a)])) t
    refine XS.iloadN P4.here P4.x rfl (hb hby d_str4_3_35) rfl ?_
    exact kk
  refine wCallS P4 (m_comp3_3 l Z a0 hw hs a f h0 Aa q0 q1 q2) (tw15 hw) (tw16 hw) (tw17 hw) (tw18 hw) (by decide) (by rw [hml]; rfl) (lenOf pd_1 rfl) (argsL := [(.ref a), (.int (0 : Int32)), (.int (3 : Int32))]) (rest := []) rfl rfl (W := 0) (Nat.le_of_eq rfl) (by decide) (by decide) (by decide) (by decide) (by simp) (hb hby d_str4_3_36) rfl (k' := 1) (n' := 3) rfl rfl ?_
  rintro T5 h11 _ P6 K12 ⟨b7, g8, rfl, ge9, A10⟩
  have szh11 : h0.size ≤ h11.size := K12.1
  show Done _ _ _ _ _ _ _ _ _ _ _ _ _ _ _ T5 (mkF m 39 _ [(.ref b7)])
  refine Done.step (T' := T5) (g' := (mkF m 45 #[.val (.ref z), .val (.ref a), .val (.int (0 : Int32)), .val (.int (3 : Int32)), .val .null, .val (.ref b7)] [(.int (3 : Int32)), (.ref b7), (.ref z)])) (fun t kk => ?_) ?_
  · show Steps p.tables e below (T5.setTop (mkF m 39 _ [(.ref b7)])) t
    refine XS.astore P6.here P6.x rfl (hb hby d_str4_3_39) rfl rfl (l' := #[.val (.ref z), .val (.ref a), .val (.int (0 : Int32)), .val (.int (3 : Int32)), .val .null, .val (.ref b7)]) rfl ?_
    show Steps p.tables e below (T5.setTop (mkF m 41 _ [])) t
    refine XS.aloadN P6.here P6.x rfl (hb hby d_str4_3_41) rfl rfl ?_
    show Steps p.tables e below (T5.setTop (mkF m 42 _ [(.ref z)])) t
    refine XS.aload P6.here P6.x rfl (hb hby d_str4_3_42) rfl rfl ?_
    show Steps p.tables e below (T5.setTop (mkF m 44 _ [(.ref b7), (.ref z)])) t
    refine XS.iloadN P6.here P6.x rfl (hb hby d_str4_3_44) rfl ?_
    exact kk
  refine wCallS P6 (m_coder_3 l Z a0 hw hs b7 g8 h11 A10) (tw23 hw) (tw24 hw) (tw17 hw) (tw25 hw) (by decide) (by rw [hml]; rfl) (lenOf pd_2 rfl) (argsL := [(.ref b7), (.int (3 : Int32))]) (rest := [(.ref z)]) rfl rfl (W := 1) (Nat.le_of_eq rfl) (by decide) (by decide) (by decide) (by decide) (by simp) (hb hby d_str4_3_45) rfl (k' := 1) (n' := 3) rfl rfl ?_
  rintro T13 _ _ P14 - ⟨x15, rfl, rfl⟩
  show Done _ _ _ _ _ _ _ _ _ _ _ _ _ _ _ T13 (mkF m 48 _ [(.int x15), (.ref z)])
  have f16 := (F2.keep K12 nin0)
  have f17 := (E0.keep K12)
  refine wPutN P14 (tw26 hw) Via.refl f16 f17 (Or.inr ⟨(tw27 hw), rfl, hnm⟩) (tw2 hw) (ty := .byte) (by decide) (x' := x15.toInt8.toInt32) rfl (fits_nar_byte _) (Or.inl (by simp)) (hb hby d_str4_3_48) rfl (fun T18 h20 P19 W21 F22 => ?_)
  have szh20 : h20.size = h11.size := W21.size
  show Done _ _ _ _ _ _ _ _ _ _ _ _ _ _ _ T18 (mkF m 51 _ [])
  refine Done.stepL (pc' := 54) (st' := [(.ref b7), (.ref z)]) (fun t kk => ?_) ?_
  · show Steps p.tables e below (T18.setTop (mkF m 51 _ [])) t
    refine XS.aloadN P19.here P19.x rfl (hb hby d_str4_3_51) rfl rfl ?_
    show Steps p.tables e below (T18.setTop (mkF m 52 _ [(.ref z)])) t
    refine XS.aload P19.here P19.x rfl (hb hby d_str4_3_52) rfl rfl ?_
    exact kk
  have f23 := ((F1.keep K12 nin0).other W21 (Or.inr (slot_ne (Or.inr (tw29 hw)) (Or.inr (tw27 hw)) (by decide) (t := (.array .byte)) (t' := .byte) (by decide) (by decide))))
  have f24 := (f17.wr W21)
  refine wPut P19 (host := "") (Or.inl (tw28 hw)) Via.refl f23 f24 (Or.inr ⟨(tw29 hw), rfl, hnm⟩) (tw2 hw) (ty := (.array .byte)) (by decide) rfl rfl (Or.inl (by simp)) (hb hby d_str4_3_54) rfl (fun T25 h27 P26 W28 F29 => ?_)
  have szh27 : h27.size = h20.size := W28.size
  show Done _ _ _ _ _ _ _ _ _ _ _ _ _ _ _ T25 (mkF m 57 _ [])
  exact wRetV P26 hret (hb hby d_str4_3_57) rfl
theorem ef_str1_3 (m : MethodId) (x0 : Addr) (x1 : Addr) : entryFrame m #[(.ref x0), (.ref x1)] 2 = mkF m 0 #[.val (.ref x0), .val (.ref x1)] [] := by first | (simp [entryFrame, mkF, argsToLocals, Value.category]; done) | rfl
theorem d_str1_3_0 : decode jdk_42_method_3_code 0 = .ok (.aload_n 0, 1) := by decide +kernel
theorem d_str1_3_1 : decode jdk_42_method_3_code 1 = .ok (.aload_n 1, 1) := by decide +kernel
theorem d_str1_3_2 : decode jdk_42_method_3_code 2 = .ok (.iconst 0, 1) := by decide +kernel
theorem d_str1_3_3 : decode jdk_42_method_3_code 3 = .ok (.aload_n 1, 1) := by decide +kernel
theorem d_str1_3_4 : decode jdk_42_method_3_code 4 = .ok (.arraylength, 1) := by decide +kernel
theorem d_str1_3_5 : decode jdk_42_method_3_code 5 = .ok (.aconst_null, 1) := by decide +kernel
theorem d_str1_3_6 : decode jdk_42_method_3_code 6 = .ok (.invokespecial 27, 3) := by decide +kernel
theorem d_str1_3_9 : decode jdk_42_method_3_code 9 = .ok (.return_, 1) := by decide +kernel
set_option maxRecDepth 65536 in
set_option maxHeartbeats 4000000 in
theorem m_str1_3 (l : Launch) (Z : State) (a0 : Array Value) (hw : ∀ d ∈ tables_1, d.before a0 Z = true) (hs : ∀ d ∈ jdkStatics_1, d.before a0 Z = true) (z a : Addr) (f : Nat → Int32) (cs : Int32) (h0 : Heap) (E0 : Exa Z h0 z "java/lang/String") (F1 : Fld Z h0 z "java/lang/String" "value" "[B" .null) (F2 : Fld Z h0 z "java/lang/String" "coder" "B" (.int 0)) (nza : z ≠ a) (Aa : Ar Z h0 a .char 3 (fun i => .int (f i))) (q0 : ¬ ((255 : Int32) < f 0)) (q1 : ¬ ((255 : Int32) < f 1)) (q2 : ¬ ((255 : Int32) < f 2)) (S0 : Sta Z h0 "java/lang/String" "COMPACT_STRINGS" "Z" (.int cs)) (hcs : ¬ (cs = (0 : Int32))) :
    OMet l (⟨"java/lang/String", "<init>", "([C)V"⟩ : MethodName) jdk_42_method_3_code 2 (Option.none : Option FieldType) [] ({ frames := 3, cells := 1, slots := 3, locals := 52 } : Room) Z h0 [z] #[(.ref z), (.ref a)] (fun v h' => v = none) := by
  refine OMet.of (own := "java/lang/String") (nm := "<init>") pn_4 rfl rfl ?_
  intro p e s m below meth c T0 P0 hby hml hret hnm
  refine Done.step (T' := T0) (g' := (mkF m 0 #[.val (.ref z), .val (.ref a)] [])) (fun t kk => castTop (ef_str1_3 m z a) kk) ?_
  have lta := Aa.ltN
  have ltz := exaN E0
  refine Done.stepL (pc' := 4) (st' := [(.ref a), (.int (0 : Int32)), (.ref a), (.ref z)]) (fun t kk => ?_) ?_
  · show Steps p.tables e below (T0.setTop (mkF m 0 _ [])) t
    refine XS.aloadN P0.here P0.x rfl (hb hby d_str1_3_0) rfl rfl ?_
    show Steps p.tables e below (T0.setTop (mkF m 1 _ [(.ref z)])) t
    refine XS.aloadN P0.here P0.x rfl (hb hby d_str1_3_1) rfl rfl ?_
    show Steps p.tables e below (T0.setTop (mkF m 2 _ [(.ref a), (.ref z)])) t
    refine XS.iconst P0.here P0.x rfl (hb hby d_str1_3_2) ?_
    show Steps p.tables e below (T0.setTop (mkF m 3 _ [(.int (0 : Int32)), (.ref a), (.ref z)])) t
    refine XS.aloadN P0.here P0.x rfl (hb hby d_str1_3_3) rfl rfl ?_
    exact kk
  refine wLen P0 Aa (z := (3 : Int32)) rfl (hb hby d_str1_3_4) rfl ?_
  show Done _ _ _ _ _ _ _ _ _ _ _ _ _ _ _ T0 (mkF m 5 _ [(.int (3 : Int32)), (.int (0 : Int32)), (.ref a), (.ref z)])
  refine Done.stepL (pc' := 6) (st' := [.null, (.int (3 : Int32)), (.int (0 : Int32)), (.ref a), (.ref z)]) (fun t kk => ?_) ?_
  · show Steps p.tables e below (T0.setTop (mkF m 5 _ [(.int (3 : Int32)), (.int (0 : Int32)), (.ref a), (.ref z)])) t
    refine XS.aconstNull P0.here P0.x rfl (hb hby d_str1_3_5) ?_
    exact kk
  refine wCallI P0 (m_str4_3 l Z a0 hw hs z a f cs h0 E0 F1 F2 (by first | assumption | exact Ne.symm (by assumption) | exact adr_ne (by omega) | omega) Aa q0 q1 q2 S0 hcs) rfl (tw7 hw) (tw8 hw) (tw3 hw) (tw10 hw) (by decide) (a := z) (by rw [hml]; rfl) (lenOf pd_3 rfl) (argsL := [(.ref a), (.int (0 : Int32)), (.int (3 : Int32)), .null]) (rest := []) rfl rfl (W := 0) (Nat.le_of_eq rfl) (by decide) (by decide) (by decide) (by decide) (allS (Or.inl (by simp)) all0) (hb hby d_str1_3_6) rfl (k' := 1) (n' := 3) rfl rfl ?_
  rintro T1 h3 _ P2 K4 rfl
  have szh3 : h0.size ≤ h3.size := K4.1
  show Done _ _ _ _ _ _ _ _ _ _ _ _ _ _ _ T1 (mkF m 9 _ [])
  exact wRetV P2 hret (hb hby d_str1_3_9) rfl
theorem ef_str4e (m : MethodId) (x0 : Addr) (x1 : Addr) (x2 : Int32) (x3 : Int32) : entryFrame m #[(.ref x0), (.ref x1), (.int x2), (.int x3), .null] 6 = mkF m 0 #[.val (.ref x0), .val (.ref x1), .val (.int x2), .val (.int x3), .val .null, .unset] [] := by first | (simp [entryFrame, mkF, argsToLocals, Value.category]; done) | rfl
theorem d_str4e_0 : decode jdk_42_method_149_code 0 = .ok (.aload_n 0, 1) := by decide +kernel
theorem d_str4e_1 : decode jdk_42_method_149_code 1 = .ok (.invokespecial 1, 3) := by decide +kernel
theorem d_str4e_4 : decode jdk_42_method_149_code 4 = .ok (.iload_n 3, 1) := by decide +kernel
theorem d_str4e_5 : decode jdk_42_method_149_code 5 = .ok (.ifCond .ne 22, 3) := by decide +kernel
theorem d_str4e_8 : decode jdk_42_method_149_code 8 = .ok (.aload_n 0, 1) := by decide +kernel
theorem d_str4e_9 : decode jdk_42_method_149_code 9 = .ok (.ldc 7, 2) := by decide +kernel
theorem d_str4e_11 : decode jdk_42_method_149_code 11 = .ok (.getfield 9, 3) := by decide +kernel
theorem d_str4e_14 : decode jdk_42_method_149_code 14 = .ok (.putfield 9, 3) := by decide +kernel
theorem d_str4e_17 : decode jdk_42_method_149_code 17 = .ok (.aload_n 0, 1) := by decide +kernel
theorem d_str4e_18 : decode jdk_42_method_149_code 18 = .ok (.ldc 7, 2) := by decide +kernel
theorem d_str4e_20 : decode jdk_42_method_149_code 20 = .ok (.getfield 15, 3) := by decide +kernel
theorem d_str4e_23 : decode jdk_42_method_149_code 23 = .ok (.putfield 15, 3) := by decide +kernel
theorem d_str4e_26 : decode jdk_42_method_149_code 26 = .ok (.return_, 1) := by decide +kernel
set_option maxRecDepth 65536 in
set_option maxHeartbeats 4000000 in
theorem m_str4e (l : Launch) (Z : State) (a0 : Array Value) (hw : ∀ d ∈ tables_1, d.before a0 Z = true) (hs : ∀ d ∈ jdkStatics_1, d.before a0 Z = true) (z a : Addr) (h0 : Heap) (E0 : Exa Z h0 z "java/lang/String") (F1 : Fld Z h0 z "java/lang/String" "value" "[B" .null) (F2 : Fld Z h0 z "java/lang/String" "coder" "B" (.int 0)) (hk0 : OwnY.Kept Z h0) (hh : Jvm.Lit.constHeld Z "java/lang/String" 7) (hcw : Jvm.Lit.compactW.before a0 Z = true) :
    OwnY.OMet l (⟨"java/lang/String", "<init>", "([CIILjava/lang/Void;)V"⟩ : MethodName) jdk_42_method_149_code 6 (Option.none : Option FieldType) [] ({ frames := 1, cells := 2, slots := 4, locals := 12 } : Room) Z h0 [z] #[(.ref z), (.ref a), (.int (0 : Int32)), (.int (0 : Int32)), .null] (fun v h' => v = none) := by
  refine OwnY.OMet.of (own := "java/lang/String") (nm := "<init>") pn_3 rfl rfl ?_
  intro p e s m below meth c T0 P0 hby hml hret hnm
  refine OwnX.Done.step (T' := T0) (g' := (mkF m 0 #[.val (.ref z), .val (.ref a), .val (.int (0 : Int32)), .val (.int (0 : Int32)), .val .null, .unset] [])) (fun t kk => castTop (ef_str4e m z a (0 : Int32) (0 : Int32)) kk) ?_
  have ltz := exaN E0
  refine OwnX.Done.stepL (pc' := 1) (st' := [(.ref z)]) (fun t kk => ?_) ?_
  · show Steps p.tables e below (T0.setTop (mkF m 0 _ [])) t
    refine XS.aloadN P0.here P0.x rfl (hb hby d_str4e_0) rfl rfl ?_
    exact kk
  refine OwnY.wInit P0 (tw11 hw) (tw12 hw) (tw13 hw) (by rw [hml]; rfl) (hb hby d_str4e_1) (by decide) (W := 0) (Nat.le_of_eq rfl) (by decide) rfl (fun T1 P2 => ?_)
  show OwnX.Done _ _ _ _ _ _ _ _ _ _ _ _ _ _ _ T1 (mkF m 4 _ [])
  refine OwnX.Done.stepL (pc' := 9) (st' := [(.ref z)]) (fun t kk => ?_) ?_
  · show Steps p.tables e below (T1.setTop (mkF m 4 _ [])) t
    refine XS.iloadN P2.here P2.x rfl (hb hby d_str4e_4) rfl ?_
    show Steps p.tables e below (T1.setTop (mkF m 5 _ [(.int (0 : Int32))])) t
    refine XS.ifNo P2.here P2.x rfl (hb hby d_str4e_5) rfl (i0W_ne_f (by decide)) ?_
    show Steps p.tables e below (T1.setTop (mkF m 8 _ [])) t
    refine XS.aloadN P2.here P2.x rfl (hb hby d_str4e_8) rfl rfl ?_
    exact kk
  refine OwnY.wLdc P2 (tw90 hw) (own_wS hw) hk0 hh hcw (vs := []) (z := (0 : Int32)) own_e1 (by decide) rfl (hb hby d_str4e_9) rfl (N := 0) own_e2 (by decide) (by decide) (by decide) (k' := 2) (n' := 4) rfl rfl (fun T3 h6 b7 b8 P5 E9 X10 F11 F12 => ?_)
  have szh6 : h0.size ≤ h6.size := E9.1
  have P4 := P5.grow (ws₂ := [z]) (by simp)
  show OwnX.Done _ _ _ _ _ _ _ _ _ _ _ _ _ _ _ T3 (mkF m 11 _ [(.ref b7), (.ref z)])
  refine OwnY.wGet P4 (host := "") (Or.inl (tw28 hw)) Via.refl F12 (hb hby d_str4e_11) rfl (fun T13 P14 => ?_)
  show OwnX.Done _ _ _ _ _ _ _ _ _ _ _ _ _ _ _ T13 (mkF m 14 _ [(.ref b8), (.ref z)])
  have f15 := (F1.ext E9)
  have f16 := (E0.ext E9)
  refine OwnY.wPut P14 (host := "") (Or.inl (tw28 hw)) Via.refl f15 f16 (Or.inr ⟨(tw29 hw), rfl, hnm⟩) (tw2 hw) (ty := (.array .byte)) (by decide) rfl rfl (Or.inl (by simp)) (hb hby d_str4e_14) rfl (fun T17 h19 P18 W20 F21 => ?_)
  have szh19 : h19.size = h6.size := W20.size
  show OwnX.Done _ _ _ _ _ _ _ _ _ _ _ _ _ _ _ T17 (mkF m 17 _ [])
  refine OwnX.Done.stepL (pc' := 18) (st' := [(.ref z)]) (fun t kk => ?_) ?_
  · show Steps p.tables e below (T17.setTop (mkF m 17 _ [])) t
    refine XS.aloadN P18.here P18.x rfl (hb hby d_str4e_17) rfl rfl ?_
    exact kk
  refine OwnY.wLdc2 P18 (tw90 hw) (hb hby d_str4e_18) rfl ?_
  show OwnX.Done _ _ _ _ _ _ _ _ _ _ _ _ _ _ _ T17 (mkF m 20 _ [(.ref b7), (.ref z)])
  have f22 := (F11.other W20 (Or.inr (slot_ne (Or.inr (tw27 hw)) (Or.inr (tw29 hw)) (by decide) (t := .byte) (t' := (.array .byte)) (by decide) (by decide))))
  refine OwnY.wGet P18 (host := "") (Or.inl (tw26 hw)) Via.refl f22 (hb hby d_str4e_20) rfl (fun T23 P24 => ?_)
  show OwnX.Done _ _ _ _ _ _ _ _ _ _ _ _ _ _ _ T23 (mkF m 23 _ [(.int (0 : Int32)), (.ref z)])
  have f25 := ((F2.ext E9).other W20 (Or.inr (slot_ne (Or.inr (tw27 hw)) (Or.inr (tw29 hw)) (by decide) (t := .byte) (t' := (.array .byte)) (by decide) (by decide))))
  have f26 := (f16.wr W20)
  refine OwnY.wPutN P24 (tw26 hw) Via.refl f25 f26 (Or.inr ⟨(tw27 hw), rfl, hnm⟩) (tw2 hw) (ty := .byte) (by decide) (x' := (0 : Int32).toInt8.toInt32) rfl (fits_nar_byte _) (Or.inl (by simp)) (hb hby d_str4e_23) rfl (fun T27 h29 P28 W30 F31 => ?_)
  have szh29 : h29.size = h19.size := W30.size
  show OwnX.Done _ _ _ _ _ _ _ _ _ _ _ _ _ _ _ T27 (mkF m 26 _ [])
  exact OwnX.wRetV (P28.pos (fun _ q_ => q_)) hret (hb hby d_str4e_26) rfl
theorem ef_str1e (m : MethodId) (x0 : Addr) (x1 : Addr) : entryFrame m #[(.ref x0), (.ref x1)] 2 = mkF m 0 #[.val (.ref x0), .val (.ref x1)] [] := by first | (simp [entryFrame, mkF, argsToLocals, Value.category]; done) | rfl
theorem d_str1e_0 : decode jdk_42_method_3_code 0 = .ok (.aload_n 0, 1) := by decide +kernel
theorem d_str1e_1 : decode jdk_42_method_3_code 1 = .ok (.aload_n 1, 1) := by decide +kernel
theorem d_str1e_2 : decode jdk_42_method_3_code 2 = .ok (.iconst 0, 1) := by decide +kernel
theorem d_str1e_3 : decode jdk_42_method_3_code 3 = .ok (.aload_n 1, 1) := by decide +kernel
theorem d_str1e_4 : decode jdk_42_method_3_code 4 = .ok (.arraylength, 1) := by decide +kernel
theorem d_str1e_5 : decode jdk_42_method_3_code 5 = .ok (.aconst_null, 1) := by decide +kernel
theorem d_str1e_6 : decode jdk_42_method_3_code 6 = .ok (.invokespecial 27, 3) := by decide +kernel
theorem d_str1e_9 : decode jdk_42_method_3_code 9 = .ok (.return_, 1) := by decide +kernel
set_option maxRecDepth 65536 in
set_option maxHeartbeats 4000000 in
theorem m_str1e (l : Launch) (Z : State) (a0 : Array Value) (hw : ∀ d ∈ tables_1, d.before a0 Z = true) (hs : ∀ d ∈ jdkStatics_1, d.before a0 Z = true) (z a : Addr) (f : Nat → Int32) (h0 : Heap) (E0 : Exa Z h0 z "java/lang/String") (F1 : Fld Z h0 z "java/lang/String" "value" "[B" .null) (F2 : Fld Z h0 z "java/lang/String" "coder" "B" (.int 0)) (hk0 : OwnY.Kept Z h0) (hh : Jvm.Lit.constHeld Z "java/lang/String" 7) (hcw : Jvm.Lit.compactW.before a0 Z = true) (Aa : Ar Z h0 a .char 0 (fun i => .int (f i))) :
    OwnY.OMet l (⟨"java/lang/String", "<init>", "([C)V"⟩ : MethodName) jdk_42_method_3_code 2 (Option.none : Option FieldType) [] ({ frames := 2, cells := 2, slots := 4, locals := 29 } : Room) Z h0 [z] #[(.ref z), (.ref a)] (fun v h' => v = none) := by
  refine OwnY.OMet.of (own := "java/lang/String") (nm := "<init>") pn_4 rfl rfl ?_
  intro p e s m below meth c T0 P0 hby hml hret hnm
  refine OwnX.Done.step (T' := T0) (g' := (mkF m 0 #[.val (.ref z), .val (.ref a)] [])) (fun t kk => castTop (ef_str1e m z a) kk) ?_
  have ltz := exaN E0
  refine OwnX.Done.stepL (pc' := 4) (st' := [(.ref a), (.int (0 : Int32)), (.ref a), (.ref z)]) (fun t kk => ?_) ?_
  · show Steps p.tables e below (T0.setTop (mkF m 0 _ [])) t
    refine XS.aloadN P0.here P0.x rfl (hb hby d_str1e_0) rfl rfl ?_
    show Steps p.tables e below (T0.setTop (mkF m 1 _ [(.ref z)])) t
    refine XS.aloadN P0.here P0.x rfl (hb hby d_str1e_1) rfl rfl ?_
    show Steps p.tables e below (T0.setTop (mkF m 2 _ [(.ref a), (.ref z)])) t
    refine XS.iconst P0.here P0.x rfl (hb hby d_str1e_2) ?_
    show Steps p.tables e below (T0.setTop (mkF m 3 _ [(.int (0 : Int32)), (.ref a), (.ref z)])) t
    refine XS.aloadN P0.here P0.x rfl (hb hby d_str1e_3) rfl rfl ?_
    exact kk
  refine OwnY.wLen P0 Aa (z := (0 : Int32)) rfl (hb hby d_str1e_4) rfl ?_
  show OwnX.Done _ _ _ _ _ _ _ _ _ _ _ _ _ _ _ T0 (mkF m 5 _ [(.int (0 : Int32)), (.int (0 : Int32)), (.ref a), (.ref z)])
  refine OwnX.Done.stepL (pc' := 6) (st' := [.null, (.int (0 : Int32)), (.int (0 : Int32)), (.ref a), (.ref z)]) (fun t kk => ?_) ?_
  · show Steps p.tables e below (T0.setTop (mkF m 5 _ [(.int (0 : Int32)), (.int (0 : Int32)), (.ref a), (.ref z)])) t
    refine XS.aconstNull P0.here P0.x rfl (hb hby d_str1e_5) ?_
    exact kk
  refine OwnY.wCallI P0 (by simp) (m_str4e l Z a0 hw hs z a h0 E0 F1 F2 hk0 hh hcw) rfl (tw7 hw) (tw8 hw) (tw3 hw) (tw10 hw) (by decide) (a := z) (by rw [hml]; rfl) (lenOf pd_3 rfl) (argsL := [(.ref a), (.int (0 : Int32)), (.int (0 : Int32)), .null]) (rest := []) rfl rfl (W := 0) (Nat.le_of_eq rfl) (by decide) (by decide) (by decide) (by decide) (allS (Or.inl (by simp)) all0) (hb hby d_str1e_6) rfl (k' := 2) (n' := 4) rfl rfl ?_
  rintro T1 h3 _ P2 K4 rfl
  have szh3 : h0.size ≤ h3.size := K4.1
  show OwnX.Done _ _ _ _ _ _ _ _ _ _ _ _ _ _ _ T1 (mkF m 9 _ [])
  exact OwnX.wRetV P2 hret (hb hby d_str1e_9) rfl
theorem ef_rec (m : MethodId) (x0 : Addr) : entryFrame m #[(.ref x0)] 1 = mkF m 0 #[.val (.ref x0)] [] := by first | (simp [entryFrame, mkF, argsToLocals, Value.category]; done) | rfl
theorem d_rec_0 : decode jdk_30_method_1_code 0 = .ok (.aload_n 0, 1) := by decide +kernel
theorem d_rec_1 : decode jdk_30_method_1_code 1 = .ok (.invokespecial 1, 3) := by decide +kernel
theorem d_rec_4 : decode jdk_30_method_1_code 4 = .ok (.return_, 1) := by decide +kernel
set_option maxRecDepth 65536 in
set_option maxHeartbeats 4000000 in
theorem m_rec (l : Launch) (Z : State) (a0 : Array Value) (hw : ∀ d ∈ tables_1, d.before a0 Z = true) (hs : ∀ d ∈ jdkStatics_1, d.before a0 Z = true) (a : Addr) (h0 : Heap)  :
    OMet l (⟨"java/lang/Record", "<init>", "()V"⟩ : MethodName) jdk_30_method_1_code 1 (Option.none : Option FieldType) [] ({ frames := 1, cells := 0, slots := 0, locals := 12 } : Room) Z h0 [] #[(.ref a)] (fun v h' => v = none ∧ h0 = h') := by
  refine OMet.of (own := "java/lang/Record") (nm := "<init>") (plainFor_of_name pn_5) rfl rfl ?_
  intro p e s m below meth c T0 P0 hby hml hret hnm
  refine Done.step (T' := T0) (g' := (mkF m 0 #[.val (.ref a)] [])) (fun t kk => castTop (ef_rec m a) kk) ?_
  refine Done.stepL (pc' := 1) (st' := [(.ref a)]) (fun t kk => ?_) ?_
  · show Steps p.tables e below (T0.setTop (mkF m 0 _ [])) t
    refine XS.aloadN P0.here P0.x rfl (hb hby d_rec_0) rfl rfl ?_
    exact kk
  refine wInit P0 (tw48 hw) (tw12 hw) (tw13 hw) (by rw [hml]; rfl) (hb hby d_rec_1) (by decide) (W := 0) (Nat.le_of_eq rfl) (by decide) rfl (fun T1 P2 => ?_)
  show Done _ _ _ _ _ _ _ _ _ _ _ _ _ _ _ T1 (mkF m 4 _ [])
  exact wRetV P2 hret (hb hby d_rec_4) ⟨rfl, rfl⟩
theorem ef_cfInit (m : MethodId) (x0 : Addr) (x1 : Addr) (x2 : Addr) (x3 : UInt64) (x4 : UInt64) (x5 : UInt64) : entryFrame m #[(.ref x0), (.ref x1), (.ref x2), (.double x3), (.double x4), (.double x5)] 9 = mkF m 0 #[.val (.ref x0), .val (.ref x1), .val (.ref x2), .val (.double x3), .second, .val (.double x4), .second, .val (.double x5), .second] [] := by first | (simp [entryFrame, mkF, argsToLocals, Value.category]; done) | rfl
theorem d_cfInit_0 : decode prog_30_method_1_code 0 = .ok (.aload_n 0, 1) := by decide +kernel
theorem d_cfInit_1 : decode prog_30_method_1_code 1 = .ok (.invokespecial 1, 3) := by decide +kernel
theorem d_cfInit_4 : decode prog_30_method_1_code 4 = .ok (.aload_n 0, 1) := by decide +kernel
theorem d_cfInit_5 : decode prog_30_method_1_code 5 = .ok (.aload_n 1, 1) := by decide +kernel
theorem d_cfInit_6 : decode prog_30_method_1_code 6 = .ok (.putfield 7, 3) := by decide +kernel
theorem d_cfInit_9 : decode prog_30_method_1_code 9 = .ok (.aload_n 0, 1) := by decide +kernel
theorem d_cfInit_10 : decode prog_30_method_1_code 10 = .ok (.aload_n 2, 1) := by decide +kernel
theorem d_cfInit_11 : decode prog_30_method_1_code 11 = .ok (.putfield 13, 3) := by decide +kernel
theorem d_cfInit_14 : decode prog_30_method_1_code 14 = .ok (.aload_n 0, 1) := by decide +kernel
theorem d_cfInit_15 : decode prog_30_method_1_code 15 = .ok (.dload_n 3, 1) := by decide +kernel
theorem d_cfInit_16 : decode prog_30_method_1_code 16 = .ok (.putfield 17, 3) := by decide +kernel
theorem d_cfInit_19 : decode prog_30_method_1_code 19 = .ok (.aload_n 0, 1) := by decide +kernel
theorem d_cfInit_20 : decode prog_30_method_1_code 20 = .ok (.dload 5, 2) := by decide +kernel
theorem d_cfInit_22 : decode prog_30_method_1_code 22 = .ok (.putfield 21, 3) := by decide +kernel
theorem d_cfInit_25 : decode prog_30_method_1_code 25 = .ok (.aload_n 0, 1) := by decide +kernel
theorem d_cfInit_26 : decode prog_30_method_1_code 26 = .ok (.dload 7, 2) := by decide +kernel
theorem d_cfInit_28 : decode prog_30_method_1_code 28 = .ok (.putfield 24, 3) := by decide +kernel
theorem d_cfInit_31 : decode prog_30_method_1_code 31 = .ok (.return_, 1) := by decide +kernel
set_option maxRecDepth 65536 in
set_option maxHeartbeats 4000000 in
theorem m_cfInit (l : Launch) (Z : State) (a0 : Array Value) (hw : ∀ d ∈ tables_1, d.before a0 Z = true) (hs : ∀ d ∈ jdkStatics_1, d.before a0 Z = true) (a : Addr) (p0 : Addr) (p1 : Addr) (p2 : UInt64) (p3 : UInt64) (p4 : UInt64) (h0 : Heap) (E0 : Exa Z h0 a "com/example/poll3/poll3/model/CurveFit") (F_server : Fld Z h0 a "com/example/poll3/poll3/model/CurveFit" "server" "Ljava/lang/String;" .null) (F_kept : Fld Z h0 a "com/example/poll3/poll3/model/CurveFit" "kept" "Lcom/example/poll3/poll3/model/CurveFit$Curve;" .null) (F_linear : Fld Z h0 a "com/example/poll3/poll3/model/CurveFit" "linear" "D" (.double (0 : UInt64))) (F_logarithmic : Fld Z h0 a "com/example/poll3/poll3/model/CurveFit" "logarithmic" "D" (.double (0 : UInt64))) (F_exponential : Fld Z h0 a "com/example/poll3/poll3/model/CurveFit" "exponential" "D" (.double (0 : UInt64))) :
    OMet l (⟨"com/example/poll3/poll3/model/CurveFit", "<init>", "(Ljava/lang/String;Lcom/example/poll3/poll3/model/CurveFit$Curve;DDD)V"⟩ : MethodName) prog_30_method_1_code 9 (Option.none : Option FieldType) [] ({ frames := 2, cells := 0, slots := 0, locals := 24 } : Room) Z h0 [a] #[(.ref a), (.ref p0), (.ref p1), (.double p2), (.double p3), (.double p4)] (fun v h' => v = none ∧ Fld Z h' a "com/example/poll3/poll3/model/CurveFit" "server" "Ljava/lang/String;" (.ref p0) ∧ Fld Z h' a "com/example/poll3/poll3/model/CurveFit" "kept" "Lcom/example/poll3/poll3/model/CurveFit$Curve;" (.ref p1) ∧ Fld Z h' a "com/example/poll3/poll3/model/CurveFit" "linear" "D" (.double p2) ∧ Fld Z h' a "com/example/poll3/poll3/model/CurveFit" "logarithmic" "D" (.double p3) ∧ Fld Z h' a "com/example/poll3/poll3/model/CurveFit" "exponential" "D" (.double p4)) := by
  refine OMet.of (own := "com/example/poll3/poll3/model/CurveFit") (nm := "<init>") (plainFor_of_name pn_6) rfl rfl ?_
  intro p e s m below meth c T0 P0 hby hml hret hnm
  refine Done.step (T' := T0) (g' := (mkF m 0 #[.val (.ref a), .val (.ref p0), .val (.ref p1), .val (.double p2), .second, .val (.double p3), .second, .val (.double p4), .second] [])) (fun t kk => castTop (ef_cfInit m a p0 p1 p2 p3 p4) kk) ?_
  refine Done.stepL (pc' := 1) (st' := [(.ref a)]) (fun t kk => ?_) ?_
  · show Steps p.tables e below (T0.setTop (mkF m 0 _ [])) t
    refine XS.aloadN P0.here P0.x rfl (hb hby d_cfInit_0) rfl rfl ?_
    exact kk
  refine wCallI P0 (m_rec l Z a0 hw hs a h0) rfl (tw43 hw) (tw44 hw) (tw46 hw) (tw47 hw) (by decide) (a := a) (by rw [hml]; rfl) (lenOf pd_4 rfl) (argsL := []) (rest := []) rfl rfl (W := 0) (Nat.le_of_eq rfl) (by decide) (by decide) (by decide) (by decide) (by simp) (hb hby d_cfInit_1) rfl (k' := 0) (n' := 0) rfl rfl ?_
  rintro T1 _ _ P2 - ⟨rfl, rfl⟩
  show Done _ _ _ _ _ _ _ _ _ _ _ _ _ _ _ T1 (mkF m 4 _ [])
  refine Done.stepL (pc' := 6) (st' := [(.ref p0), (.ref a)]) (fun t kk => ?_) ?_
  · show Steps p.tables e below (T1.setTop (mkF m 4 _ [])) t
    refine XS.aloadN P2.here P2.x rfl (hb hby d_cfInit_4) rfl rfl ?_
    show Steps p.tables e below (T1.setTop (mkF m 5 _ [(.ref a)])) t
    refine XS.aloadN P2.here P2.x rfl (hb hby d_cfInit_5) rfl rfl ?_
    exact kk
  refine wPut P2 (host := "") (Or.inl (tw49 hw)) Via.refl F_server E0 (Or.inr ⟨(tw50 hw), rfl, hnm⟩) (tw35 hw) (ty := (.object "java/lang/String")) (by decide) rfl rfl (Or.inl (by simp)) (hb hby d_cfInit_6) rfl (fun T3 h5 P4 W6 F7 => ?_)
  have szh5 : h5.size = h0.size := W6.size
  show Done _ _ _ _ _ _ _ _ _ _ _ _ _ _ _ T3 (mkF m 9 _ [])
  refine Done.stepL (pc' := 11) (st' := [(.ref p1), (.ref a)]) (fun t kk => ?_) ?_
  · show Steps p.tables e below (T3.setTop (mkF m 9 _ [])) t
    refine XS.aloadN P4.here P4.x rfl (hb hby d_cfInit_9) rfl rfl ?_
    show Steps p.tables e below (T3.setTop (mkF m 10 _ [(.ref a)])) t
    refine XS.aloadN P4.here P4.x rfl (hb hby d_cfInit_10) rfl rfl ?_
    exact kk
  have f8 := (F_kept.other W6 (Or.inr (slot_ne (Or.inr (tw52 hw)) (Or.inr (tw50 hw)) (by decide) (t := (.object "com/example/poll3/poll3/model/CurveFit$Curve")) (t' := (.object "java/lang/String")) (by decide) (by decide))))
  have f9 := (E0.wr W6)
  refine wPut P4 (host := "") (Or.inl (tw51 hw)) Via.refl f8 f9 (Or.inr ⟨(tw52 hw), rfl, hnm⟩) (tw35 hw) (ty := (.object "com/example/poll3/poll3/model/CurveFit$Curve")) (by decide) rfl rfl (Or.inl (by simp)) (hb hby d_cfInit_11) rfl (fun T10 h12 P11 W13 F14 => ?_)
  have szh12 : h12.size = h5.size := W13.size
  show Done _ _ _ _ _ _ _ _ _ _ _ _ _ _ _ T10 (mkF m 14 _ [])
  refine Done.stepL (pc' := 16) (st' := [(.double p2), (.ref a)]) (fun t kk => ?_) ?_
  · show Steps p.tables e below (T10.setTop (mkF m 14 _ [])) t
    refine XS.aloadN P11.here P11.x rfl (hb hby d_cfInit_14) rfl rfl ?_
    show Steps p.tables e below (T10.setTop (mkF m 15 _ [(.ref a)])) t
    refine XS.dloadN P11.here P11.x rfl (hb hby d_cfInit_15) rfl ?_
    exact kk
  have f15 := ((F_linear.other W6 (Or.inr (slot_ne (Or.inr (tw54 hw)) (Or.inr (tw50 hw)) (by decide) (t := .double) (t' := (.object "java/lang/String")) (by decide) (by decide)))).other W13 (Or.inr (slot_ne (Or.inr (tw54 hw)) (Or.inr (tw52 hw)) (by decide) (t := .double) (t' := (.object "com/example/poll3/poll3/model/CurveFit$Curve")) (by decide) (by decide))))
  have f16 := (f9.wr W13)
  refine wPut P11 (host := "") (Or.inl (tw53 hw)) Via.refl f15 f16 (Or.inr ⟨(tw54 hw), rfl, hnm⟩) (tw35 hw) (ty := .double) (by decide) rfl rfl (Or.inl (by simp)) (hb hby d_cfInit_16) rfl (fun T17 h19 P18 W20 F21 => ?_)
  have szh19 : h19.size = h12.size := W20.size
  show Done _ _ _ _ _ _ _ _ _ _ _ _ _ _ _ T17 (mkF m 19 _ [])
  refine Done.stepL (pc' := 22) (st' := [(.double p3), (.ref a)]) (fun t kk => ?_) ?_
  · show Steps p.tables e below (T17.setTop (mkF m 19 _ [])) t
    refine XS.aloadN P18.here P18.x rfl (hb hby d_cfInit_19) rfl rfl ?_
    show Steps p.tables e below (T17.setTop (mkF m 20 _ [(.ref a)])) t
    refine XS.dload P18.here P18.x rfl (hb hby d_cfInit_20) rfl ?_
    exact kk
  have f22 := (((F_logarithmic.other W6 (Or.inr (slot_ne (Or.inr (tw56 hw)) (Or.inr (tw50 hw)) (by decide) (t := .double) (t' := (.object "java/lang/String")) (by decide) (by decide)))).other W13 (Or.inr (slot_ne (Or.inr (tw56 hw)) (Or.inr (tw52 hw)) (by decide) (t := .double) (t' := (.object "com/example/poll3/poll3/model/CurveFit$Curve")) (by decide) (by decide)))).other W20 (Or.inr (slot_ne (Or.inr (tw56 hw)) (Or.inr (tw54 hw)) (by decide) (t := .double) (t' := .double) (by decide) (by decide))))
  have f23 := (f16.wr W20)
  refine wPut P18 (host := "") (Or.inl (tw55 hw)) Via.refl f22 f23 (Or.inr ⟨(tw56 hw), rfl, hnm⟩) (tw35 hw) (ty := .double) (by decide) rfl rfl (Or.inl (by simp)) (hb hby d_cfInit_22) rfl (fun T24 h26 P25 W27 F28 => ?_)
  have szh26 : h26.size = h19.size := W27.size
  show Done _ _ _ _ _ _ _ _ _ _ _ _ _ _ _ T24 (mkF m 25 _ [])
  refine Done.stepL (pc' := 28) (st' := [(.double p4), (.ref a)]) (fun t kk => ?_) ?_
  · show Steps p.tables e below (T24.setTop (mkF m 25 _ [])) t
    refine XS.aloadN P25.here P25.x rfl (hb hby d_cfInit_25) rfl rfl ?_
    show Steps p.tables e below (T24.setTop (mkF m 26 _ [(.ref a)])) t
    refine XS.dload P25.here P25.x rfl (hb hby d_cfInit_26) rfl ?_
    exact kk
  have f29 := ((((F_exponential.other W6 (Or.inr (slot_ne (Or.inr (tw58 hw)) (Or.inr (tw50 hw)) (by decide) (t := .double) (t' := (.object "java/lang/String")) (by decide) (by decide)))).other W13 (Or.inr (slot_ne (Or.inr (tw58 hw)) (Or.inr (tw52 hw)) (by decide) (t := .double) (t' := (.object "com/example/poll3/poll3/model/CurveFit$Curve")) (by decide) (by decide)))).other W20 (Or.inr (slot_ne (Or.inr (tw58 hw)) (Or.inr (tw54 hw)) (by decide) (t := .double) (t' := .double) (by decide) (by decide)))).other W27 (Or.inr (slot_ne (Or.inr (tw58 hw)) (Or.inr (tw56 hw)) (by decide) (t := .double) (t' := .double) (by decide) (by decide))))
  have f30 := (f23.wr W27)
  refine wPut P25 (host := "") (Or.inl (tw57 hw)) Via.refl f29 f30 (Or.inr ⟨(tw58 hw), rfl, hnm⟩) (tw35 hw) (ty := .double) (by decide) rfl rfl (Or.inl (by simp)) (hb hby d_cfInit_28) rfl (fun T31 h33 P32 W34 F35 => ?_)
  have szh33 : h33.size = h26.size := W34.size
  show Done _ _ _ _ _ _ _ _ _ _ _ _ _ _ _ T31 (mkF m 31 _ [])
  have f36 := ((((F7.other W13 (Or.inr (slot_ne (Or.inr (tw50 hw)) (Or.inr (tw52 hw)) (by decide) (t := (.object "java/lang/String")) (t' := (.object "com/example/poll3/poll3/model/CurveFit$Curve")) (by decide) (by decide)))).other W20 (Or.inr (slot_ne (Or.inr (tw50 hw)) (Or.inr (tw54 hw)) (by decide) (t := (.object "java/lang/String")) (t' := .double) (by decide) (by decide)))).other W27 (Or.inr (slot_ne (Or.inr (tw50 hw)) (Or.inr (tw56 hw)) (by decide) (t := (.object "java/lang/String")) (t' := .double) (by decide) (by decide)))).other W34 (Or.inr (slot_ne (Or.inr (tw50 hw)) (Or.inr (tw58 hw)) (by decide) (t := (.object "java/lang/String")) (t' := .double) (by decide) (by decide))))
  have f37 := (((F14.other W20 (Or.inr (slot_ne (Or.inr (tw52 hw)) (Or.inr (tw54 hw)) (by decide) (t := (.object "com/example/poll3/poll3/model/CurveFit$Curve")) (t' := .double) (by decide) (by decide)))).other W27 (Or.inr (slot_ne (Or.inr (tw52 hw)) (Or.inr (tw56 hw)) (by decide) (t := (.object "com/example/poll3/poll3/model/CurveFit$Curve")) (t' := .double) (by decide) (by decide)))).other W34 (Or.inr (slot_ne (Or.inr (tw52 hw)) (Or.inr (tw58 hw)) (by decide) (t := (.object "com/example/poll3/poll3/model/CurveFit$Curve")) (t' := .double) (by decide) (by decide))))
  have f38 := ((F21.other W27 (Or.inr (slot_ne (Or.inr (tw54 hw)) (Or.inr (tw56 hw)) (by decide) (t := .double) (t' := .double) (by decide) (by decide)))).other W34 (Or.inr (slot_ne (Or.inr (tw54 hw)) (Or.inr (tw58 hw)) (by decide) (t := .double) (t' := .double) (by decide) (by decide))))
  have f39 := (F28.other W34 (Or.inr (slot_ne (Or.inr (tw56 hw)) (Or.inr (tw58 hw)) (by decide) (t := .double) (t' := .double) (by decide) (by decide))))
  exact wRetV P32 hret (hb hby d_cfInit_31) ⟨rfl, f36, f37, f38, f39, F35⟩
theorem ef_none (m : MethodId) (x0 : Addr) : entryFrame m #[(.ref x0)] 1 = mkF m 0 #[.val (.ref x0)] [] := by first | (simp [entryFrame, mkF, argsToLocals, Value.category]; done) | rfl
theorem d_none_0 : decode prog_30_method_2_code 0 = .ok (.new 8, 3) := by decide +kernel
theorem d_none_3 : decode prog_30_method_2_code 3 = .ok (.dup, 1) := by decide +kernel
theorem d_none_4 : decode prog_30_method_2_code 4 = .ok (.aload_n 0, 1) := by decide +kernel
theorem d_none_5 : decode prog_30_method_2_code 5 = .ok (.getstatic 27, 3) := by decide +kernel
theorem d_none_8 : decode prog_30_method_2_code 8 = .ok (.ldc2_w 34, 3) := by decide +kernel
theorem d_none_11 : decode prog_30_method_2_code 11 = .ok (.ldc2_w 34, 3) := by decide +kernel
theorem d_none_14 : decode prog_30_method_2_code 14 = .ok (.ldc2_w 34, 3) := by decide +kernel
theorem d_none_17 : decode prog_30_method_2_code 17 = .ok (.invokespecial 36, 3) := by decide +kernel
theorem d_none_20 : decode prog_30_method_2_code 20 = .ok (.areturn, 1) := by decide +kernel
set_option maxRecDepth 65536 in
set_option maxHeartbeats 4000000 in
theorem m_none (l : Launch) (Z : State) (a0 : Array Value) (hw : ∀ d ∈ tables_1, d.before a0 Z = true) (hs : ∀ d ∈ jdkStatics_1, d.before a0 Z = true) (p0 nb : Addr) (h0 : Heap) (S1 : Sta Z h0 "com/example/poll3/poll3/model/CurveFit$Curve" "NONE" "Lcom/example/poll3/poll3/model/CurveFit$Curve;" (.ref nb)) :
    OMet l (⟨"com/example/poll3/poll3/model/CurveFit", "none", "(Ljava/lang/String;)Lcom/example/poll3/poll3/model/CurveFit;"⟩ : MethodName) prog_30_method_2_code 1 (Option.some (FieldType.object "com/example/poll3/poll3/model/CurveFit")) [] ({ frames := 3, cells := 1, slots := 5, locals := 45 } : Room) Z h0 [] #[(.ref p0)] (fun v h' => ∃ b : Addr, v = some (.ref b) ∧ Exa Z h' b "com/example/poll3/poll3/model/CurveFit" ∧ Fld Z h' b "com/example/poll3/poll3/model/CurveFit" "server" "Ljava/lang/String;" (.ref p0) ∧ Fld Z h' b "com/example/poll3/poll3/model/CurveFit" "kept" "Lcom/example/poll3/poll3/model/CurveFit$Curve;" (.ref nb) ∧ Fld Z h' b "com/example/poll3/poll3/model/CurveFit" "linear" "D" (.double (9221120237041090560 : UInt64)) ∧ Fld Z h' b "com/example/poll3/poll3/model/CurveFit" "logarithmic" "D" (.double (9221120237041090560 : UInt64)) ∧ Fld Z h' b "com/example/poll3/poll3/model/CurveFit" "exponential" "D" (.double (9221120237041090560 : UInt64))) := by
  refine OMet.of (own := "com/example/poll3/poll3/model/CurveFit") (nm := "none") (plainFor_of_name pn_6) rfl rfl ?_
  intro p e s m below meth c T0 P0 hby hml hret hnm
  refine Done.step (T' := T0) (g' := (mkF m 0 #[.val (.ref p0)] [])) (fun t kk => castTop (ef_none m p0) kk) ?_
  show Done _ _ _ _ _ _ _ _ _ _ _ _ _ _ _ T0 (mkF m 0 _ [])
  refine wNew P0 (tw34 hw) (tw35 hw) (tw32 hw) (hb hby d_none_0) rfl (by decide) (by decide) (k' := 1) (n' := 5) rfl rfl (fun T1 h3 b4 g5 lt6 P2 E7 X8 D9 => ?_)
  have ge_b4 : h0.size ≤ b4 := by have := P0.ge; omega
  have F10 : Fld Z h3 b4 "com/example/poll3/poll3/model/CurveFit" "server" "Ljava/lang/String;" .null := D9 (Or.inr (tw50 hw)) (ty := (.object "java/lang/String")) (by decide)
  have F11 : Fld Z h3 b4 "com/example/poll3/poll3/model/CurveFit" "kept" "Lcom/example/poll3/poll3/model/CurveFit$Curve;" .null := D9 (Or.inr (tw52 hw)) (ty := (.object "com/example/poll3/poll3/model/CurveFit$Curve")) (by decide)
  have F12 : Fld Z h3 b4 "com/example/poll3/poll3/model/CurveFit" "linear" "D" (.double (0 : UInt64)) := D9 (Or.inr (tw54 hw)) (ty := .double) (by decide)
  have F13 : Fld Z h3 b4 "com/example/poll3/poll3/model/CurveFit" "logarithmic" "D" (.double (0 : UInt64)) := D9 (Or.inr (tw56 hw)) (ty := .double) (by decide)
  have F14 : Fld Z h3 b4 "com/example/poll3/poll3/model/CurveFit" "exponential" "D" (.double (0 : UInt64)) := D9 (Or.inr (tw58 hw)) (ty := .double) (by decide)
  show Done _ _ _ _ _ _ _ _ _ _ _ _ _ _ _ T1 (mkF m 3 _ [(.ref b4)])
  refine Done.stepL (pc' := 5) (st' := [(.ref p0), (.ref b4), (.ref b4)]) (fun t kk => ?_) ?_
  · show Steps p.tables e below (T1.setTop (mkF m 3 _ [(.ref b4)])) t
    refine XS.dup P2.here P2.x rfl (hb hby d_none_3) rfl rfl ?_
    show Steps p.tables e below (T1.setTop (mkF m 4 _ [(.ref b4), (.ref b4)])) t
    refine XS.aloadN P2.here P2.x rfl (hb hby d_none_4) rfl rfl ?_
    exact kk
  have f15 := (S1.ext E7)
  refine wGetS P2 (host := "") (Or.inl (tw36 hw)) Via.refl f15 (hb hby d_none_5) rfl (fun T16 P17 => ?_)
  show Done _ _ _ _ _ _ _ _ _ _ _ _ _ _ _ T16 (mkF m 8 _ [(.ref nb), (.ref p0), (.ref b4), (.ref b4)])
  refine Done.stepL (pc' := 17) (st' := [(.double (9221120237041090560 : UInt64)), (.double (9221120237041090560 : UInt64)), (.double (9221120237041090560 : UInt64)), (.ref nb), (.ref p0), (.ref b4), (.ref b4)]) (fun t kk => ?_) ?_
  · show Steps p.tables e below (T16.setTop (mkF m 8 _ [(.ref nb), (.ref p0), (.ref b4), (.ref b4)])) t
    refine pLdcD P17 (tw39 hw) (hb hby d_none_8) rfl ?_
    show Steps p.tables e below (T16.setTop (mkF m 11 _ [(.double (9221120237041090560 : UInt64)), (.ref nb), (.ref p0), (.ref b4), (.ref b4)])) t
    refine pLdcD P17 (tw39 hw) (hb hby d_none_11) rfl ?_
    show Steps p.tables e below (T16.setTop (mkF m 14 _ [(.double (9221120237041090560 : UInt64)), (.double (9221120237041090560 : UInt64)), (.ref nb), (.ref p0), (.ref b4), (.ref b4)])) t
    refine pLdcD P17 (tw39 hw) (hb hby d_none_14) rfl ?_
    exact kk
  refine wCallI P17 (m_cfInit l Z a0 hw hs b4 p0 nb (9221120237041090560 : UInt64) (9221120237041090560 : UInt64) (9221120237041090560 : UInt64) h3 X8  F10 F11 F12 F13 F14) rfl (tw40 hw) (tw41 hw) (tw32 hw) (tw42 hw) (by decide) (a := b4) (by rw [hml]; rfl) (lenOf pd_5 rfl) (argsL := [(.ref p0), (.ref nb), (.double (9221120237041090560 : UInt64)), (.double (9221120237041090560 : UInt64)), (.double (9221120237041090560 : UInt64))]) (rest := [(.ref b4)]) rfl rfl (W := 1) (Nat.le_of_eq rfl) (by decide) (by decide) (by decide) (by decide) (allS (Or.inr ge_b4) all0) (hb hby d_none_17) rfl (k' := 1) (n' := 5) rfl rfl ?_
  rintro T18 h25 _ P19 K26 ⟨rfl, F20, F21, F22, F23, F24⟩
  have szh25 : h3.size ≤ h25.size := K26.1
  show Done _ _ _ _ _ _ _ _ _ _ _ _ _ _ _ T18 (mkF m 20 _ [(.ref b4)])
  have f27 := (X8.keep K26)
  exact wRetA P19 hret rfl rfl (hb hby d_none_20) ⟨b4, rfl, f27, F20, F21, F22, F23, F24⟩
theorem ef_g_server (m : MethodId) (x0 : Addr) : entryFrame m #[(.ref x0)] 1 = mkF m 0 #[.val (.ref x0)] [] := by first | (simp [entryFrame, mkF, argsToLocals, Value.category]; done) | rfl
theorem d_g_server_0 : decode prog_30_method_6_code 0 = .ok (.aload_n 0, 1) := by decide +kernel
theorem d_g_server_1 : decode prog_30_method_6_code 1 = .ok (.getfield 7, 3) := by decide +kernel
theorem d_g_server_4 : decode prog_30_method_6_code 4 = .ok (.areturn, 1) := by decide +kernel
set_option maxRecDepth 65536 in
set_option maxHeartbeats 4000000 in
theorem m_g_server (l : Launch) (Z : State) (a0 : Array Value) (hw : ∀ d ∈ tables_1, d.before a0 Z = true) (hs : ∀ d ∈ jdkStatics_1, d.before a0 Z = true) (a : Addr) (w : Addr) (h0 : Heap) (F0 : Fld Z h0 a "com/example/poll3/poll3/model/CurveFit" "server" "Ljava/lang/String;" (.ref w)) :
    OMet l (⟨"com/example/poll3/poll3/model/CurveFit", "server", "()Ljava/lang/String;"⟩ : MethodName) prog_30_method_6_code 1 (Option.some (FieldType.object "java/lang/String")) [] ({ frames := 0, cells := 0, slots := 0, locals := 0 } : Room) Z h0 [] #[(.ref a)] (fun v h' => v = some (.ref w) ∧ h0 = h') := by
  refine OMet.of (own := "com/example/poll3/poll3/model/CurveFit") (nm := "server") (plainFor_of_name pn_6) rfl rfl ?_
  intro p e s m below meth c T0 P0 hby hml hret hnm
  refine Done.step (T' := T0) (g' := (mkF m 0 #[.val (.ref a)] [])) (fun t kk => castTop (ef_g_server m a) kk) ?_
  refine Done.stepL (pc' := 1) (st' := [(.ref a)]) (fun t kk => ?_) ?_
  · show Steps p.tables e below (T0.setTop (mkF m 0 _ [])) t
    refine XS.aloadN P0.here P0.x rfl (hb hby d_g_server_0) rfl rfl ?_
    exact kk
  refine wGet P0 (host := "") (Or.inl (tw49 hw)) Via.refl F0 (hb hby d_g_server_1) rfl (fun T1 P2 => ?_)
  show Done _ _ _ _ _ _ _ _ _ _ _ _ _ _ _ T1 (mkF m 4 _ [(.ref w)])
  exact wRetA P2 hret rfl rfl (hb hby d_g_server_4) ⟨rfl, rfl⟩
theorem ef_g_kept (m : MethodId) (x0 : Addr) : entryFrame m #[(.ref x0)] 1 = mkF m 0 #[.val (.ref x0)] [] := by first | (simp [entryFrame, mkF, argsToLocals, Value.category]; done) | rfl
theorem d_g_kept_0 : decode prog_30_method_7_code 0 = .ok (.aload_n 0, 1) := by decide +kernel
theorem d_g_kept_1 : decode prog_30_method_7_code 1 = .ok (.getfield 13, 3) := by decide +kernel
theorem d_g_kept_4 : decode prog_30_method_7_code 4 = .ok (.areturn, 1) := by decide +kernel
set_option maxRecDepth 65536 in
set_option maxHeartbeats 4000000 in
theorem m_g_kept (l : Launch) (Z : State) (a0 : Array Value) (hw : ∀ d ∈ tables_1, d.before a0 Z = true) (hs : ∀ d ∈ jdkStatics_1, d.before a0 Z = true) (a : Addr) (w : Addr) (h0 : Heap) (F0 : Fld Z h0 a "com/example/poll3/poll3/model/CurveFit" "kept" "Lcom/example/poll3/poll3/model/CurveFit$Curve;" (.ref w)) :
    OMet l (⟨"com/example/poll3/poll3/model/CurveFit", "kept", "()Lcom/example/poll3/poll3/model/CurveFit$Curve;"⟩ : MethodName) prog_30_method_7_code 1 (Option.some (FieldType.object "com/example/poll3/poll3/model/CurveFit$Curve")) [] ({ frames := 0, cells := 0, slots := 0, locals := 0 } : Room) Z h0 [] #[(.ref a)] (fun v h' => v = some (.ref w) ∧ h0 = h') := by
  refine OMet.of (own := "com/example/poll3/poll3/model/CurveFit") (nm := "kept") (plainFor_of_name pn_6) rfl rfl ?_
  intro p e s m below meth c T0 P0 hby hml hret hnm
  refine Done.step (T' := T0) (g' := (mkF m 0 #[.val (.ref a)] [])) (fun t kk => castTop (ef_g_kept m a) kk) ?_
  refine Done.stepL (pc' := 1) (st' := [(.ref a)]) (fun t kk => ?_) ?_
  · show Steps p.tables e below (T0.setTop (mkF m 0 _ [])) t
    refine XS.aloadN P0.here P0.x rfl (hb hby d_g_kept_0) rfl rfl ?_
    exact kk
  refine wGet P0 (host := "") (Or.inl (tw51 hw)) Via.refl F0 (hb hby d_g_kept_1) rfl (fun T1 P2 => ?_)
  show Done _ _ _ _ _ _ _ _ _ _ _ _ _ _ _ T1 (mkF m 4 _ [(.ref w)])
  exact wRetA P2 hret rfl rfl (hb hby d_g_kept_4) ⟨rfl, rfl⟩
theorem ef_g_linear (m : MethodId) (x0 : Addr) : entryFrame m #[(.ref x0)] 1 = mkF m 0 #[.val (.ref x0)] [] := by first | (simp [entryFrame, mkF, argsToLocals, Value.category]; done) | rfl
theorem d_g_linear_0 : decode prog_30_method_8_code 0 = .ok (.aload_n 0, 1) := by decide +kernel
theorem d_g_linear_1 : decode prog_30_method_8_code 1 = .ok (.getfield 17, 3) := by decide +kernel
theorem d_g_linear_4 : decode prog_30_method_8_code 4 = .ok (.dreturn, 1) := by decide +kernel
set_option maxRecDepth 65536 in
set_option maxHeartbeats 4000000 in
theorem m_g_linear (l : Launch) (Z : State) (a0 : Array Value) (hw : ∀ d ∈ tables_1, d.before a0 Z = true) (hs : ∀ d ∈ jdkStatics_1, d.before a0 Z = true) (a : Addr) (w : UInt64) (h0 : Heap) (F0 : Fld Z h0 a "com/example/poll3/poll3/model/CurveFit" "linear" "D" (.double w)) :
    OMet l (⟨"com/example/poll3/poll3/model/CurveFit", "linear", "()D"⟩ : MethodName) prog_30_method_8_code 1 (Option.some FieldType.double) [] ({ frames := 0, cells := 0, slots := 0, locals := 0 } : Room) Z h0 [] #[(.ref a)] (fun v h' => v = some (.double w) ∧ h0 = h') := by
  refine OMet.of (own := "com/example/poll3/poll3/model/CurveFit") (nm := "linear") (plainFor_of_name pn_6) rfl rfl ?_
  intro p e s m below meth c T0 P0 hby hml hret hnm
  refine Done.step (T' := T0) (g' := (mkF m 0 #[.val (.ref a)] [])) (fun t kk => castTop (ef_g_linear m a) kk) ?_
  refine Done.stepL (pc' := 1) (st' := [(.ref a)]) (fun t kk => ?_) ?_
  · show Steps p.tables e below (T0.setTop (mkF m 0 _ [])) t
    refine XS.aloadN P0.here P0.x rfl (hb hby d_g_linear_0) rfl rfl ?_
    exact kk
  refine wGet P0 (host := "") (Or.inl (tw53 hw)) Via.refl F0 (hb hby d_g_linear_1) rfl (fun T1 P2 => ?_)
  show Done _ _ _ _ _ _ _ _ _ _ _ _ _ _ _ T1 (mkF m 4 _ [(.double w)])
  exact wRetD P2 hret (hb hby d_g_linear_4) ⟨rfl, rfl⟩
theorem ef_g_logarithmic (m : MethodId) (x0 : Addr) : entryFrame m #[(.ref x0)] 1 = mkF m 0 #[.val (.ref x0)] [] := by first | (simp [entryFrame, mkF, argsToLocals, Value.category]; done) | rfl
theorem d_g_logarithmic_0 : decode prog_30_method_9_code 0 = .ok (.aload_n 0, 1) := by decide +kernel
theorem d_g_logarithmic_1 : decode prog_30_method_9_code 1 = .ok (.getfield 21, 3) := by decide +kernel
theorem d_g_logarithmic_4 : decode prog_30_method_9_code 4 = .ok (.dreturn, 1) := by decide +kernel
set_option maxRecDepth 65536 in
set_option maxHeartbeats 4000000 in
theorem m_g_logarithmic (l : Launch) (Z : State) (a0 : Array Value) (hw : ∀ d ∈ tables_1, d.before a0 Z = true) (hs : ∀ d ∈ jdkStatics_1, d.before a0 Z = true) (a : Addr) (w : UInt64) (h0 : Heap) (F0 : Fld Z h0 a "com/example/poll3/poll3/model/CurveFit" "logarithmic" "D" (.double w)) :
    OMet l (⟨"com/example/poll3/poll3/model/CurveFit", "logarithmic", "()D"⟩ : MethodName) prog_30_method_9_code 1 (Option.some FieldType.double) [] ({ frames := 0, cells := 0, slots := 0, locals := 0 } : Room) Z h0 [] #[(.ref a)] (fun v h' => v = some (.double w) ∧ h0 = h') := by
  refine OMet.of (own := "com/example/poll3/poll3/model/CurveFit") (nm := "logarithmic") (plainFor_of_name pn_6) rfl rfl ?_
  intro p e s m below meth c T0 P0 hby hml hret hnm
  refine Done.step (T' := T0) (g' := (mkF m 0 #[.val (.ref a)] [])) (fun t kk => castTop (ef_g_logarithmic m a) kk) ?_
  refine Done.stepL (pc' := 1) (st' := [(.ref a)]) (fun t kk => ?_) ?_
  · show Steps p.tables e below (T0.setTop (mkF m 0 _ [])) t
    refine XS.aloadN P0.here P0.x rfl (hb hby d_g_logarithmic_0) rfl rfl ?_
    exact kk
  refine wGet P0 (host := "") (Or.inl (tw55 hw)) Via.refl F0 (hb hby d_g_logarithmic_1) rfl (fun T1 P2 => ?_)
  show Done _ _ _ _ _ _ _ _ _ _ _ _ _ _ _ T1 (mkF m 4 _ [(.double w)])
  exact wRetD P2 hret (hb hby d_g_logarithmic_4) ⟨rfl, rfl⟩
theorem ef_g_exponential (m : MethodId) (x0 : Addr) : entryFrame m #[(.ref x0)] 1 = mkF m 0 #[.val (.ref x0)] [] := by first | (simp [entryFrame, mkF, argsToLocals, Value.category]; done) | rfl
theorem d_g_exponential_0 : decode prog_30_method_10_code 0 = .ok (.aload_n 0, 1) := by decide +kernel
theorem d_g_exponential_1 : decode prog_30_method_10_code 1 = .ok (.getfield 24, 3) := by decide +kernel
theorem d_g_exponential_4 : decode prog_30_method_10_code 4 = .ok (.dreturn, 1) := by decide +kernel
set_option maxRecDepth 65536 in
set_option maxHeartbeats 4000000 in
theorem m_g_exponential (l : Launch) (Z : State) (a0 : Array Value) (hw : ∀ d ∈ tables_1, d.before a0 Z = true) (hs : ∀ d ∈ jdkStatics_1, d.before a0 Z = true) (a : Addr) (w : UInt64) (h0 : Heap) (F0 : Fld Z h0 a "com/example/poll3/poll3/model/CurveFit" "exponential" "D" (.double w)) :
    OMet l (⟨"com/example/poll3/poll3/model/CurveFit", "exponential", "()D"⟩ : MethodName) prog_30_method_10_code 1 (Option.some FieldType.double) [] ({ frames := 0, cells := 0, slots := 0, locals := 0 } : Room) Z h0 [] #[(.ref a)] (fun v h' => v = some (.double w) ∧ h0 = h') := by
  refine OMet.of (own := "com/example/poll3/poll3/model/CurveFit") (nm := "exponential") (plainFor_of_name pn_6) rfl rfl ?_
  intro p e s m below meth c T0 P0 hby hml hret hnm
  refine Done.step (T' := T0) (g' := (mkF m 0 #[.val (.ref a)] [])) (fun t kk => castTop (ef_g_exponential m a) kk) ?_
  refine Done.stepL (pc' := 1) (st' := [(.ref a)]) (fun t kk => ?_) ?_
  · show Steps p.tables e below (T0.setTop (mkF m 0 _ [])) t
    refine XS.aloadN P0.here P0.x rfl (hb hby d_g_exponential_0) rfl rfl ?_
    exact kk
  refine wGet P0 (host := "") (Or.inl (tw57 hw)) Via.refl F0 (hb hby d_g_exponential_1) rfl (fun T1 P2 => ?_)
  show Done _ _ _ _ _ _ _ _ _ _ _ _ _ _ _ T1 (mkF m 4 _ [(.double w)])
  exact wRetD P2 hret (hb hby d_g_exponential_4) ⟨rfl, rfl⟩
theorem ef_eqs (m : MethodId) (x0 : Addr) (x1 : Addr) : entryFrame m #[(.ref x0), (.ref x1)] 3 = mkF m 0 #[.val (.ref x0), .val (.ref x1), .unset] [] := by first | (simp [entryFrame, mkF, argsToLocals, Value.category]; done) | rfl
theorem d_eqs_0 : decode jdk_42_method_66_code 0 = .ok (.aload_n 0, 1) := by decide +kernel
theorem d_eqs_1 : decode jdk_42_method_66_code 1 = .ok (.aload_n 1, 1) := by decide +kernel
theorem d_eqs_2 : decode jdk_42_method_66_code 2 = .ok (.if_acmp .ne 5, 3) := by decide +kernel
theorem d_eqs_5 : decode jdk_42_method_66_code 5 = .ok (.iconst 1, 1) := by decide +kernel
theorem d_eqs_6 : decode jdk_42_method_66_code 6 = .ok (.ireturn, 1) := by decide +kernel
set_option maxRecDepth 65536 in
set_option maxHeartbeats 4000000 in
theorem m_eqs (l : Launch) (Z : State) (a0 : Array Value) (hw : ∀ d ∈ tables_1, d.before a0 Z = true) (hs : ∀ d ∈ jdkStatics_1, d.before a0 Z = true) (a : Addr) (h0 : Heap)  :
    OMet l (⟨"java/lang/String", "equals", "(Ljava/lang/Object;)Z"⟩ : MethodName) jdk_42_method_66_code 3 (Option.some FieldType.boolean) [] ({ frames := 0, cells := 0, slots := 0, locals := 0 } : Room) Z h0 [] #[(.ref a), (.ref a)] (fun v h' => v = some (.int 1) ∧ h0 = h') := by
  refine OMet.of (own := "java/lang/String") (nm := "equals") pn_7 rfl rfl ?_
  intro p e s m below meth c T0 P0 hby hml hret hnm
  refine Done.step (T' := T0) (g' := (mkF m 0 #[.val (.ref a), .val (.ref a), .unset] [])) (fun t kk => castTop (ef_eqs m a a) kk) ?_
  refine Done.stepL (pc' := 6) (st' := [(.int (1 : Int32))]) (fun t kk => ?_) ?_
  · show Steps p.tables e below (T0.setTop (mkF m 0 _ [])) t
    refine XS.aloadN P0.here P0.x rfl (hb hby d_eqs_0) rfl rfl ?_
    show Steps p.tables e below (T0.setTop (mkF m 1 _ [(.ref a)])) t
    refine XS.aloadN P0.here P0.x rfl (hb hby d_eqs_1) rfl rfl ?_
    show Steps p.tables e below (T0.setTop (mkF m 2 _ [(.ref a), (.ref a)])) t
    refine pAcmp P0 rfl rfl (pc0 := 2) (pc' := 5) (same := true) rfl (hb hby d_eqs_2) rfl (decide_eq_true rfl) (by decide) (by decide) ?_
    show Steps p.tables e below (T0.setTop (mkF m 5 _ [])) t
    refine XS.iconst P0.here P0.x rfl (hb hby d_eqs_5) ?_
    exact kk
  exact wRet P0 (t := .boolean) hret (narrow_01 (Or.inr rfl)) (Or.inl ⟨rfl, Or.inr (Or.inl rfl), _, rfl⟩) (hb hby d_eqs_6) ⟨rfl, rfl⟩
theorem ef_law (m : MethodId) (x0 : Int32) (x1 : Int32) (x2 : Int32) (x3 : Int32) : entryFrame m #[(.int x0), (.int x1), (.int x2), (.int x3)] maxLocals = mkF m 0 #[.val (.int x0), .val (.int x1), .val (.int x2), .val (.int x3), .unset, .unset, .unset, .unset, .unset, .unset, .unset, .unset, .unset, .unset, .unset, .unset, .unset, .unset, .unset, .unset] [] := by first | (simp [entryFrame, mkF, argsToLocals, Value.category, maxLocals]; done) | rfl
set_option maxRecDepth 65536 in
set_option maxHeartbeats 4000000 in
theorem m_law (l : Launch) (Z : State) (a0 : Array Value) (hw : ∀ d ∈ tables_1, d.before a0 Z = true) (hs : ∀ d ∈ jdkStatics_1, d.before a0 Z = true) (p0 p1 p2 p3 : Int32) (nb : Addr) (cs : Int32) (h0 : Heap) (S1 : Sta Z h0 "com/example/poll3/poll3/model/CurveFit$Curve" "NONE" "Lcom/example/poll3/poll3/model/CurveFit$Curve;" (.ref nb)) (S0 : Sta Z h0 "java/lang/String" "COMPACT_STRINGS" "Z" (.int cs)) (hcs : ¬ (cs = (0 : Int32))) (hk0 : OwnY.Kept Z h0) (hh : Jvm.Lit.constHeld Z "java/lang/String" 7) (hcw : Jvm.Lit.compactW.before a0 Z = true) :
    OwnY.OMet l x code maxLocals ret tables_1 room_1 Z h0 [] #[(.int p0), (.int p1), (.int p2), (.int p3)] (fun v h' => v = some (.int 1)) := by
  refine OwnY.OMet.of (own := "com/example/poll3/poll3/model/CurveFitNonePinLaw") (nm := "law") (plainFor_of_name pn_8) rfl rfl ?_
  intro p e s m below meth c T0 P0 hby hml hret hnm
  refine OwnX.Done.step (T' := T0) (g' := (mkF m 0 #[.val (.int p0), .val (.int p1), .val (.int p2), .val (.int p3), .unset, .unset, .unset, .unset, .unset, .unset, .unset, .unset, .unset, .unset, .unset, .unset, .unset, .unset, .unset, .unset] [])) (fun t kk => castTop (ef_law m p0 p1 p2 p3) kk) ?_
  refine OwnX.Done.step (T' := T0) (g' := (mkF m 29 #[.val (.int p0), .val (.int p1), .val (.int p2), .val (.int p3), .val (.int (p0 &&& (255 : Int32)).toUInt32.toUInt16.toUInt32.toInt32), .val (.int (p1 &&& (255 : Int32)).toUInt32.toUInt16.toUInt32.toInt32), .val (.int (p2 &&& (255 : Int32)).toUInt32.toUInt16.toUInt32.toInt32), .val (.int (p3 &&& (3 : Int32))), .unset, .unset, .unset, .unset, .unset, .unset, .unset, .unset, .unset, .unset, .unset, .unset] [])) (fun t kk => ?_) ?_
  · show Steps p.tables e below (T0.setTop (mkF m 0 _ [])) t
    refine XS.iloadN P0.here P0.x rfl (hb hby at_0) rfl ?_
    show Steps p.tables e below (T0.setTop (mkF m 1 _ [(.int p0)])) t
    refine XS.sipush P0.here P0.x rfl (hb hby at_1) ?_
    show Steps p.tables e below (T0.setTop (mkF m 4 _ [(.int (255 : Int32)), (.int p0)])) t
    refine XS.iand P0.here P0.x rfl (hb hby at_4) rfl ?_
    show Steps p.tables e below (T0.setTop (mkF m 5 _ [(.int (p0 &&& (255 : Int32)))])) t
    refine XS.i2c P0.here P0.x rfl (hb hby at_5) rfl ?_
    show Steps p.tables e below (T0.setTop (mkF m 6 _ [(.int (p0 &&& (255 : Int32)).toUInt32.toUInt16.toUInt32.toInt32)])) t
    refine XS.istore P0.here P0.x rfl (hb hby at_6) rfl (l' := #[.val (.int p0), .val (.int p1), .val (.int p2), .val (.int p3), .val (.int (p0 &&& (255 : Int32)).toUInt32.toUInt16.toUInt32.toInt32), .unset, .unset, .unset, .unset, .unset, .unset, .unset, .unset, .unset, .unset, .unset, .unset, .unset, .unset, .unset]) rfl ?_
    show Steps p.tables e below (T0.setTop (mkF m 8 _ [])) t
    refine XS.iloadN P0.here P0.x rfl (hb hby at_8) rfl ?_
    show Steps p.tables e below (T0.setTop (mkF m 9 _ [(.int p1)])) t
    refine XS.sipush P0.here P0.x rfl (hb hby at_9) ?_
    show Steps p.tables e below (T0.setTop (mkF m 12 _ [(.int (255 : Int32)), (.int p1)])) t
    refine XS.iand P0.here P0.x rfl (hb hby at_12) rfl ?_
    show Steps p.tables e below (T0.setTop (mkF m 13 _ [(.int (p1 &&& (255 : Int32)))])) t
    refine XS.i2c P0.here P0.x rfl (hb hby at_13) rfl ?_
    show Steps p.tables e below (T0.setTop (mkF m 14 _ [(.int (p1 &&& (255 : Int32)).toUInt32.toUInt16.toUInt32.toInt32)])) t
    refine XS.istore P0.here P0.x rfl (hb hby at_14) rfl (l' := #[.val (.int p0), .val (.int p1), .val (.int p2), .val (.int p3), .val (.int (p0 &&& (255 : Int32)).toUInt32.toUInt16.toUInt32.toInt32), .val (.int (p1 &&& (255 : Int32)).toUInt32.toUInt16.toUInt32.toInt32), .unset, .unset, .unset, .unset, .unset, .unset, .unset, .unset, .unset, .unset, .unset, .unset, .unset, .unset]) rfl ?_
    show Steps p.tables e below (T0.setTop (mkF m 16 _ [])) t
    refine XS.iloadN P0.here P0.x rfl (hb hby at_16) rfl ?_
    show Steps p.tables e below (T0.setTop (mkF m 17 _ [(.int p2)])) t
    refine XS.sipush P0.here P0.x rfl (hb hby at_17) ?_
    show Steps p.tables e below (T0.setTop (mkF m 20 _ [(.int (255 : Int32)), (.int p2)])) t
    refine XS.iand P0.here P0.x rfl (hb hby at_20) rfl ?_
    show Steps p.tables e below (T0.setTop (mkF m 21 _ [(.int (p2 &&& (255 : Int32)))])) t
    refine XS.i2c P0.here P0.x rfl (hb hby at_21) rfl ?_
    show Steps p.tables e below (T0.setTop (mkF m 22 _ [(.int (p2 &&& (255 : Int32)).toUInt32.toUInt16.toUInt32.toInt32)])) t
    refine XS.istore P0.here P0.x rfl (hb hby at_22) rfl (l' := #[.val (.int p0), .val (.int p1), .val (.int p2), .val (.int p3), .val (.int (p0 &&& (255 : Int32)).toUInt32.toUInt16.toUInt32.toInt32), .val (.int (p1 &&& (255 : Int32)).toUInt32.toUInt16.toUInt32.toInt32), .val (.int (p2 &&& (255 : Int32)).toUInt32.toUInt16.toUInt32.toInt32), .unset, .unset, .unset, .unset, .unset, .unset, .unset, .unset, .unset, .unset, .unset, .unset, .unset]) rfl ?_
    show Steps p.tables e below (T0.setTop (mkF m 24 _ [])) t
    refine XS.iloadN P0.here P0.x rfl (hb hby at_24) rfl ?_
    show Steps p.tables e below (T0.setTop (mkF m 25 _ [(.int p3)])) t
    refine XS.iconst P0.here P0.x rfl (hb hby at_25) ?_
    show Steps p.tables e below (T0.setTop (mkF m 26 _ [(.int (3 : Int32)), (.int p3)])) t
    refine XS.iand P0.here P0.x rfl (hb hby at_26) rfl ?_
    show Steps p.tables e below (T0.setTop (mkF m 27 _ [(.int (p3 &&& (3 : Int32)))])) t
    refine XS.istore P0.here P0.x rfl (hb hby at_27) rfl (l' := #[.val (.int p0), .val (.int p1), .val (.int p2), .val (.int p3), .val (.int (p0 &&& (255 : Int32)).toUInt32.toUInt16.toUInt32.toInt32), .val (.int (p1 &&& (255 : Int32)).toUInt32.toUInt16.toUInt32.toInt32), .val (.int (p2 &&& (255 : Int32)).toUInt32.toUInt16.toUInt32.toInt32), .val (.int (p3 &&& (3 : Int32))), .unset, .unset, .unset, .unset, .unset, .unset, .unset, .unset, .unset, .unset, .unset, .unset]) rfl ?_
    exact kk
  generalize g_lv : (p3 &&& (3 : Int32)) = lv
  have hlv : lv = 0 ∨ lv = 1 ∨ lv = 2 ∨ lv = 3 := by rw [← g_lv]; exact own_lv p3
  show OwnX.Done _ _ _ _ _ _ _ _ _ _ _ _ _ _ _ T0 (mkF m 29 _ [])
  rcases hlv with rfl | rfl | rfl | rfl
  · refine OwnX.Done.stepL (pc' := 35) (st' := [(.int (0 : Int32))]) (fun t kk => ?_) ?_
    · show Steps p.tables e below (T0.setTop (mkF m 29 _ [])) t
      refine XS.iload P0.here P0.x rfl (hb hby at_29) rfl ?_
      show Steps p.tables e below (T0.setTop (mkF m 31 _ [(.int (0 : Int32))])) t
      refine XS.ifNo P0.here P0.x rfl (hb hby at_31) rfl (i0W_ne_f (by decide)) ?_
      show Steps p.tables e below (T0.setTop (mkF m 34 _ [])) t
      refine XS.iconst P0.here P0.x rfl (hb hby at_34) ?_
      exact kk
    refine OwnY.wNewA (aty := .char) P0 (tw0 hw) (hb hby at_35) rfl (N := 0) rfl (cap := 0) (Nat.le_refl _) (by decide) (by decide) (by decide) (ad := "[C") (by decide) (ty := .char) (dv := (.int (0 : Int32))) rfl rfl (k' := 1) (n' := 0) rfl rfl (fun T1 h3 b4 g5 lt6 P2 E7 A8 X9 => ?_)
    have ge_b4 : h0.size ≤ b4 := by have := P0.ge; omega
    show OwnX.Done _ _ _ _ _ _ _ _ _ _ _ _ _ _ _ T1 (mkF m 37 _ [(.ref b4)])
    refine OwnX.Done.step (T' := T1) (g' := (mkF m 105 #[.val (.int p0), .val (.int p1), .val (.int p2), .val (.int p3), .val (.int (p0 &&& (255 : Int32)).toUInt32.toUInt16.toUInt32.toInt32), .val (.int (p1 &&& (255 : Int32)).toUInt32.toUInt16.toUInt32.toInt32), .val (.int (p2 &&& (255 : Int32)).toUInt32.toUInt16.toUInt32.toInt32), .val (.int (0 : Int32)), .val (.ref b4), .unset, .unset, .unset, .unset, .unset, .unset, .unset, .unset, .unset, .unset, .unset] [])) (fun t kk => ?_) ?_
    · show Steps p.tables e below (T1.setTop (mkF m 37 _ [(.ref b4)])) t
      refine XS.astore P2.here P2.x rfl (hb hby at_37) rfl rfl (l' := #[.val (.int p0), .val (.int p1), .val (.int p2), .val (.int p3), .val (.int (p0 &&& (255 : Int32)).toUInt32.toUInt16.toUInt32.toInt32), .val (.int (p1 &&& (255 : Int32)).toUInt32.toUInt16.toUInt32.toInt32), .val (.int (p2 &&& (255 : Int32)).toUInt32.toUInt16.toUInt32.toInt32), .val (.int (0 : Int32)), .val (.ref b4), .unset, .unset, .unset, .unset, .unset, .unset, .unset, .unset, .unset, .unset, .unset]) rfl ?_
      show Steps p.tables e below (T1.setTop (mkF m 39 _ [])) t
      refine XS.goto P2.here P2.x rfl (pc0 := 39) (pc' := 105) rfl (hb hby at_39) (by decide) (by decide) ?_
      exact kk
    refine OwnY.wNew P2 (tw1 hw) (tw2 hw) (tw3 hw) (hb hby at_105) rfl (by decide) (by decide) (k' := 2) (n' := 4) rfl rfl (fun T10 h12 b13 g14 lt15 P11 E16 X17 D18 => ?_)
    have ge_b13 : h0.size ≤ b13 := by have := P2.ge; omega
    have F19 : Fld Z h12 b13 "java/lang/String" "coder" "B" (.int (0 : Int32)) := D18 (Or.inr (tw27 hw)) (ty := .byte) (by decide)
    have F20 : Fld Z h12 b13 "java/lang/String" "value" "[B" .null := D18 (Or.inr (tw29 hw)) (ty := (.array .byte)) (by decide)
    show OwnX.Done _ _ _ _ _ _ _ _ _ _ _ _ _ _ _ T10 (mkF m 108 _ [(.ref b13)])
    refine OwnX.Done.stepL (pc' := 111) (st' := [(.ref b4), (.ref b13), (.ref b13)]) (fun t kk => ?_) ?_
    · show Steps p.tables e below (T10.setTop (mkF m 108 _ [(.ref b13)])) t
      refine XS.dup P11.here P11.x rfl (hb hby at_108) rfl rfl ?_
      show Steps p.tables e below (T10.setTop (mkF m 109 _ [(.ref b13), (.ref b13)])) t
      refine XS.aload P11.here P11.x rfl (hb hby at_109) rfl rfl ?_
      exact kk
    have f23 := ((hk0.ext E7).ext E16)
    have f24 := (A8.ext E16)
    refine OwnY.wCallI P11 (by simp) (m_str1e l Z a0 hw hs b13 b4 (fun _ => (0 : Int32)) h12 X17 F20 F19 f23 hh hcw f24) rfl (tw4 hw) (tw5 hw) (tw3 hw) (tw6 hw) (by decide) (a := b13) (by rw [hml]; rfl) (lenOf pd_6 rfl) (argsL := [(.ref b4)]) (rest := [(.ref b13)]) rfl rfl (W := 1) (Nat.le_of_eq rfl) (by decide) (by decide) (by decide) (by decide) (allS (Or.inr ge_b13) all0) (hb hby at_111) rfl (k' := 4) (n' := 8) rfl rfl ?_
    rintro T21 h25 _ P22 K26 rfl
    have szh25 : h12.size ≤ h25.size := K26.1
    show OwnX.Done _ _ _ _ _ _ _ _ _ _ _ _ _ _ _ T21 (mkF m 114 _ [(.ref b13)])
    refine OwnX.Done.step (T' := T21) (g' := (mkF m 118 #[.val (.int p0), .val (.int p1), .val (.int p2), .val (.int p3), .val (.int (p0 &&& (255 : Int32)).toUInt32.toUInt16.toUInt32.toInt32), .val (.int (p1 &&& (255 : Int32)).toUInt32.toUInt16.toUInt32.toInt32), .val (.int (p2 &&& (255 : Int32)).toUInt32.toUInt16.toUInt32.toInt32), .val (.int (0 : Int32)), .val (.ref b4), .val (.ref b13), .unset, .unset, .unset, .unset, .unset, .unset, .unset, .unset, .unset, .unset] [(.ref b13)])) (fun t kk => ?_) ?_
    · show Steps p.tables e below (T21.setTop (mkF m 114 _ [(.ref b13)])) t
      refine XS.astore P22.here P22.x rfl (hb hby at_114) rfl rfl (l' := #[.val (.int p0), .val (.int p1), .val (.int p2), .val (.int p3), .val (.int (p0 &&& (255 : Int32)).toUInt32.toUInt16.toUInt32.toInt32), .val (.int (p1 &&& (255 : Int32)).toUInt32.toUInt16.toUInt32.toInt32), .val (.int (p2 &&& (255 : Int32)).toUInt32.toUInt16.toUInt32.toInt32), .val (.int (0 : Int32)), .val (.ref b4), .val (.ref b13), .unset, .unset, .unset, .unset, .unset, .unset, .unset, .unset, .unset, .unset]) rfl ?_
      show Steps p.tables e below (T21.setTop (mkF m 116 _ [])) t
      refine XS.aload P22.here P22.x rfl (hb hby at_116) rfl rfl ?_
      exact kk
    have f36 := (staKeep ((S1.ext E7).ext E16) K26 (nsS (Exa.nostat X17) ns0))
    refine OwnX.wCallS P22 (m_none l Z a0 hw hs b13 nb h25 f36) (tw30 hw) (tw31 hw) (tw32 hw) (tw33 hw) (by decide) (by rw [hml]; rfl) (lenOf pd_7 rfl) (argsL := [(.ref b13)]) (rest := []) rfl rfl (W := 0) (Nat.le_of_eq rfl) (by decide) (by decide) (by decide) (by decide) (by simp) (hb hby at_118) rfl (k' := 5) (n' := 13) rfl rfl ?_
    rintro T27 h37 _ P28 K38 ⟨b29, rfl, X30, F31, F32, F33, F34, F35⟩
    have szh37 : h25.size ≤ h37.size := K38.1
    show OwnX.Done _ _ _ _ _ _ _ _ _ _ _ _ _ _ _ T27 (mkF m 121 _ [(.ref b29)])
    refine OwnX.Done.step (T' := T27) (g' := (mkF m 125 #[.val (.int p0), .val (.int p1), .val (.int p2), .val (.int p3), .val (.int (p0 &&& (255 : Int32)).toUInt32.toUInt16.toUInt32.toInt32), .val (.int (p1 &&& (255 : Int32)).toUInt32.toUInt16.toUInt32.toInt32), .val (.int (p2 &&& (255 : Int32)).toUInt32.toUInt16.toUInt32.toInt32), .val (.int (0 : Int32)), .val (.ref b4), .val (.ref b13), .val (.ref b29), .unset, .unset, .unset, .unset, .unset, .unset, .unset, .unset, .unset] [(.ref b29)])) (fun t kk => ?_) ?_
    · show Steps p.tables e below (T27.setTop (mkF m 121 _ [(.ref b29)])) t
      refine XS.astore P28.here P28.x rfl (hb hby at_121) rfl rfl (l' := #[.val (.int p0), .val (.int p1), .val (.int p2), .val (.int p3), .val (.int (p0 &&& (255 : Int32)).toUInt32.toUInt16.toUInt32.toInt32), .val (.int (p1 &&& (255 : Int32)).toUInt32.toUInt16.toUInt32.toInt32), .val (.int (p2 &&& (255 : Int32)).toUInt32.toUInt16.toUInt32.toInt32), .val (.int (0 : Int32)), .val (.ref b4), .val (.ref b13), .val (.ref b29), .unset, .unset, .unset, .unset, .unset, .unset, .unset, .unset, .unset]) rfl ?_
      show Steps p.tables e below (T27.setTop (mkF m 123 _ [])) t
      refine XS.aload P28.here P28.x rfl (hb hby at_123) rfl rfl ?_
      exact kk
    refine OwnX.wCallV P28 (m_g_linear l Z a0 hw hs b29 (9221120237041090560 : UInt64) h37 F33) (tw59 hw) (tw60 hw) (tw62 hw) (tw62 hw) (tw61 hw) (tw32 hw) (tw63 hw) (by decide) X30 (by rw [hml]; rfl) (lenOf pd_8 rfl) (argsL := []) (rest := []) rfl rfl (W := 0) (Nat.le_of_eq rfl) (by decide) (by decide) (by decide) (by decide) (by simp) (hb hby at_125) rfl (k' := 5) (n' := 13) rfl rfl ?_
    rintro T39 _ _ P40 - ⟨rfl, rfl⟩
    show OwnX.Done _ _ _ _ _ _ _ _ _ _ _ _ _ _ _ T39 (mkF m 128 _ [(.double (9221120237041090560 : UInt64))])
    refine OwnX.Done.step (T' := T39) (g' := (mkF m 132 #[.val (.int p0), .val (.int p1), .val (.int p2), .val (.int p3), .val (.int (p0 &&& (255 : Int32)).toUInt32.toUInt16.toUInt32.toInt32), .val (.int (p1 &&& (255 : Int32)).toUInt32.toUInt16.toUInt32.toInt32), .val (.int (p2 &&& (255 : Int32)).toUInt32.toUInt16.toUInt32.toInt32), .val (.int (0 : Int32)), .val (.ref b4), .val (.ref b13), .val (.ref b29), .val (.double (9221120237041090560 : UInt64)), .second, .unset, .unset, .unset, .unset, .unset, .unset, .unset] [(.ref b29)])) (fun t kk => ?_) ?_
    · show Steps p.tables e below (T39.setTop (mkF m 128 _ [(.double (9221120237041090560 : UInt64))])) t
      refine XS.dstore P40.here P40.x rfl (hb hby at_128) rfl (l' := #[.val (.int p0), .val (.int p1), .val (.int p2), .val (.int p3), .val (.int (p0 &&& (255 : Int32)).toUInt32.toUInt16.toUInt32.toInt32), .val (.int (p1 &&& (255 : Int32)).toUInt32.toUInt16.toUInt32.toInt32), .val (.int (p2 &&& (255 : Int32)).toUInt32.toUInt16.toUInt32.toInt32), .val (.int (0 : Int32)), .val (.ref b4), .val (.ref b13), .val (.ref b29), .val (.double (9221120237041090560 : UInt64)), .second, .unset, .unset, .unset, .unset, .unset, .unset, .unset]) rfl ?_
      show Steps p.tables e below (T39.setTop (mkF m 130 _ [])) t
      refine XS.aload P40.here P40.x rfl (hb hby at_130) rfl rfl ?_
      exact kk
    refine OwnX.wCallV P40 (m_g_logarithmic l Z a0 hw hs b29 (9221120237041090560 : UInt64) h37 F34) (tw64 hw) (tw65 hw) (tw67 hw) (tw67 hw) (tw66 hw) (tw32 hw) (tw68 hw) (by decide) X30 (by rw [hml]; rfl) (lenOf pd_8 rfl) (argsL := []) (rest := []) rfl rfl (W := 0) (Nat.le_of_eq rfl) (by decide) (by decide) (by decide) (by decide) (by simp) (hb hby at_132) rfl (k' := 5) (n' := 13) rfl rfl ?_
    rintro T41 _ _ P42 - ⟨rfl, rfl⟩
    show OwnX.Done _ _ _ _ _ _ _ _ _ _ _ _ _ _ _ T41 (mkF m 135 _ [(.double (9221120237041090560 : UInt64))])
    refine OwnX.Done.step (T' := T41) (g' := (mkF m 139 #[.val (.int p0), .val (.int p1), .val (.int p2), .val (.int p3), .val (.int (p0 &&& (255 : Int32)).toUInt32.toUInt16.toUInt32.toInt32), .val (.int (p1 &&& (255 : Int32)).toUInt32.toUInt16.toUInt32.toInt32), .val (.int (p2 &&& (255 : Int32)).toUInt32.toUInt16.toUInt32.toInt32), .val (.int (0 : Int32)), .val (.ref b4), .val (.ref b13), .val (.ref b29), .val (.double (9221120237041090560 : UInt64)), .second, .val (.double (9221120237041090560 : UInt64)), .second, .unset, .unset, .unset, .unset, .unset] [(.ref b29)])) (fun t kk => ?_) ?_
    · show Steps p.tables e below (T41.setTop (mkF m 135 _ [(.double (9221120237041090560 : UInt64))])) t
      refine XS.dstore P42.here P42.x rfl (hb hby at_135) rfl (l' := #[.val (.int p0), .val (.int p1), .val (.int p2), .val (.int p3), .val (.int (p0 &&& (255 : Int32)).toUInt32.toUInt16.toUInt32.toInt32), .val (.int (p1 &&& (255 : Int32)).toUInt32.toUInt16.toUInt32.toInt32), .val (.int (p2 &&& (255 : Int32)).toUInt32.toUInt16.toUInt32.toInt32), .val (.int (0 : Int32)), .val (.ref b4), .val (.ref b13), .val (.ref b29), .val (.double (9221120237041090560 : UInt64)), .second, .val (.double (9221120237041090560 : UInt64)), .second, .unset, .unset, .unset, .unset, .unset]) rfl ?_
      show Steps p.tables e below (T41.setTop (mkF m 137 _ [])) t
      refine XS.aload P42.here P42.x rfl (hb hby at_137) rfl rfl ?_
      exact kk
    refine OwnX.wCallV P42 (m_g_exponential l Z a0 hw hs b29 (9221120237041090560 : UInt64) h37 F35) (tw69 hw) (tw70 hw) (tw72 hw) (tw72 hw) (tw71 hw) (tw32 hw) (tw73 hw) (by decide) X30 (by rw [hml]; rfl) (lenOf pd_8 rfl) (argsL := []) (rest := []) rfl rfl (W := 0) (Nat.le_of_eq rfl) (by decide) (by decide) (by decide) (by decide) (by simp) (hb hby at_139) rfl (k' := 5) (n' := 13) rfl rfl ?_
    rintro T43 _ _ P44 - ⟨rfl, rfl⟩
    show OwnX.Done _ _ _ _ _ _ _ _ _ _ _ _ _ _ _ T43 (mkF m 142 _ [(.double (9221120237041090560 : UInt64))])
    refine OwnX.Done.step (T' := T43) (g' := (mkF m 146 #[.val (.int p0), .val (.int p1), .val (.int p2), .val (.int p3), .val (.int (p0 &&& (255 : Int32)).toUInt32.toUInt16.toUInt32.toInt32), .val (.int (p1 &&& (255 : Int32)).toUInt32.toUInt16.toUInt32.toInt32), .val (.int (p2 &&& (255 : Int32)).toUInt32.toUInt16.toUInt32.toInt32), .val (.int (0 : Int32)), .val (.ref b4), .val (.ref b13), .val (.ref b29), .val (.double (9221120237041090560 : UInt64)), .second, .val (.double (9221120237041090560 : UInt64)), .second, .val (.double (9221120237041090560 : UInt64)), .second, .unset, .unset, .unset] [(.ref b29)])) (fun t kk => ?_) ?_
    · show Steps p.tables e below (T43.setTop (mkF m 142 _ [(.double (9221120237041090560 : UInt64))])) t
      refine XS.dstore P44.here P44.x rfl (hb hby at_142) rfl (l' := #[.val (.int p0), .val (.int p1), .val (.int p2), .val (.int p3), .val (.int (p0 &&& (255 : Int32)).toUInt32.toUInt16.toUInt32.toInt32), .val (.int (p1 &&& (255 : Int32)).toUInt32.toUInt16.toUInt32.toInt32), .val (.int (p2 &&& (255 : Int32)).toUInt32.toUInt16.toUInt32.toInt32), .val (.int (0 : Int32)), .val (.ref b4), .val (.ref b13), .val (.ref b29), .val (.double (9221120237041090560 : UInt64)), .second, .val (.double (9221120237041090560 : UInt64)), .second, .val (.double (9221120237041090560 : UInt64)), .second, .unset, .unset, .unset]) rfl ?_
      show Steps p.tables e below (T43.setTop (mkF m 144 _ [])) t
      refine XS.aload P44.here P44.x rfl (hb hby at_144) rfl rfl ?_
      exact kk
    refine OwnX.wCallV P44 (m_g_server l Z a0 hw hs b29 b13 h37 F31) (tw74 hw) (tw75 hw) (tw77 hw) (tw77 hw) (tw76 hw) (tw32 hw) (tw78 hw) (by decide) X30 (by rw [hml]; rfl) (lenOf pd_9 rfl) (argsL := []) (rest := []) rfl rfl (W := 0) (Nat.le_of_eq rfl) (by decide) (by decide) (by decide) (by decide) (by simp) (hb hby at_146) rfl (k' := 5) (n' := 13) rfl rfl ?_
    rintro T45 _ _ P46 - ⟨rfl, rfl⟩
    show OwnX.Done _ _ _ _ _ _ _ _ _ _ _ _ _ _ _ T45 (mkF m 149 _ [(.ref b13)])
    refine OwnX.Done.stepL (pc' := 156) (st' := [(.ref b29)]) (fun t kk => ?_) ?_
    · show Steps p.tables e below (T45.setTop (mkF m 149 _ [(.ref b13)])) t
      refine XS.aload P46.here P46.x rfl (hb hby at_149) rfl rfl ?_
      show Steps p.tables e below (T45.setTop (mkF m 151 _ [(.ref b13), (.ref b13)])) t
      refine OwnX.pAcmp P46 rfl rfl (pc0 := 151) (pc' := 154) (same := true) rfl (hb hby at_151) rfl (decide_eq_true rfl) (by decide) (by decide) ?_
      show Steps p.tables e below (T45.setTop (mkF m 154 _ [])) t
      refine XS.aload P46.here P46.x rfl (hb hby at_154) rfl rfl ?_
      exact kk
    refine OwnX.wCallV P46 (m_g_server l Z a0 hw hs b29 b13 h37 F31) (tw74 hw) (tw75 hw) (tw77 hw) (tw77 hw) (tw76 hw) (tw32 hw) (tw78 hw) (by decide) X30 (by rw [hml]; rfl) (lenOf pd_9 rfl) (argsL := []) (rest := []) rfl rfl (W := 0) (Nat.le_of_eq rfl) (by decide) (by decide) (by decide) (by decide) (by simp) (hb hby at_156) rfl (k' := 5) (n' := 13) rfl rfl ?_
    rintro T47 _ _ P48 - ⟨rfl, rfl⟩
    show OwnX.Done _ _ _ _ _ _ _ _ _ _ _ _ _ _ _ T47 (mkF m 159 _ [(.ref b13)])
    refine OwnX.Done.stepL (pc' := 161) (st' := [(.ref b13), (.ref b13)]) (fun t kk => ?_) ?_
    · show Steps p.tables e below (T47.setTop (mkF m 159 _ [(.ref b13)])) t
      refine XS.aload P48.here P48.x rfl (hb hby at_159) rfl rfl ?_
      exact kk
    have f51 := ((X17.keep K26).keep K38)
    refine OwnX.wCallV P48 (m_eqs l Z a0 hw hs b13 h37) (tw79 hw) (tw80 hw) (tw82 hw) (tw82 hw) (tw81 hw) (tw3 hw) (tw83 hw) (by decide) f51 (by rw [hml]; rfl) (lenOf pd_10 rfl) (argsL := [(.ref b13)]) (rest := []) rfl rfl (W := 0) (Nat.le_of_eq rfl) (by decide) (by decide) (by decide) (by decide) (by simp) (hb hby at_161) rfl (k' := 5) (n' := 13) rfl rfl ?_
    rintro T49 _ _ P50 - ⟨rfl, rfl⟩
    show OwnX.Done _ _ _ _ _ _ _ _ _ _ _ _ _ _ _ T49 (mkF m 164 _ [(.int (1 : Int32))])
    refine OwnX.Done.step (T' := T49) (g' := (mkF m 176 #[.val (.int p0), .val (.int p1), .val (.int p2), .val (.int p3), .val (.int (p0 &&& (255 : Int32)).toUInt32.toUInt16.toUInt32.toInt32), .val (.int (p1 &&& (255 : Int32)).toUInt32.toUInt16.toUInt32.toInt32), .val (.int (p2 &&& (255 : Int32)).toUInt32.toUInt16.toUInt32.toInt32), .val (.int (0 : Int32)), .val (.ref b4), .val (.ref b13), .val (.ref b29), .val (.double (9221120237041090560 : UInt64)), .second, .val (.double (9221120237041090560 : UInt64)), .second, .val (.double (9221120237041090560 : UInt64)), .second, .val (.int (1 : Int32)), .unset, .unset] [(.ref b29)])) (fun t kk => ?_) ?_
    · show Steps p.tables e below (T49.setTop (mkF m 164 _ [(.int (1 : Int32))])) t
      refine XS.ifNo P50.here P50.x rfl (hb hby at_164) rfl (i0W_eq_f (by decide)) ?_
      show Steps p.tables e below (T49.setTop (mkF m 167 _ [])) t
      refine XS.iconst P50.here P50.x rfl (hb hby at_167) ?_
      show Steps p.tables e below (T49.setTop (mkF m 168 _ [(.int (1 : Int32))])) t
      refine XS.goto P50.here P50.x rfl (pc0 := 168) (pc' := 172) rfl (hb hby at_168) (by decide) (by decide) ?_
      show Steps p.tables e below (T49.setTop (mkF m 172 _ [(.int (1 : Int32))])) t
      refine XS.istore P50.here P50.x rfl (hb hby at_172) rfl (l' := #[.val (.int p0), .val (.int p1), .val (.int p2), .val (.int p3), .val (.int (p0 &&& (255 : Int32)).toUInt32.toUInt16.toUInt32.toInt32), .val (.int (p1 &&& (255 : Int32)).toUInt32.toUInt16.toUInt32.toInt32), .val (.int (p2 &&& (255 : Int32)).toUInt32.toUInt16.toUInt32.toInt32), .val (.int (0 : Int32)), .val (.ref b4), .val (.ref b13), .val (.ref b29), .val (.double (9221120237041090560 : UInt64)), .second, .val (.double (9221120237041090560 : UInt64)), .second, .val (.double (9221120237041090560 : UInt64)), .second, .val (.int (1 : Int32)), .unset, .unset]) rfl ?_
      show Steps p.tables e below (T49.setTop (mkF m 174 _ [])) t
      refine XS.aload P50.here P50.x rfl (hb hby at_174) rfl rfl ?_
      exact kk
    refine OwnX.wCallV P50 (m_g_kept l Z a0 hw hs b29 nb h37 F32) (tw84 hw) (tw85 hw) (tw87 hw) (tw87 hw) (tw86 hw) (tw32 hw) (tw88 hw) (by decide) X30 (by rw [hml]; rfl) (lenOf pd_11 rfl) (argsL := []) (rest := []) rfl rfl (W := 0) (Nat.le_of_eq rfl) (by decide) (by decide) (by decide) (by decide) (by simp) (hb hby at_176) rfl (k' := 5) (n' := 13) rfl rfl ?_
    rintro T52 _ _ P53 - ⟨rfl, rfl⟩
    show OwnX.Done _ _ _ _ _ _ _ _ _ _ _ _ _ _ _ T52 (mkF m 179 _ [(.ref nb)])
    have f54 := (staKeep f36 K38 ns0)
    refine OwnX.wGetS P53 (host := "") (Or.inl (tw89 hw)) Via.refl f54 (hb hby at_179) rfl (fun T55 P56 => ?_)
    show OwnX.Done _ _ _ _ _ _ _ _ _ _ _ _ _ _ _ T55 (mkF m 182 _ [(.ref nb), (.ref nb)])
    refine OwnX.Done.step (T' := T55) (g' := (mkF m 243 #[.val (.int p0), .val (.int p1), .val (.int p2), .val (.int p3), .val (.int (p0 &&& (255 : Int32)).toUInt32.toUInt16.toUInt32.toInt32), .val (.int (p1 &&& (255 : Int32)).toUInt32.toUInt16.toUInt32.toInt32), .val (.int (p2 &&& (255 : Int32)).toUInt32.toUInt16.toUInt32.toInt32), .val (.int (0 : Int32)), .val (.ref b4), .val (.ref b13), .val (.ref b29), .val (.double (9221120237041090560 : UInt64)), .second, .val (.double (9221120237041090560 : UInt64)), .second, .val (.double (9221120237041090560 : UInt64)), .second, .val (.int (1 : Int32)), .val (.int (1 : Int32)), .val (.int (1 : Int32))] [(.int (1 : Int32))])) (fun t kk => ?_) ?_
    · show Steps p.tables e below (T55.setTop (mkF m 182 _ [(.ref nb), (.ref nb)])) t
      refine OwnX.pAcmp P56 rfl rfl (pc0 := 182) (pc' := 185) (same := true) rfl (hb hby at_182) rfl (decide_eq_true rfl) (by decide) (by decide) ?_
      show Steps p.tables e below (T55.setTop (mkF m 185 _ [])) t
      refine XS.iconst P56.here P56.x rfl (hb hby at_185) ?_
      show Steps p.tables e below (T55.setTop (mkF m 186 _ [(.int (1 : Int32))])) t
      refine XS.goto P56.here P56.x rfl (pc0 := 186) (pc' := 190) rfl (hb hby at_186) (by decide) (by decide) ?_
      show Steps p.tables e below (T55.setTop (mkF m 190 _ [(.int (1 : Int32))])) t
      refine XS.istore P56.here P56.x rfl (hb hby at_190) rfl (l' := #[.val (.int p0), .val (.int p1), .val (.int p2), .val (.int p3), .val (.int (p0 &&& (255 : Int32)).toUInt32.toUInt16.toUInt32.toInt32), .val (.int (p1 &&& (255 : Int32)).toUInt32.toUInt16.toUInt32.toInt32), .val (.int (p2 &&& (255 : Int32)).toUInt32.toUInt16.toUInt32.toInt32), .val (.int (0 : Int32)), .val (.ref b4), .val (.ref b13), .val (.ref b29), .val (.double (9221120237041090560 : UInt64)), .second, .val (.double (9221120237041090560 : UInt64)), .second, .val (.double (9221120237041090560 : UInt64)), .second, .val (.int (1 : Int32)), .val (.int (1 : Int32)), .unset]) rfl ?_
      show Steps p.tables e below (T55.setTop (mkF m 192 _ [])) t
      refine XS.dload P56.here P56.x rfl (hb hby at_192) rfl ?_
      show Steps p.tables e below (T55.setTop (mkF m 194 _ [(.double (9221120237041090560 : UInt64))])) t
      refine XS.dload P56.here P56.x rfl (hb hby at_194) rfl ?_
      show Steps p.tables e below (T55.setTop (mkF m 196 _ [(.double (9221120237041090560 : UInt64)), (.double (9221120237041090560 : UInt64))])) t
      refine XS.dcmpS P56.here P56.x rfl (hb hby at_196) rfl (show cmpValue (FP.dcmp (9221120237041090560 : UInt64) (9221120237041090560 : UInt64)) .l = (-1 : Int32) from by decide +kernel) ?_
      show Steps p.tables e below (T55.setTop (mkF m 197 _ [(.int (-1 : Int32))])) t
      refine XS.ifNo P56.here P56.x rfl (hb hby at_197) rfl (i0W_eq_f (by decide)) ?_
      show Steps p.tables e below (T55.setTop (mkF m 200 _ [])) t
      refine XS.dload P56.here P56.x rfl (hb hby at_200) rfl ?_
      show Steps p.tables e below (T55.setTop (mkF m 202 _ [(.double (9221120237041090560 : UInt64))])) t
      refine XS.dload P56.here P56.x rfl (hb hby at_202) rfl ?_
      show Steps p.tables e below (T55.setTop (mkF m 204 _ [(.double (9221120237041090560 : UInt64)), (.double (9221120237041090560 : UInt64))])) t
      refine XS.dcmpS P56.here P56.x rfl (hb hby at_204) rfl (show cmpValue (FP.dcmp (9221120237041090560 : UInt64) (9221120237041090560 : UInt64)) .l = (-1 : Int32) from by decide +kernel) ?_
      show Steps p.tables e below (T55.setTop (mkF m 205 _ [(.int (-1 : Int32))])) t
      refine XS.ifNo P56.here P56.x rfl (hb hby at_205) rfl (i0W_eq_f (by decide)) ?_
      show Steps p.tables e below (T55.setTop (mkF m 208 _ [])) t
      refine XS.dload P56.here P56.x rfl (hb hby at_208) rfl ?_
      show Steps p.tables e below (T55.setTop (mkF m 210 _ [(.double (9221120237041090560 : UInt64))])) t
      refine XS.dload P56.here P56.x rfl (hb hby at_210) rfl ?_
      show Steps p.tables e below (T55.setTop (mkF m 212 _ [(.double (9221120237041090560 : UInt64)), (.double (9221120237041090560 : UInt64))])) t
      refine XS.dcmpS P56.here P56.x rfl (hb hby at_212) rfl (show cmpValue (FP.dcmp (9221120237041090560 : UInt64) (9221120237041090560 : UInt64)) .l = (-1 : Int32) from by decide +kernel) ?_
      show Steps p.tables e below (T55.setTop (mkF m 213 _ [(.int (-1 : Int32))])) t
      refine XS.ifNo P56.here P56.x rfl (hb hby at_213) rfl (i0W_eq_f (by decide)) ?_
      show Steps p.tables e below (T55.setTop (mkF m 216 _ [])) t
      refine XS.iconst P56.here P56.x rfl (hb hby at_216) ?_
      show Steps p.tables e below (T55.setTop (mkF m 217 _ [(.int (1 : Int32))])) t
      refine XS.goto P56.here P56.x rfl (pc0 := 217) (pc' := 221) rfl (hb hby at_217) (by decide) (by decide) ?_
      show Steps p.tables e below (T55.setTop (mkF m 221 _ [(.int (1 : Int32))])) t
      refine XS.istore P56.here P56.x rfl (hb hby at_221) rfl (l' := #[.val (.int p0), .val (.int p1), .val (.int p2), .val (.int p3), .val (.int (p0 &&& (255 : Int32)).toUInt32.toUInt16.toUInt32.toInt32), .val (.int (p1 &&& (255 : Int32)).toUInt32.toUInt16.toUInt32.toInt32), .val (.int (p2 &&& (255 : Int32)).toUInt32.toUInt16.toUInt32.toInt32), .val (.int (0 : Int32)), .val (.ref b4), .val (.ref b13), .val (.ref b29), .val (.double (9221120237041090560 : UInt64)), .second, .val (.double (9221120237041090560 : UInt64)), .second, .val (.double (9221120237041090560 : UInt64)), .second, .val (.int (1 : Int32)), .val (.int (1 : Int32)), .val (.int (1 : Int32))]) rfl ?_
      show Steps p.tables e below (T55.setTop (mkF m 223 _ [])) t
      refine XS.iload P56.here P56.x rfl (hb hby at_223) rfl ?_
      show Steps p.tables e below (T55.setTop (mkF m 225 _ [(.int (1 : Int32))])) t
      refine XS.ifNo P56.here P56.x rfl (hb hby at_225) rfl (i0W_eq_f (by decide)) ?_
      show Steps p.tables e below (T55.setTop (mkF m 228 _ [])) t
      refine XS.iload P56.here P56.x rfl (hb hby at_228) rfl ?_
      show Steps p.tables e below (T55.setTop (mkF m 230 _ [(.int (1 : Int32))])) t
      refine XS.ifNo P56.here P56.x rfl (hb hby at_230) rfl (i0W_eq_f (by decide)) ?_
      show Steps p.tables e below (T55.setTop (mkF m 233 _ [])) t
      refine XS.iload P56.here P56.x rfl (hb hby at_233) rfl ?_
      show Steps p.tables e below (T55.setTop (mkF m 235 _ [(.int (1 : Int32))])) t
      refine XS.ifNo P56.here P56.x rfl (hb hby at_235) rfl (i0W_eq_f (by decide)) ?_
      show Steps p.tables e below (T55.setTop (mkF m 238 _ [])) t
      refine XS.iconst P56.here P56.x rfl (hb hby at_238) ?_
      show Steps p.tables e below (T55.setTop (mkF m 239 _ [(.int (1 : Int32))])) t
      refine XS.goto P56.here P56.x rfl (pc0 := 239) (pc' := 243) rfl (hb hby at_239) (by decide) (by decide) ?_
      exact kk
    exact OwnX.wRet P56 (t := .boolean) hret (narrow_01 (Or.inr rfl)) (Or.inl ⟨rfl, Or.inr (Or.inl rfl), _, rfl⟩) (hb hby at_243) rfl
  · have P0x := P0.pos (ws₂ := []) (fun _ q_ => q_)
    refine OwnX.Done.stepL (pc' := 49) (st' := [(.int (1 : Int32))]) (fun t kk => ?_) ?_
    · show Steps p.tables e below (T0.setTop (mkF m 29 _ [])) t
      refine XS.iload P0x.here P0x.x rfl (hb hby at_29) rfl ?_
      show Steps p.tables e below (T0.setTop (mkF m 31 _ [(.int (1 : Int32))])) t
      refine XS.ifYes P0x.here P0x.x rfl (pc0 := 31) (pc' := 42) rfl (hb hby at_31) rfl (i0W_ne_t (by decide)) (by decide) (by decide) ?_
      show Steps p.tables e below (T0.setTop (mkF m 42 _ [])) t
      refine XS.iload P0x.here P0x.x rfl (hb hby at_42) rfl ?_
      show Steps p.tables e below (T0.setTop (mkF m 44 _ [(.int (1 : Int32))])) t
      refine XS.iconst P0x.here P0x.x rfl (hb hby at_44) ?_
      show Steps p.tables e below (T0.setTop (mkF m 45 _ [(.int (1 : Int32)), (.int (1 : Int32))])) t
      refine XS.icmpNo P0x.here P0x.x rfl (hb hby at_45) rfl (iiW_ne_f (by decide)) ?_
      show Steps p.tables e below (T0.setTop (mkF m 48 _ [])) t
      refine XS.iconst P0x.here P0x.x rfl (hb hby at_48) ?_
      exact kk
    refine OwnX.wNewA (aty := .char) P0x (tw0 hw) (hb hby at_49) rfl (N := 1) rfl (cap := 1) (Nat.le_refl _) (by decide) (by decide) (by decide) (ad := "[C") (by decide) (ty := .char) (dv := (.int (0 : Int32))) rfl rfl (k' := 1) (n' := 1) rfl rfl (fun T57 h59 b60 g61 lt62 P58 E63 A64 X65 => ?_)
    have ge_b60 : h0.size ≤ b60 := by have := P0x.ge; omega
    show OwnX.Done _ _ _ _ _ _ _ _ _ _ _ _ _ _ _ T57 (mkF m 51 _ [(.ref b60)])
    refine OwnX.Done.stepL (pc' := 55) (st' := [(.int (p0 &&& (255 : Int32)).toUInt32.toUInt16.toUInt32.toInt32), (.int (0 : Int32)), (.ref b60), (.ref b60)]) (fun t kk => ?_) ?_
    · show Steps p.tables e below (T57.setTop (mkF m 51 _ [(.ref b60)])) t
      refine XS.dup P58.here P58.x rfl (hb hby at_51) rfl rfl ?_
      show Steps p.tables e below (T57.setTop (mkF m 52 _ [(.ref b60), (.ref b60)])) t
      refine XS.iconst P58.here P58.x rfl (hb hby at_52) ?_
      show Steps p.tables e below (T57.setTop (mkF m 53 _ [(.int (0 : Int32)), (.ref b60), (.ref b60)])) t
      refine XS.iload P58.here P58.x rfl (hb hby at_53) rfl ?_
      exact kk
    refine OwnX.wCastore P58 (f := (fun _ => (0 : Int32))) A64 (j := (0 : Int32)) (i := 0) rfl (by decide) (Or.inr ge_b60) (hb hby at_55) rfl (fun T66 h68 P67 W69 A70 => ?_)
    have szh68 : h68.size = h59.size := W69.size
    show OwnX.Done _ _ _ _ _ _ _ _ _ _ _ _ _ _ _ T66 (mkF m 56 _ [(.ref b60)])
    refine OwnX.Done.step (T' := T66) (g' := (mkF m 105 #[.val (.int p0), .val (.int p1), .val (.int p2), .val (.int p3), .val (.int (p0 &&& (255 : Int32)).toUInt32.toUInt16.toUInt32.toInt32), .val (.int (p1 &&& (255 : Int32)).toUInt32.toUInt16.toUInt32.toInt32), .val (.int (p2 &&& (255 : Int32)).toUInt32.toUInt16.toUInt32.toInt32), .val (.int (1 : Int32)), .val (.ref b60), .unset, .unset, .unset, .unset, .unset, .unset, .unset, .unset, .unset, .unset, .unset] [])) (fun t kk => ?_) ?_
    · show Steps p.tables e below (T66.setTop (mkF m 56 _ [(.ref b60)])) t
      refine XS.astore P67.here P67.x rfl (hb hby at_56) rfl rfl (l' := #[.val (.int p0), .val (.int p1), .val (.int p2), .val (.int p3), .val (.int (p0 &&& (255 : Int32)).toUInt32.toUInt16.toUInt32.toInt32), .val (.int (p1 &&& (255 : Int32)).toUInt32.toUInt16.toUInt32.toInt32), .val (.int (p2 &&& (255 : Int32)).toUInt32.toUInt16.toUInt32.toInt32), .val (.int (1 : Int32)), .val (.ref b60), .unset, .unset, .unset, .unset, .unset, .unset, .unset, .unset, .unset, .unset, .unset]) rfl ?_
      show Steps p.tables e below (T66.setTop (mkF m 58 _ [])) t
      refine XS.goto P67.here P67.x rfl (pc0 := 58) (pc' := 105) rfl (hb hby at_58) (by decide) (by decide) ?_
      exact kk
    refine OwnX.wNew P67 (tw1 hw) (tw2 hw) (tw3 hw) (hb hby at_105) rfl (by decide) (by decide) (k' := 2) (n' := 5) rfl rfl (fun T71 h73 b74 g75 lt76 P72 E77 X78 D79 => ?_)
    have ge_b74 : h0.size ≤ b74 := by have := P67.ge; omega
    have F80 : Fld Z h73 b74 "java/lang/String" "coder" "B" (.int (0 : Int32)) := D79 (Or.inr (tw27 hw)) (ty := .byte) (by decide)
    have F81 : Fld Z h73 b74 "java/lang/String" "value" "[B" .null := D79 (Or.inr (tw29 hw)) (ty := (.array .byte)) (by decide)
    show OwnX.Done _ _ _ _ _ _ _ _ _ _ _ _ _ _ _ T71 (mkF m 108 _ [(.ref b74)])
    refine OwnX.Done.stepL (pc' := 111) (st' := [(.ref b60), (.ref b74), (.ref b74)]) (fun t kk => ?_) ?_
    · show Steps p.tables e below (T71.setTop (mkF m 108 _ [(.ref b74)])) t
      refine XS.dup P72.here P72.x rfl (hb hby at_108) rfl rfl ?_
      show Steps p.tables e below (T71.setTop (mkF m 109 _ [(.ref b74), (.ref b74)])) t
      refine XS.aload P72.here P72.x rfl (hb hby at_109) rfl rfl ?_
      exact kk
    have f84 := (A70.ext E77)
    have f85 := (((S0.ext E63).wr W69).ext E77)
    refine OwnX.wCallI P72 (m_str1_1 l Z a0 hw hs b74 b60 (oupd (fun _ => (0 : Int32)) 0 (nar .char (p0 &&& (255 : Int32)).toUInt32.toUInt16.toUInt32.toInt32)) cs h73 X78 F81 F80 (by first | assumption | exact Ne.symm (by assumption) | exact adr_ne (by omega) | omega) f84 (own_q _) f85 hcs) rfl (tw4 hw) (tw5 hw) (tw3 hw) (tw6 hw) (by decide) (a := b74) (by rw [hml]; rfl) (lenOf pd_6 rfl) (argsL := [(.ref b60)]) (rest := [(.ref b74)]) rfl rfl (W := 1) (Nat.le_of_eq rfl) (by decide) (by decide) (by decide) (by decide) (allS (Or.inr ge_b74) all0) (hb hby at_111) rfl (k' := 3) (n' := 6) rfl rfl ?_
    rintro T82 h86 _ P83 K87 rfl
    have szh86 : h73.size ≤ h86.size := K87.1
    show OwnX.Done _ _ _ _ _ _ _ _ _ _ _ _ _ _ _ T82 (mkF m 114 _ [(.ref b74)])
    refine OwnX.Done.step (T' := T82) (g' := (mkF m 118 #[.val (.int p0), .val (.int p1), .val (.int p2), .val (.int p3), .val (.int (p0 &&& (255 : Int32)).toUInt32.toUInt16.toUInt32.toInt32), .val (.int (p1 &&& (255 : Int32)).toUInt32.toUInt16.toUInt32.toInt32), .val (.int (p2 &&& (255 : Int32)).toUInt32.toUInt16.toUInt32.toInt32), .val (.int (1 : Int32)), .val (.ref b60), .val (.ref b74), .unset, .unset, .unset, .unset, .unset, .unset, .unset, .unset, .unset, .unset] [(.ref b74)])) (fun t kk => ?_) ?_
    · show Steps p.tables e below (T82.setTop (mkF m 114 _ [(.ref b74)])) t
      refine XS.astore P83.here P83.x rfl (hb hby at_114) rfl rfl (l' := #[.val (.int p0), .val (.int p1), .val (.int p2), .val (.int p3), .val (.int (p0 &&& (255 : Int32)).toUInt32.toUInt16.toUInt32.toInt32), .val (.int (p1 &&& (255 : Int32)).toUInt32.toUInt16.toUInt32.toInt32), .val (.int (p2 &&& (255 : Int32)).toUInt32.toUInt16.toUInt32.toInt32), .val (.int (1 : Int32)), .val (.ref b60), .val (.ref b74), .unset, .unset, .unset, .unset, .unset, .unset, .unset, .unset, .unset, .unset]) rfl ?_
      show Steps p.tables e below (T82.setTop (mkF m 116 _ [])) t
      refine XS.aload P83.here P83.x rfl (hb hby at_116) rfl rfl ?_
      exact kk
    have f97 := (staKeep (((S1.ext E63).wr W69).ext E77) K87 (nsS (Exa.nostat X78) ns0))
    refine OwnX.wCallS P83 (m_none l Z a0 hw hs b74 nb h86 f97) (tw30 hw) (tw31 hw) (tw32 hw) (tw33 hw) (by decide) (by rw [hml]; rfl) (lenOf pd_7 rfl) (argsL := [(.ref b74)]) (rest := []) rfl rfl (W := 0) (Nat.le_of_eq rfl) (by decide) (by decide) (by decide) (by decide) (by simp) (hb hby at_118) rfl (k' := 4) (n' := 11) rfl rfl ?_
    rintro T88 h98 _ P89 K99 ⟨b90, rfl, X91, F92, F93, F94, F95, F96⟩
    have szh98 : h86.size ≤ h98.size := K99.1
    show OwnX.Done _ _ _ _ _ _ _ _ _ _ _ _ _ _ _ T88 (mkF m 121 _ [(.ref b90)])
    refine OwnX.Done.step (T' := T88) (g' := (mkF m 125 #[.val (.int p0), .val (.int p1), .val (.int p2), .val (.int p3), .val (.int (p0 &&& (255 : Int32)).toUInt32.toUInt16.toUInt32.toInt32), .val (.int (p1 &&& (255 : Int32)).toUInt32.toUInt16.toUInt32.toInt32), .val (.int (p2 &&& (255 : Int32)).toUInt32.toUInt16.toUInt32.toInt32), .val (.int (1 : Int32)), .val (.ref b60), .val (.ref b74), .val (.ref b90), .unset, .unset, .unset, .unset, .unset, .unset, .unset, .unset, .unset] [(.ref b90)])) (fun t kk => ?_) ?_
    · show Steps p.tables e below (T88.setTop (mkF m 121 _ [(.ref b90)])) t
      refine XS.astore P89.here P89.x rfl (hb hby at_121) rfl rfl (l' := #[.val (.int p0), .val (.int p1), .val (.int p2), .val (.int p3), .val (.int (p0 &&& (255 : Int32)).toUInt32.toUInt16.toUInt32.toInt32), .val (.int (p1 &&& (255 : Int32)).toUInt32.toUInt16.toUInt32.toInt32), .val (.int (p2 &&& (255 : Int32)).toUInt32.toUInt16.toUInt32.toInt32), .val (.int (1 : Int32)), .val (.ref b60), .val (.ref b74), .val (.ref b90), .unset, .unset, .unset, .unset, .unset, .unset, .unset, .unset, .unset]) rfl ?_
      show Steps p.tables e below (T88.setTop (mkF m 123 _ [])) t
      refine XS.aload P89.here P89.x rfl (hb hby at_123) rfl rfl ?_
      exact kk
    refine OwnX.wCallV P89 (m_g_linear l Z a0 hw hs b90 (9221120237041090560 : UInt64) h98 F94) (tw59 hw) (tw60 hw) (tw62 hw) (tw62 hw) (tw61 hw) (tw32 hw) (tw63 hw) (by decide) X91 (by rw [hml]; rfl) (lenOf pd_8 rfl) (argsL := []) (rest := []) rfl rfl (W := 0) (Nat.le_of_eq rfl) (by decide) (by decide) (by decide) (by decide) (by simp) (hb hby at_125) rfl (k' := 4) (n' := 11) rfl rfl ?_
    rintro T100 _ _ P101 - ⟨rfl, rfl⟩
    show OwnX.Done _ _ _ _ _ _ _ _ _ _ _ _ _ _ _ T100 (mkF m 128 _ [(.double (9221120237041090560 : UInt64))])
    refine OwnX.Done.step (T' := T100) (g' := (mkF m 132 #[.val (.int p0), .val (.int p1), .val (.int p2), .val (.int p3), .val (.int (p0 &&& (255 : Int32)).toUInt32.toUInt16.toUInt32.toInt32), .val (.int (p1 &&& (255 : Int32)).toUInt32.toUInt16.toUInt32.toInt32), .val (.int (p2 &&& (255 : Int32)).toUInt32.toUInt16.toUInt32.toInt32), .val (.int (1 : Int32)), .val (.ref b60), .val (.ref b74), .val (.ref b90), .val (.double (9221120237041090560 : UInt64)), .second, .unset, .unset, .unset, .unset, .unset, .unset, .unset] [(.ref b90)])) (fun t kk => ?_) ?_
    · show Steps p.tables e below (T100.setTop (mkF m 128 _ [(.double (9221120237041090560 : UInt64))])) t
      refine XS.dstore P101.here P101.x rfl (hb hby at_128) rfl (l' := #[.val (.int p0), .val (.int p1), .val (.int p2), .val (.int p3), .val (.int (p0 &&& (255 : Int32)).toUInt32.toUInt16.toUInt32.toInt32), .val (.int (p1 &&& (255 : Int32)).toUInt32.toUInt16.toUInt32.toInt32), .val (.int (p2 &&& (255 : Int32)).toUInt32.toUInt16.toUInt32.toInt32), .val (.int (1 : Int32)), .val (.ref b60), .val (.ref b74), .val (.ref b90), .val (.double (9221120237041090560 : UInt64)), .second, .unset, .unset, .unset, .unset, .unset, .unset, .unset]) rfl ?_
      show Steps p.tables e below (T100.setTop (mkF m 130 _ [])) t
      refine XS.aload P101.here P101.x rfl (hb hby at_130) rfl rfl ?_
      exact kk
    refine OwnX.wCallV P101 (m_g_logarithmic l Z a0 hw hs b90 (9221120237041090560 : UInt64) h98 F95) (tw64 hw) (tw65 hw) (tw67 hw) (tw67 hw) (tw66 hw) (tw32 hw) (tw68 hw) (by decide) X91 (by rw [hml]; rfl) (lenOf pd_8 rfl) (argsL := []) (rest := []) rfl rfl (W := 0) (Nat.le_of_eq rfl) (by decide) (by decide) (by decide) (by decide) (by simp) (hb hby at_132) rfl (k' := 4) (n' := 11) rfl rfl ?_
    rintro T102 _ _ P103 - ⟨rfl, rfl⟩
    show OwnX.Done _ _ _ _ _ _ _ _ _ _ _ _ _ _ _ T102 (mkF m 135 _ [(.double (9221120237041090560 : UInt64))])
    refine OwnX.Done.step (T' := T102) (g' := (mkF m 139 #[.val (.int p0), .val (.int p1), .val (.int p2), .val (.int p3), .val (.int (p0 &&& (255 : Int32)).toUInt32.toUInt16.toUInt32.toInt32), .val (.int (p1 &&& (255 : Int32)).toUInt32.toUInt16.toUInt32.toInt32), .val (.int (p2 &&& (255 : Int32)).toUInt32.toUInt16.toUInt32.toInt32), .val (.int (1 : Int32)), .val (.ref b60), .val (.ref b74), .val (.ref b90), .val (.double (9221120237041090560 : UInt64)), .second, .val (.double (9221120237041090560 : UInt64)), .second, .unset, .unset, .unset, .unset, .unset] [(.ref b90)])) (fun t kk => ?_) ?_
    · show Steps p.tables e below (T102.setTop (mkF m 135 _ [(.double (9221120237041090560 : UInt64))])) t
      refine XS.dstore P103.here P103.x rfl (hb hby at_135) rfl (l' := #[.val (.int p0), .val (.int p1), .val (.int p2), .val (.int p3), .val (.int (p0 &&& (255 : Int32)).toUInt32.toUInt16.toUInt32.toInt32), .val (.int (p1 &&& (255 : Int32)).toUInt32.toUInt16.toUInt32.toInt32), .val (.int (p2 &&& (255 : Int32)).toUInt32.toUInt16.toUInt32.toInt32), .val (.int (1 : Int32)), .val (.ref b60), .val (.ref b74), .val (.ref b90), .val (.double (9221120237041090560 : UInt64)), .second, .val (.double (9221120237041090560 : UInt64)), .second, .unset, .unset, .unset, .unset, .unset]) rfl ?_
      show Steps p.tables e below (T102.setTop (mkF m 137 _ [])) t
      refine XS.aload P103.here P103.x rfl (hb hby at_137) rfl rfl ?_
      exact kk
    refine OwnX.wCallV P103 (m_g_exponential l Z a0 hw hs b90 (9221120237041090560 : UInt64) h98 F96) (tw69 hw) (tw70 hw) (tw72 hw) (tw72 hw) (tw71 hw) (tw32 hw) (tw73 hw) (by decide) X91 (by rw [hml]; rfl) (lenOf pd_8 rfl) (argsL := []) (rest := []) rfl rfl (W := 0) (Nat.le_of_eq rfl) (by decide) (by decide) (by decide) (by decide) (by simp) (hb hby at_139) rfl (k' := 4) (n' := 11) rfl rfl ?_
    rintro T104 _ _ P105 - ⟨rfl, rfl⟩
    show OwnX.Done _ _ _ _ _ _ _ _ _ _ _ _ _ _ _ T104 (mkF m 142 _ [(.double (9221120237041090560 : UInt64))])
    refine OwnX.Done.step (T' := T104) (g' := (mkF m 146 #[.val (.int p0), .val (.int p1), .val (.int p2), .val (.int p3), .val (.int (p0 &&& (255 : Int32)).toUInt32.toUInt16.toUInt32.toInt32), .val (.int (p1 &&& (255 : Int32)).toUInt32.toUInt16.toUInt32.toInt32), .val (.int (p2 &&& (255 : Int32)).toUInt32.toUInt16.toUInt32.toInt32), .val (.int (1 : Int32)), .val (.ref b60), .val (.ref b74), .val (.ref b90), .val (.double (9221120237041090560 : UInt64)), .second, .val (.double (9221120237041090560 : UInt64)), .second, .val (.double (9221120237041090560 : UInt64)), .second, .unset, .unset, .unset] [(.ref b90)])) (fun t kk => ?_) ?_
    · show Steps p.tables e below (T104.setTop (mkF m 142 _ [(.double (9221120237041090560 : UInt64))])) t
      refine XS.dstore P105.here P105.x rfl (hb hby at_142) rfl (l' := #[.val (.int p0), .val (.int p1), .val (.int p2), .val (.int p3), .val (.int (p0 &&& (255 : Int32)).toUInt32.toUInt16.toUInt32.toInt32), .val (.int (p1 &&& (255 : Int32)).toUInt32.toUInt16.toUInt32.toInt32), .val (.int (p2 &&& (255 : Int32)).toUInt32.toUInt16.toUInt32.toInt32), .val (.int (1 : Int32)), .val (.ref b60), .val (.ref b74), .val (.ref b90), .val (.double (9221120237041090560 : UInt64)), .second, .val (.double (9221120237041090560 : UInt64)), .second, .val (.double (9221120237041090560 : UInt64)), .second, .unset, .unset, .unset]) rfl ?_
      show Steps p.tables e below (T104.setTop (mkF m 144 _ [])) t
      refine XS.aload P105.here P105.x rfl (hb hby at_144) rfl rfl ?_
      exact kk
    refine OwnX.wCallV P105 (m_g_server l Z a0 hw hs b90 b74 h98 F92) (tw74 hw) (tw75 hw) (tw77 hw) (tw77 hw) (tw76 hw) (tw32 hw) (tw78 hw) (by decide) X91 (by rw [hml]; rfl) (lenOf pd_9 rfl) (argsL := []) (rest := []) rfl rfl (W := 0) (Nat.le_of_eq rfl) (by decide) (by decide) (by decide) (by decide) (by simp) (hb hby at_146) rfl (k' := 4) (n' := 11) rfl rfl ?_
    rintro T106 _ _ P107 - ⟨rfl, rfl⟩
    show OwnX.Done _ _ _ _ _ _ _ _ _ _ _ _ _ _ _ T106 (mkF m 149 _ [(.ref b74)])
    refine OwnX.Done.stepL (pc' := 156) (st' := [(.ref b90)]) (fun t kk => ?_) ?_
    · show Steps p.tables e below (T106.setTop (mkF m 149 _ [(.ref b74)])) t
      refine XS.aload P107.here P107.x rfl (hb hby at_149) rfl rfl ?_
      show Steps p.tables e below (T106.setTop (mkF m 151 _ [(.ref b74), (.ref b74)])) t
      refine OwnX.pAcmp P107 rfl rfl (pc0 := 151) (pc' := 154) (same := true) rfl (hb hby at_151) rfl (decide_eq_true rfl) (by decide) (by decide) ?_
      show Steps p.tables e below (T106.setTop (mkF m 154 _ [])) t
      refine XS.aload P107.here P107.x rfl (hb hby at_154) rfl rfl ?_
      exact kk
    refine OwnX.wCallV P107 (m_g_server l Z a0 hw hs b90 b74 h98 F92) (tw74 hw) (tw75 hw) (tw77 hw) (tw77 hw) (tw76 hw) (tw32 hw) (tw78 hw) (by decide) X91 (by rw [hml]; rfl) (lenOf pd_9 rfl) (argsL := []) (rest := []) rfl rfl (W := 0) (Nat.le_of_eq rfl) (by decide) (by decide) (by decide) (by decide) (by simp) (hb hby at_156) rfl (k' := 4) (n' := 11) rfl rfl ?_
    rintro T108 _ _ P109 - ⟨rfl, rfl⟩
    show OwnX.Done _ _ _ _ _ _ _ _ _ _ _ _ _ _ _ T108 (mkF m 159 _ [(.ref b74)])
    refine OwnX.Done.stepL (pc' := 161) (st' := [(.ref b74), (.ref b74)]) (fun t kk => ?_) ?_
    · show Steps p.tables e below (T108.setTop (mkF m 159 _ [(.ref b74)])) t
      refine XS.aload P109.here P109.x rfl (hb hby at_159) rfl rfl ?_
      exact kk
    have f112 := ((X78.keep K87).keep K99)
    refine OwnX.wCallV P109 (m_eqs l Z a0 hw hs b74 h98) (tw79 hw) (tw80 hw) (tw82 hw) (tw82 hw) (tw81 hw) (tw3 hw) (tw83 hw) (by decide) f112 (by rw [hml]; rfl) (lenOf pd_10 rfl) (argsL := [(.ref b74)]) (rest := []) rfl rfl (W := 0) (Nat.le_of_eq rfl) (by decide) (by decide) (by decide) (by decide) (by simp) (hb hby at_161) rfl (k' := 4) (n' := 11) rfl rfl ?_
    rintro T110 _ _ P111 - ⟨rfl, rfl⟩
    show OwnX.Done _ _ _ _ _ _ _ _ _ _ _ _ _ _ _ T110 (mkF m 164 _ [(.int (1 : Int32))])
    refine OwnX.Done.step (T' := T110) (g' := (mkF m 176 #[.val (.int p0), .val (.int p1), .val (.int p2), .val (.int p3), .val (.int (p0 &&& (255 : Int32)).toUInt32.toUInt16.toUInt32.toInt32), .val (.int (p1 &&& (255 : Int32)).toUInt32.toUInt16.toUInt32.toInt32), .val (.int (p2 &&& (255 : Int32)).toUInt32.toUInt16.toUInt32.toInt32), .val (.int (1 : Int32)), .val (.ref b60), .val (.ref b74), .val (.ref b90), .val (.double (9221120237041090560 : UInt64)), .second, .val (.double (9221120237041090560 : UInt64)), .second, .val (.double (9221120237041090560 : UInt64)), .second, .val (.int (1 : Int32)), .unset, .unset] [(.ref b90)])) (fun t kk => ?_) ?_
    · show Steps p.tables e below (T110.setTop (mkF m 164 _ [(.int (1 : Int32))])) t
      refine XS.ifNo P111.here P111.x rfl (hb hby at_164) rfl (i0W_eq_f (by decide)) ?_
      show Steps p.tables e below (T110.setTop (mkF m 167 _ [])) t
      refine XS.iconst P111.here P111.x rfl (hb hby at_167) ?_
      show Steps p.tables e below (T110.setTop (mkF m 168 _ [(.int (1 : Int32))])) t
      refine XS.goto P111.here P111.x rfl (pc0 := 168) (pc' := 172) rfl (hb hby at_168) (by decide) (by decide) ?_
      show Steps p.tables e below (T110.setTop (mkF m 172 _ [(.int (1 : Int32))])) t
      refine XS.istore P111.here P111.x rfl (hb hby at_172) rfl (l' := #[.val (.int p0), .val (.int p1), .val (.int p2), .val (.int p3), .val (.int (p0 &&& (255 : Int32)).toUInt32.toUInt16.toUInt32.toInt32), .val (.int (p1 &&& (255 : Int32)).toUInt32.toUInt16.toUInt32.toInt32), .val (.int (p2 &&& (255 : Int32)).toUInt32.toUInt16.toUInt32.toInt32), .val (.int (1 : Int32)), .val (.ref b60), .val (.ref b74), .val (.ref b90), .val (.double (9221120237041090560 : UInt64)), .second, .val (.double (9221120237041090560 : UInt64)), .second, .val (.double (9221120237041090560 : UInt64)), .second, .val (.int (1 : Int32)), .unset, .unset]) rfl ?_
      show Steps p.tables e below (T110.setTop (mkF m 174 _ [])) t
      refine XS.aload P111.here P111.x rfl (hb hby at_174) rfl rfl ?_
      exact kk
    refine OwnX.wCallV P111 (m_g_kept l Z a0 hw hs b90 nb h98 F93) (tw84 hw) (tw85 hw) (tw87 hw) (tw87 hw) (tw86 hw) (tw32 hw) (tw88 hw) (by decide) X91 (by rw [hml]; rfl) (lenOf pd_11 rfl) (argsL := []) (rest := []) rfl rfl (W := 0) (Nat.le_of_eq rfl) (by decide) (by decide) (by decide) (by decide) (by simp) (hb hby at_176) rfl (k' := 4) (n' := 11) rfl rfl ?_
    rintro T113 _ _ P114 - ⟨rfl, rfl⟩
    show OwnX.Done _ _ _ _ _ _ _ _ _ _ _ _ _ _ _ T113 (mkF m 179 _ [(.ref nb)])
    have f115 := (staKeep f97 K99 ns0)
    refine OwnX.wGetS P114 (host := "") (Or.inl (tw89 hw)) Via.refl f115 (hb hby at_179) rfl (fun T116 P117 => ?_)
    show OwnX.Done _ _ _ _ _ _ _ _ _ _ _ _ _ _ _ T116 (mkF m 182 _ [(.ref nb), (.ref nb)])
    refine OwnX.Done.step (T' := T116) (g' := (mkF m 243 #[.val (.int p0), .val (.int p1), .val (.int p2), .val (.int p3), .val (.int (p0 &&& (255 : Int32)).toUInt32.toUInt16.toUInt32.toInt32), .val (.int (p1 &&& (255 : Int32)).toUInt32.toUInt16.toUInt32.toInt32), .val (.int (p2 &&& (255 : Int32)).toUInt32.toUInt16.toUInt32.toInt32), .val (.int (1 : Int32)), .val (.ref b60), .val (.ref b74), .val (.ref b90), .val (.double (9221120237041090560 : UInt64)), .second, .val (.double (9221120237041090560 : UInt64)), .second, .val (.double (9221120237041090560 : UInt64)), .second, .val (.int (1 : Int32)), .val (.int (1 : Int32)), .val (.int (1 : Int32))] [(.int (1 : Int32))])) (fun t kk => ?_) ?_
    · show Steps p.tables e below (T116.setTop (mkF m 182 _ [(.ref nb), (.ref nb)])) t
      refine OwnX.pAcmp P117 rfl rfl (pc0 := 182) (pc' := 185) (same := true) rfl (hb hby at_182) rfl (decide_eq_true rfl) (by decide) (by decide) ?_
      show Steps p.tables e below (T116.setTop (mkF m 185 _ [])) t
      refine XS.iconst P117.here P117.x rfl (hb hby at_185) ?_
      show Steps p.tables e below (T116.setTop (mkF m 186 _ [(.int (1 : Int32))])) t
      refine XS.goto P117.here P117.x rfl (pc0 := 186) (pc' := 190) rfl (hb hby at_186) (by decide) (by decide) ?_
      show Steps p.tables e below (T116.setTop (mkF m 190 _ [(.int (1 : Int32))])) t
      refine XS.istore P117.here P117.x rfl (hb hby at_190) rfl (l' := #[.val (.int p0), .val (.int p1), .val (.int p2), .val (.int p3), .val (.int (p0 &&& (255 : Int32)).toUInt32.toUInt16.toUInt32.toInt32), .val (.int (p1 &&& (255 : Int32)).toUInt32.toUInt16.toUInt32.toInt32), .val (.int (p2 &&& (255 : Int32)).toUInt32.toUInt16.toUInt32.toInt32), .val (.int (1 : Int32)), .val (.ref b60), .val (.ref b74), .val (.ref b90), .val (.double (9221120237041090560 : UInt64)), .second, .val (.double (9221120237041090560 : UInt64)), .second, .val (.double (9221120237041090560 : UInt64)), .second, .val (.int (1 : Int32)), .val (.int (1 : Int32)), .unset]) rfl ?_
      show Steps p.tables e below (T116.setTop (mkF m 192 _ [])) t
      refine XS.dload P117.here P117.x rfl (hb hby at_192) rfl ?_
      show Steps p.tables e below (T116.setTop (mkF m 194 _ [(.double (9221120237041090560 : UInt64))])) t
      refine XS.dload P117.here P117.x rfl (hb hby at_194) rfl ?_
      show Steps p.tables e below (T116.setTop (mkF m 196 _ [(.double (9221120237041090560 : UInt64)), (.double (9221120237041090560 : UInt64))])) t
      refine XS.dcmpS P117.here P117.x rfl (hb hby at_196) rfl (show cmpValue (FP.dcmp (9221120237041090560 : UInt64) (9221120237041090560 : UInt64)) .l = (-1 : Int32) from by decide +kernel) ?_
      show Steps p.tables e below (T116.setTop (mkF m 197 _ [(.int (-1 : Int32))])) t
      refine XS.ifNo P117.here P117.x rfl (hb hby at_197) rfl (i0W_eq_f (by decide)) ?_
      show Steps p.tables e below (T116.setTop (mkF m 200 _ [])) t
      refine XS.dload P117.here P117.x rfl (hb hby at_200) rfl ?_
      show Steps p.tables e below (T116.setTop (mkF m 202 _ [(.double (9221120237041090560 : UInt64))])) t
      refine XS.dload P117.here P117.x rfl (hb hby at_202) rfl ?_
      show Steps p.tables e below (T116.setTop (mkF m 204 _ [(.double (9221120237041090560 : UInt64)), (.double (9221120237041090560 : UInt64))])) t
      refine XS.dcmpS P117.here P117.x rfl (hb hby at_204) rfl (show cmpValue (FP.dcmp (9221120237041090560 : UInt64) (9221120237041090560 : UInt64)) .l = (-1 : Int32) from by decide +kernel) ?_
      show Steps p.tables e below (T116.setTop (mkF m 205 _ [(.int (-1 : Int32))])) t
      refine XS.ifNo P117.here P117.x rfl (hb hby at_205) rfl (i0W_eq_f (by decide)) ?_
      show Steps p.tables e below (T116.setTop (mkF m 208 _ [])) t
      refine XS.dload P117.here P117.x rfl (hb hby at_208) rfl ?_
      show Steps p.tables e below (T116.setTop (mkF m 210 _ [(.double (9221120237041090560 : UInt64))])) t
      refine XS.dload P117.here P117.x rfl (hb hby at_210) rfl ?_
      show Steps p.tables e below (T116.setTop (mkF m 212 _ [(.double (9221120237041090560 : UInt64)), (.double (9221120237041090560 : UInt64))])) t
      refine XS.dcmpS P117.here P117.x rfl (hb hby at_212) rfl (show cmpValue (FP.dcmp (9221120237041090560 : UInt64) (9221120237041090560 : UInt64)) .l = (-1 : Int32) from by decide +kernel) ?_
      show Steps p.tables e below (T116.setTop (mkF m 213 _ [(.int (-1 : Int32))])) t
      refine XS.ifNo P117.here P117.x rfl (hb hby at_213) rfl (i0W_eq_f (by decide)) ?_
      show Steps p.tables e below (T116.setTop (mkF m 216 _ [])) t
      refine XS.iconst P117.here P117.x rfl (hb hby at_216) ?_
      show Steps p.tables e below (T116.setTop (mkF m 217 _ [(.int (1 : Int32))])) t
      refine XS.goto P117.here P117.x rfl (pc0 := 217) (pc' := 221) rfl (hb hby at_217) (by decide) (by decide) ?_
      show Steps p.tables e below (T116.setTop (mkF m 221 _ [(.int (1 : Int32))])) t
      refine XS.istore P117.here P117.x rfl (hb hby at_221) rfl (l' := #[.val (.int p0), .val (.int p1), .val (.int p2), .val (.int p3), .val (.int (p0 &&& (255 : Int32)).toUInt32.toUInt16.toUInt32.toInt32), .val (.int (p1 &&& (255 : Int32)).toUInt32.toUInt16.toUInt32.toInt32), .val (.int (p2 &&& (255 : Int32)).toUInt32.toUInt16.toUInt32.toInt32), .val (.int (1 : Int32)), .val (.ref b60), .val (.ref b74), .val (.ref b90), .val (.double (9221120237041090560 : UInt64)), .second, .val (.double (9221120237041090560 : UInt64)), .second, .val (.double (9221120237041090560 : UInt64)), .second, .val (.int (1 : Int32)), .val (.int (1 : Int32)), .val (.int (1 : Int32))]) rfl ?_
      show Steps p.tables e below (T116.setTop (mkF m 223 _ [])) t
      refine XS.iload P117.here P117.x rfl (hb hby at_223) rfl ?_
      show Steps p.tables e below (T116.setTop (mkF m 225 _ [(.int (1 : Int32))])) t
      refine XS.ifNo P117.here P117.x rfl (hb hby at_225) rfl (i0W_eq_f (by decide)) ?_
      show Steps p.tables e below (T116.setTop (mkF m 228 _ [])) t
      refine XS.iload P117.here P117.x rfl (hb hby at_228) rfl ?_
      show Steps p.tables e below (T116.setTop (mkF m 230 _ [(.int (1 : Int32))])) t
      refine XS.ifNo P117.here P117.x rfl (hb hby at_230) rfl (i0W_eq_f (by decide)) ?_
      show Steps p.tables e below (T116.setTop (mkF m 233 _ [])) t
      refine XS.iload P117.here P117.x rfl (hb hby at_233) rfl ?_
      show Steps p.tables e below (T116.setTop (mkF m 235 _ [(.int (1 : Int32))])) t
      refine XS.ifNo P117.here P117.x rfl (hb hby at_235) rfl (i0W_eq_f (by decide)) ?_
      show Steps p.tables e below (T116.setTop (mkF m 238 _ [])) t
      refine XS.iconst P117.here P117.x rfl (hb hby at_238) ?_
      show Steps p.tables e below (T116.setTop (mkF m 239 _ [(.int (1 : Int32))])) t
      refine XS.goto P117.here P117.x rfl (pc0 := 239) (pc' := 243) rfl (hb hby at_239) (by decide) (by decide) ?_
      exact kk
    exact OwnX.wRet P117 (t := .boolean) hret (narrow_01 (Or.inr rfl)) (Or.inl ⟨rfl, Or.inr (Or.inl rfl), _, rfl⟩) (hb hby at_243) rfl
  · have P0x := P0.pos (ws₂ := []) (fun _ q_ => q_)
    refine OwnX.Done.stepL (pc' := 68) (st' := [(.int (2 : Int32))]) (fun t kk => ?_) ?_
    · show Steps p.tables e below (T0.setTop (mkF m 29 _ [])) t
      refine XS.iload P0x.here P0x.x rfl (hb hby at_29) rfl ?_
      show Steps p.tables e below (T0.setTop (mkF m 31 _ [(.int (2 : Int32))])) t
      refine XS.ifYes P0x.here P0x.x rfl (pc0 := 31) (pc' := 42) rfl (hb hby at_31) rfl (i0W_ne_t (by decide)) (by decide) (by decide) ?_
      show Steps p.tables e below (T0.setTop (mkF m 42 _ [])) t
      refine XS.iload P0x.here P0x.x rfl (hb hby at_42) rfl ?_
      show Steps p.tables e below (T0.setTop (mkF m 44 _ [(.int (2 : Int32))])) t
      refine XS.iconst P0x.here P0x.x rfl (hb hby at_44) ?_
      show Steps p.tables e below (T0.setTop (mkF m 45 _ [(.int (1 : Int32)), (.int (2 : Int32))])) t
      refine XS.icmpYes P0x.here P0x.x rfl (pc0 := 45) (pc' := 61) rfl (hb hby at_45) rfl (iiW_ne_t (by decide)) (by decide) (by decide) ?_
      show Steps p.tables e below (T0.setTop (mkF m 61 _ [])) t
      refine XS.iload P0x.here P0x.x rfl (hb hby at_61) rfl ?_
      show Steps p.tables e below (T0.setTop (mkF m 63 _ [(.int (2 : Int32))])) t
      refine XS.iconst P0x.here P0x.x rfl (hb hby at_63) ?_
      show Steps p.tables e below (T0.setTop (mkF m 64 _ [(.int (2 : Int32)), (.int (2 : Int32))])) t
      refine XS.icmpNo P0x.here P0x.x rfl (hb hby at_64) rfl (iiW_ne_f (by decide)) ?_
      show Steps p.tables e below (T0.setTop (mkF m 67 _ [])) t
      refine XS.iconst P0x.here P0x.x rfl (hb hby at_67) ?_
      exact kk
    refine OwnX.wNewA (aty := .char) P0x (tw0 hw) (hb hby at_68) rfl (N := 2) rfl (cap := 2) (Nat.le_refl _) (by decide) (by decide) (by decide) (ad := "[C") (by decide) (ty := .char) (dv := (.int (0 : Int32))) rfl rfl (k' := 1) (n' := 2) rfl rfl (fun T118 h120 b121 g122 lt123 P119 E124 A125 X126 => ?_)
    have ge_b121 : h0.size ≤ b121 := by have := P0x.ge; omega
    show OwnX.Done _ _ _ _ _ _ _ _ _ _ _ _ _ _ _ T118 (mkF m 70 _ [(.ref b121)])
    refine OwnX.Done.stepL (pc' := 74) (st' := [(.int (p0 &&& (255 : Int32)).toUInt32.toUInt16.toUInt32.toInt32), (.int (0 : Int32)), (.ref b121), (.ref b121)]) (fun t kk => ?_) ?_
    · show Steps p.tables e below (T118.setTop (mkF m 70 _ [(.ref b121)])) t
      refine XS.dup P119.here P119.x rfl (hb hby at_70) rfl rfl ?_
      show Steps p.tables e below (T118.setTop (mkF m 71 _ [(.ref b121), (.ref b121)])) t
      refine XS.iconst P119.here P119.x rfl (hb hby at_71) ?_
      show Steps p.tables e below (T118.setTop (mkF m 72 _ [(.int (0 : Int32)), (.ref b121), (.ref b121)])) t
      refine XS.iload P119.here P119.x rfl (hb hby at_72) rfl ?_
      exact kk
    refine OwnX.wCastore P119 (f := (fun _ => (0 : Int32))) A125 (j := (0 : Int32)) (i := 0) rfl (by decide) (Or.inr ge_b121) (hb hby at_74) rfl (fun T127 h129 P128 W130 A131 => ?_)
    have szh129 : h129.size = h120.size := W130.size
    show OwnX.Done _ _ _ _ _ _ _ _ _ _ _ _ _ _ _ T127 (mkF m 75 _ [(.ref b121)])
    refine OwnX.Done.stepL (pc' := 79) (st' := [(.int (p1 &&& (255 : Int32)).toUInt32.toUInt16.toUInt32.toInt32), (.int (1 : Int32)), (.ref b121), (.ref b121)]) (fun t kk => ?_) ?_
    · show Steps p.tables e below (T127.setTop (mkF m 75 _ [(.ref b121)])) t
      refine XS.dup P128.here P128.x rfl (hb hby at_75) rfl rfl ?_
      show Steps p.tables e below (T127.setTop (mkF m 76 _ [(.ref b121), (.ref b121)])) t
      refine XS.iconst P128.here P128.x rfl (hb hby at_76) ?_
      show Steps p.tables e below (T127.setTop (mkF m 77 _ [(.int (1 : Int32)), (.ref b121), (.ref b121)])) t
      refine XS.iload P128.here P128.x rfl (hb hby at_77) rfl ?_
      exact kk
    refine OwnX.wCastore P128 (f := (oupd (fun _ => (0 : Int32)) 0 (nar .char (p0 &&& (255 : Int32)).toUInt32.toUInt16.toUInt32.toInt32))) A131 (j := (1 : Int32)) (i := 1) rfl (by decide) (Or.inr ge_b121) (hb hby at_79) rfl (fun T132 h134 P133 W135 A136 => ?_)
    have szh134 : h134.size = h129.size := W135.size
    show OwnX.Done _ _ _ _ _ _ _ _ _ _ _ _ _ _ _ T132 (mkF m 80 _ [(.ref b121)])
    refine OwnX.Done.step (T' := T132) (g' := (mkF m 105 #[.val (.int p0), .val (.int p1), .val (.int p2), .val (.int p3), .val (.int (p0 &&& (255 : Int32)).toUInt32.toUInt16.toUInt32.toInt32), .val (.int (p1 &&& (255 : Int32)).toUInt32.toUInt16.toUInt32.toInt32), .val (.int (p2 &&& (255 : Int32)).toUInt32.toUInt16.toUInt32.toInt32), .val (.int (2 : Int32)), .val (.ref b121), .unset, .unset, .unset, .unset, .unset, .unset, .unset, .unset, .unset, .unset, .unset] [])) (fun t kk => ?_) ?_
    · show Steps p.tables e below (T132.setTop (mkF m 80 _ [(.ref b121)])) t
      refine XS.astore P133.here P133.x rfl (hb hby at_80) rfl rfl (l' := #[.val (.int p0), .val (.int p1), .val (.int p2), .val (.int p3), .val (.int (p0 &&& (255 : Int32)).toUInt32.toUInt16.toUInt32.toInt32), .val (.int (p1 &&& (255 : Int32)).toUInt32.toUInt16.toUInt32.toInt32), .val (.int (p2 &&& (255 : Int32)).toUInt32.toUInt16.toUInt32.toInt32), .val (.int (2 : Int32)), .val (.ref b121), .unset, .unset, .unset, .unset, .unset, .unset, .unset, .unset, .unset, .unset, .unset]) rfl ?_
      show Steps p.tables e below (T132.setTop (mkF m 82 _ [])) t
      refine XS.goto P133.here P133.x rfl (pc0 := 82) (pc' := 105) rfl (hb hby at_82) (by decide) (by decide) ?_
      exact kk
    refine OwnX.wNew P133 (tw1 hw) (tw2 hw) (tw3 hw) (hb hby at_105) rfl (by decide) (by decide) (k' := 2) (n' := 6) rfl rfl (fun T137 h139 b140 g141 lt142 P138 E143 X144 D145 => ?_)
    have ge_b140 : h0.size ≤ b140 := by have := P133.ge; omega
    have F146 : Fld Z h139 b140 "java/lang/String" "coder" "B" (.int (0 : Int32)) := D145 (Or.inr (tw27 hw)) (ty := .byte) (by decide)
    have F147 : Fld Z h139 b140 "java/lang/String" "value" "[B" .null := D145 (Or.inr (tw29 hw)) (ty := (.array .byte)) (by decide)
    show OwnX.Done _ _ _ _ _ _ _ _ _ _ _ _ _ _ _ T137 (mkF m 108 _ [(.ref b140)])
    refine OwnX.Done.stepL (pc' := 111) (st' := [(.ref b121), (.ref b140), (.ref b140)]) (fun t kk => ?_) ?_
    · show Steps p.tables e below (T137.setTop (mkF m 108 _ [(.ref b140)])) t
      refine XS.dup P138.here P138.x rfl (hb hby at_108) rfl rfl ?_
      show Steps p.tables e below (T137.setTop (mkF m 109 _ [(.ref b140), (.ref b140)])) t
      refine XS.aload P138.here P138.x rfl (hb hby at_109) rfl rfl ?_
      exact kk
    have f150 := (A136.ext E143)
    have f151 := ((((S0.ext E124).wr W130).wr W135).ext E143)
    refine OwnX.wCallI P138 (m_str1_2 l Z a0 hw hs b140 b121 (oupd (oupd (fun _ => (0 : Int32)) 0 (nar .char (p0 &&& (255 : Int32)).toUInt32.toUInt16.toUInt32.toInt32)) 1 (nar .char (p1 &&& (255 : Int32)).toUInt32.toUInt16.toUInt32.toInt32)) cs h139 X144 F147 F146 (by first | assumption | exact Ne.symm (by assumption) | exact adr_ne (by omega) | omega) f150 (own_q _) (own_q _) f151 hcs) rfl (tw4 hw) (tw5 hw) (tw3 hw) (tw6 hw) (by decide) (a := b140) (by rw [hml]; rfl) (lenOf pd_6 rfl) (argsL := [(.ref b121)]) (rest := [(.ref b140)]) rfl rfl (W := 1) (Nat.le_of_eq rfl) (by decide) (by decide) (by decide) (by decide) (allS (Or.inr ge_b140) all0) (hb hby at_111) rfl (k' := 3) (n' := 8) rfl rfl ?_
    rintro T148 h152 _ P149 K153 rfl
    have szh152 : h139.size ≤ h152.size := K153.1
    show OwnX.Done _ _ _ _ _ _ _ _ _ _ _ _ _ _ _ T148 (mkF m 114 _ [(.ref b140)])
    refine OwnX.Done.step (T' := T148) (g' := (mkF m 118 #[.val (.int p0), .val (.int p1), .val (.int p2), .val (.int p3), .val (.int (p0 &&& (255 : Int32)).toUInt32.toUInt16.toUInt32.toInt32), .val (.int (p1 &&& (255 : Int32)).toUInt32.toUInt16.toUInt32.toInt32), .val (.int (p2 &&& (255 : Int32)).toUInt32.toUInt16.toUInt32.toInt32), .val (.int (2 : Int32)), .val (.ref b121), .val (.ref b140), .unset, .unset, .unset, .unset, .unset, .unset, .unset, .unset, .unset, .unset] [(.ref b140)])) (fun t kk => ?_) ?_
    · show Steps p.tables e below (T148.setTop (mkF m 114 _ [(.ref b140)])) t
      refine XS.astore P149.here P149.x rfl (hb hby at_114) rfl rfl (l' := #[.val (.int p0), .val (.int p1), .val (.int p2), .val (.int p3), .val (.int (p0 &&& (255 : Int32)).toUInt32.toUInt16.toUInt32.toInt32), .val (.int (p1 &&& (255 : Int32)).toUInt32.toUInt16.toUInt32.toInt32), .val (.int (p2 &&& (255 : Int32)).toUInt32.toUInt16.toUInt32.toInt32), .val (.int (2 : Int32)), .val (.ref b121), .val (.ref b140), .unset, .unset, .unset, .unset, .unset, .unset, .unset, .unset, .unset, .unset]) rfl ?_
      show Steps p.tables e below (T148.setTop (mkF m 116 _ [])) t
      refine XS.aload P149.here P149.x rfl (hb hby at_116) rfl rfl ?_
      exact kk
    have f163 := (staKeep ((((S1.ext E124).wr W130).wr W135).ext E143) K153 (nsS (Exa.nostat X144) ns0))
    refine OwnX.wCallS P149 (m_none l Z a0 hw hs b140 nb h152 f163) (tw30 hw) (tw31 hw) (tw32 hw) (tw33 hw) (by decide) (by rw [hml]; rfl) (lenOf pd_7 rfl) (argsL := [(.ref b140)]) (rest := []) rfl rfl (W := 0) (Nat.le_of_eq rfl) (by decide) (by decide) (by decide) (by decide) (by simp) (hb hby at_118) rfl (k' := 4) (n' := 13) rfl rfl ?_
    rintro T154 h164 _ P155 K165 ⟨b156, rfl, X157, F158, F159, F160, F161, F162⟩
    have szh164 : h152.size ≤ h164.size := K165.1
    show OwnX.Done _ _ _ _ _ _ _ _ _ _ _ _ _ _ _ T154 (mkF m 121 _ [(.ref b156)])
    refine OwnX.Done.step (T' := T154) (g' := (mkF m 125 #[.val (.int p0), .val (.int p1), .val (.int p2), .val (.int p3), .val (.int (p0 &&& (255 : Int32)).toUInt32.toUInt16.toUInt32.toInt32), .val (.int (p1 &&& (255 : Int32)).toUInt32.toUInt16.toUInt32.toInt32), .val (.int (p2 &&& (255 : Int32)).toUInt32.toUInt16.toUInt32.toInt32), .val (.int (2 : Int32)), .val (.ref b121), .val (.ref b140), .val (.ref b156), .unset, .unset, .unset, .unset, .unset, .unset, .unset, .unset, .unset] [(.ref b156)])) (fun t kk => ?_) ?_
    · show Steps p.tables e below (T154.setTop (mkF m 121 _ [(.ref b156)])) t
      refine XS.astore P155.here P155.x rfl (hb hby at_121) rfl rfl (l' := #[.val (.int p0), .val (.int p1), .val (.int p2), .val (.int p3), .val (.int (p0 &&& (255 : Int32)).toUInt32.toUInt16.toUInt32.toInt32), .val (.int (p1 &&& (255 : Int32)).toUInt32.toUInt16.toUInt32.toInt32), .val (.int (p2 &&& (255 : Int32)).toUInt32.toUInt16.toUInt32.toInt32), .val (.int (2 : Int32)), .val (.ref b121), .val (.ref b140), .val (.ref b156), .unset, .unset, .unset, .unset, .unset, .unset, .unset, .unset, .unset]) rfl ?_
      show Steps p.tables e below (T154.setTop (mkF m 123 _ [])) t
      refine XS.aload P155.here P155.x rfl (hb hby at_123) rfl rfl ?_
      exact kk
    refine OwnX.wCallV P155 (m_g_linear l Z a0 hw hs b156 (9221120237041090560 : UInt64) h164 F160) (tw59 hw) (tw60 hw) (tw62 hw) (tw62 hw) (tw61 hw) (tw32 hw) (tw63 hw) (by decide) X157 (by rw [hml]; rfl) (lenOf pd_8 rfl) (argsL := []) (rest := []) rfl rfl (W := 0) (Nat.le_of_eq rfl) (by decide) (by decide) (by decide) (by decide) (by simp) (hb hby at_125) rfl (k' := 4) (n' := 13) rfl rfl ?_
    rintro T166 _ _ P167 - ⟨rfl, rfl⟩
    show OwnX.Done _ _ _ _ _ _ _ _ _ _ _ _ _ _ _ T166 (mkF m 128 _ [(.double (9221120237041090560 : UInt64))])
    refine OwnX.Done.step (T' := T166) (g' := (mkF m 132 #[.val (.int p0), .val (.int p1), .val (.int p2), .val (.int p3), .val (.int (p0 &&& (255 : Int32)).toUInt32.toUInt16.toUInt32.toInt32), .val (.int (p1 &&& (255 : Int32)).toUInt32.toUInt16.toUInt32.toInt32), .val (.int (p2 &&& (255 : Int32)).toUInt32.toUInt16.toUInt32.toInt32), .val (.int (2 : Int32)), .val (.ref b121), .val (.ref b140), .val (.ref b156), .val (.double (9221120237041090560 : UInt64)), .second, .unset, .unset, .unset, .unset, .unset, .unset, .unset] [(.ref b156)])) (fun t kk => ?_) ?_
    · show Steps p.tables e below (T166.setTop (mkF m 128 _ [(.double (9221120237041090560 : UInt64))])) t
      refine XS.dstore P167.here P167.x rfl (hb hby at_128) rfl (l' := #[.val (.int p0), .val (.int p1), .val (.int p2), .val (.int p3), .val (.int (p0 &&& (255 : Int32)).toUInt32.toUInt16.toUInt32.toInt32), .val (.int (p1 &&& (255 : Int32)).toUInt32.toUInt16.toUInt32.toInt32), .val (.int (p2 &&& (255 : Int32)).toUInt32.toUInt16.toUInt32.toInt32), .val (.int (2 : Int32)), .val (.ref b121), .val (.ref b140), .val (.ref b156), .val (.double (9221120237041090560 : UInt64)), .second, .unset, .unset, .unset, .unset, .unset, .unset, .unset]) rfl ?_
      show Steps p.tables e below (T166.setTop (mkF m 130 _ [])) t
      refine XS.aload P167.here P167.x rfl (hb hby at_130) rfl rfl ?_
      exact kk
    refine OwnX.wCallV P167 (m_g_logarithmic l Z a0 hw hs b156 (9221120237041090560 : UInt64) h164 F161) (tw64 hw) (tw65 hw) (tw67 hw) (tw67 hw) (tw66 hw) (tw32 hw) (tw68 hw) (by decide) X157 (by rw [hml]; rfl) (lenOf pd_8 rfl) (argsL := []) (rest := []) rfl rfl (W := 0) (Nat.le_of_eq rfl) (by decide) (by decide) (by decide) (by decide) (by simp) (hb hby at_132) rfl (k' := 4) (n' := 13) rfl rfl ?_
    rintro T168 _ _ P169 - ⟨rfl, rfl⟩
    show OwnX.Done _ _ _ _ _ _ _ _ _ _ _ _ _ _ _ T168 (mkF m 135 _ [(.double (9221120237041090560 : UInt64))])
    refine OwnX.Done.step (T' := T168) (g' := (mkF m 139 #[.val (.int p0), .val (.int p1), .val (.int p2), .val (.int p3), .val (.int (p0 &&& (255 : Int32)).toUInt32.toUInt16.toUInt32.toInt32), .val (.int (p1 &&& (255 : Int32)).toUInt32.toUInt16.toUInt32.toInt32), .val (.int (p2 &&& (255 : Int32)).toUInt32.toUInt16.toUInt32.toInt32), .val (.int (2 : Int32)), .val (.ref b121), .val (.ref b140), .val (.ref b156), .val (.double (9221120237041090560 : UInt64)), .second, .val (.double (9221120237041090560 : UInt64)), .second, .unset, .unset, .unset, .unset, .unset] [(.ref b156)])) (fun t kk => ?_) ?_
    · show Steps p.tables e below (T168.setTop (mkF m 135 _ [(.double (9221120237041090560 : UInt64))])) t
      refine XS.dstore P169.here P169.x rfl (hb hby at_135) rfl (l' := #[.val (.int p0), .val (.int p1), .val (.int p2), .val (.int p3), .val (.int (p0 &&& (255 : Int32)).toUInt32.toUInt16.toUInt32.toInt32), .val (.int (p1 &&& (255 : Int32)).toUInt32.toUInt16.toUInt32.toInt32), .val (.int (p2 &&& (255 : Int32)).toUInt32.toUInt16.toUInt32.toInt32), .val (.int (2 : Int32)), .val (.ref b121), .val (.ref b140), .val (.ref b156), .val (.double (9221120237041090560 : UInt64)), .second, .val (.double (9221120237041090560 : UInt64)), .second, .unset, .unset, .unset, .unset, .unset]) rfl ?_
      show Steps p.tables e below (T168.setTop (mkF m 137 _ [])) t
      refine XS.aload P169.here P169.x rfl (hb hby at_137) rfl rfl ?_
      exact kk
    refine OwnX.wCallV P169 (m_g_exponential l Z a0 hw hs b156 (9221120237041090560 : UInt64) h164 F162) (tw69 hw) (tw70 hw) (tw72 hw) (tw72 hw) (tw71 hw) (tw32 hw) (tw73 hw) (by decide) X157 (by rw [hml]; rfl) (lenOf pd_8 rfl) (argsL := []) (rest := []) rfl rfl (W := 0) (Nat.le_of_eq rfl) (by decide) (by decide) (by decide) (by decide) (by simp) (hb hby at_139) rfl (k' := 4) (n' := 13) rfl rfl ?_
    rintro T170 _ _ P171 - ⟨rfl, rfl⟩
    show OwnX.Done _ _ _ _ _ _ _ _ _ _ _ _ _ _ _ T170 (mkF m 142 _ [(.double (9221120237041090560 : UInt64))])
    refine OwnX.Done.step (T' := T170) (g' := (mkF m 146 #[.val (.int p0), .val (.int p1), .val (.int p2), .val (.int p3), .val (.int (p0 &&& (255 : Int32)).toUInt32.toUInt16.toUInt32.toInt32), .val (.int (p1 &&& (255 : Int32)).toUInt32.toUInt16.toUInt32.toInt32), .val (.int (p2 &&& (255 : Int32)).toUInt32.toUInt16.toUInt32.toInt32), .val (.int (2 : Int32)), .val (.ref b121), .val (.ref b140), .val (.ref b156), .val (.double (9221120237041090560 : UInt64)), .second, .val (.double (9221120237041090560 : UInt64)), .second, .val (.double (9221120237041090560 : UInt64)), .second, .unset, .unset, .unset] [(.ref b156)])) (fun t kk => ?_) ?_
    · show Steps p.tables e below (T170.setTop (mkF m 142 _ [(.double (9221120237041090560 : UInt64))])) t
      refine XS.dstore P171.here P171.x rfl (hb hby at_142) rfl (l' := #[.val (.int p0), .val (.int p1), .val (.int p2), .val (.int p3), .val (.int (p0 &&& (255 : Int32)).toUInt32.toUInt16.toUInt32.toInt32), .val (.int (p1 &&& (255 : Int32)).toUInt32.toUInt16.toUInt32.toInt32), .val (.int (p2 &&& (255 : Int32)).toUInt32.toUInt16.toUInt32.toInt32), .val (.int (2 : Int32)), .val (.ref b121), .val (.ref b140), .val (.ref b156), .val (.double (9221120237041090560 : UInt64)), .second, .val (.double (9221120237041090560 : UInt64)), .second, .val (.double (9221120237041090560 : UInt64)), .second, .unset, .unset, .unset]) rfl ?_
      show Steps p.tables e below (T170.setTop (mkF m 144 _ [])) t
      refine XS.aload P171.here P171.x rfl (hb hby at_144) rfl rfl ?_
      exact kk
    refine OwnX.wCallV P171 (m_g_server l Z a0 hw hs b156 b140 h164 F158) (tw74 hw) (tw75 hw) (tw77 hw) (tw77 hw) (tw76 hw) (tw32 hw) (tw78 hw) (by decide) X157 (by rw [hml]; rfl) (lenOf pd_9 rfl) (argsL := []) (rest := []) rfl rfl (W := 0) (Nat.le_of_eq rfl) (by decide) (by decide) (by decide) (by decide) (by simp) (hb hby at_146) rfl (k' := 4) (n' := 13) rfl rfl ?_
    rintro T172 _ _ P173 - ⟨rfl, rfl⟩
    show OwnX.Done _ _ _ _ _ _ _ _ _ _ _ _ _ _ _ T172 (mkF m 149 _ [(.ref b140)])
    refine OwnX.Done.stepL (pc' := 156) (st' := [(.ref b156)]) (fun t kk => ?_) ?_
    · show Steps p.tables e below (T172.setTop (mkF m 149 _ [(.ref b140)])) t
      refine XS.aload P173.here P173.x rfl (hb hby at_149) rfl rfl ?_
      show Steps p.tables e below (T172.setTop (mkF m 151 _ [(.ref b140), (.ref b140)])) t
      refine OwnX.pAcmp P173 rfl rfl (pc0 := 151) (pc' := 154) (same := true) rfl (hb hby at_151) rfl (decide_eq_true rfl) (by decide) (by decide) ?_
      show Steps p.tables e below (T172.setTop (mkF m 154 _ [])) t
      refine XS.aload P173.here P173.x rfl (hb hby at_154) rfl rfl ?_
      exact kk
    refine OwnX.wCallV P173 (m_g_server l Z a0 hw hs b156 b140 h164 F158) (tw74 hw) (tw75 hw) (tw77 hw) (tw77 hw) (tw76 hw) (tw32 hw) (tw78 hw) (by decide) X157 (by rw [hml]; rfl) (lenOf pd_9 rfl) (argsL := []) (rest := []) rfl rfl (W := 0) (Nat.le_of_eq rfl) (by decide) (by decide) (by decide) (by decide) (by simp) (hb hby at_156) rfl (k' := 4) (n' := 13) rfl rfl ?_
    rintro T174 _ _ P175 - ⟨rfl, rfl⟩
    show OwnX.Done _ _ _ _ _ _ _ _ _ _ _ _ _ _ _ T174 (mkF m 159 _ [(.ref b140)])
    refine OwnX.Done.stepL (pc' := 161) (st' := [(.ref b140), (.ref b140)]) (fun t kk => ?_) ?_
    · show Steps p.tables e below (T174.setTop (mkF m 159 _ [(.ref b140)])) t
      refine XS.aload P175.here P175.x rfl (hb hby at_159) rfl rfl ?_
      exact kk
    have f178 := ((X144.keep K153).keep K165)
    refine OwnX.wCallV P175 (m_eqs l Z a0 hw hs b140 h164) (tw79 hw) (tw80 hw) (tw82 hw) (tw82 hw) (tw81 hw) (tw3 hw) (tw83 hw) (by decide) f178 (by rw [hml]; rfl) (lenOf pd_10 rfl) (argsL := [(.ref b140)]) (rest := []) rfl rfl (W := 0) (Nat.le_of_eq rfl) (by decide) (by decide) (by decide) (by decide) (by simp) (hb hby at_161) rfl (k' := 4) (n' := 13) rfl rfl ?_
    rintro T176 _ _ P177 - ⟨rfl, rfl⟩
    show OwnX.Done _ _ _ _ _ _ _ _ _ _ _ _ _ _ _ T176 (mkF m 164 _ [(.int (1 : Int32))])
    refine OwnX.Done.step (T' := T176) (g' := (mkF m 176 #[.val (.int p0), .val (.int p1), .val (.int p2), .val (.int p3), .val (.int (p0 &&& (255 : Int32)).toUInt32.toUInt16.toUInt32.toInt32), .val (.int (p1 &&& (255 : Int32)).toUInt32.toUInt16.toUInt32.toInt32), .val (.int (p2 &&& (255 : Int32)).toUInt32.toUInt16.toUInt32.toInt32), .val (.int (2 : Int32)), .val (.ref b121), .val (.ref b140), .val (.ref b156), .val (.double (9221120237041090560 : UInt64)), .second, .val (.double (9221120237041090560 : UInt64)), .second, .val (.double (9221120237041090560 : UInt64)), .second, .val (.int (1 : Int32)), .unset, .unset] [(.ref b156)])) (fun t kk => ?_) ?_
    · show Steps p.tables e below (T176.setTop (mkF m 164 _ [(.int (1 : Int32))])) t
      refine XS.ifNo P177.here P177.x rfl (hb hby at_164) rfl (i0W_eq_f (by decide)) ?_
      show Steps p.tables e below (T176.setTop (mkF m 167 _ [])) t
      refine XS.iconst P177.here P177.x rfl (hb hby at_167) ?_
      show Steps p.tables e below (T176.setTop (mkF m 168 _ [(.int (1 : Int32))])) t
      refine XS.goto P177.here P177.x rfl (pc0 := 168) (pc' := 172) rfl (hb hby at_168) (by decide) (by decide) ?_
      show Steps p.tables e below (T176.setTop (mkF m 172 _ [(.int (1 : Int32))])) t
      refine XS.istore P177.here P177.x rfl (hb hby at_172) rfl (l' := #[.val (.int p0), .val (.int p1), .val (.int p2), .val (.int p3), .val (.int (p0 &&& (255 : Int32)).toUInt32.toUInt16.toUInt32.toInt32), .val (.int (p1 &&& (255 : Int32)).toUInt32.toUInt16.toUInt32.toInt32), .val (.int (p2 &&& (255 : Int32)).toUInt32.toUInt16.toUInt32.toInt32), .val (.int (2 : Int32)), .val (.ref b121), .val (.ref b140), .val (.ref b156), .val (.double (9221120237041090560 : UInt64)), .second, .val (.double (9221120237041090560 : UInt64)), .second, .val (.double (9221120237041090560 : UInt64)), .second, .val (.int (1 : Int32)), .unset, .unset]) rfl ?_
      show Steps p.tables e below (T176.setTop (mkF m 174 _ [])) t
      refine XS.aload P177.here P177.x rfl (hb hby at_174) rfl rfl ?_
      exact kk
    refine OwnX.wCallV P177 (m_g_kept l Z a0 hw hs b156 nb h164 F159) (tw84 hw) (tw85 hw) (tw87 hw) (tw87 hw) (tw86 hw) (tw32 hw) (tw88 hw) (by decide) X157 (by rw [hml]; rfl) (lenOf pd_11 rfl) (argsL := []) (rest := []) rfl rfl (W := 0) (Nat.le_of_eq rfl) (by decide) (by decide) (by decide) (by decide) (by simp) (hb hby at_176) rfl (k' := 4) (n' := 13) rfl rfl ?_
    rintro T179 _ _ P180 - ⟨rfl, rfl⟩
    show OwnX.Done _ _ _ _ _ _ _ _ _ _ _ _ _ _ _ T179 (mkF m 179 _ [(.ref nb)])
    have f181 := (staKeep f163 K165 ns0)
    refine OwnX.wGetS P180 (host := "") (Or.inl (tw89 hw)) Via.refl f181 (hb hby at_179) rfl (fun T182 P183 => ?_)
    show OwnX.Done _ _ _ _ _ _ _ _ _ _ _ _ _ _ _ T182 (mkF m 182 _ [(.ref nb), (.ref nb)])
    refine OwnX.Done.step (T' := T182) (g' := (mkF m 243 #[.val (.int p0), .val (.int p1), .val (.int p2), .val (.int p3), .val (.int (p0 &&& (255 : Int32)).toUInt32.toUInt16.toUInt32.toInt32), .val (.int (p1 &&& (255 : Int32)).toUInt32.toUInt16.toUInt32.toInt32), .val (.int (p2 &&& (255 : Int32)).toUInt32.toUInt16.toUInt32.toInt32), .val (.int (2 : Int32)), .val (.ref b121), .val (.ref b140), .val (.ref b156), .val (.double (9221120237041090560 : UInt64)), .second, .val (.double (9221120237041090560 : UInt64)), .second, .val (.double (9221120237041090560 : UInt64)), .second, .val (.int (1 : Int32)), .val (.int (1 : Int32)), .val (.int (1 : Int32))] [(.int (1 : Int32))])) (fun t kk => ?_) ?_
    · show Steps p.tables e below (T182.setTop (mkF m 182 _ [(.ref nb), (.ref nb)])) t
      refine OwnX.pAcmp P183 rfl rfl (pc0 := 182) (pc' := 185) (same := true) rfl (hb hby at_182) rfl (decide_eq_true rfl) (by decide) (by decide) ?_
      show Steps p.tables e below (T182.setTop (mkF m 185 _ [])) t
      refine XS.iconst P183.here P183.x rfl (hb hby at_185) ?_
      show Steps p.tables e below (T182.setTop (mkF m 186 _ [(.int (1 : Int32))])) t
      refine XS.goto P183.here P183.x rfl (pc0 := 186) (pc' := 190) rfl (hb hby at_186) (by decide) (by decide) ?_
      show Steps p.tables e below (T182.setTop (mkF m 190 _ [(.int (1 : Int32))])) t
      refine XS.istore P183.here P183.x rfl (hb hby at_190) rfl (l' := #[.val (.int p0), .val (.int p1), .val (.int p2), .val (.int p3), .val (.int (p0 &&& (255 : Int32)).toUInt32.toUInt16.toUInt32.toInt32), .val (.int (p1 &&& (255 : Int32)).toUInt32.toUInt16.toUInt32.toInt32), .val (.int (p2 &&& (255 : Int32)).toUInt32.toUInt16.toUInt32.toInt32), .val (.int (2 : Int32)), .val (.ref b121), .val (.ref b140), .val (.ref b156), .val (.double (9221120237041090560 : UInt64)), .second, .val (.double (9221120237041090560 : UInt64)), .second, .val (.double (9221120237041090560 : UInt64)), .second, .val (.int (1 : Int32)), .val (.int (1 : Int32)), .unset]) rfl ?_
      show Steps p.tables e below (T182.setTop (mkF m 192 _ [])) t
      refine XS.dload P183.here P183.x rfl (hb hby at_192) rfl ?_
      show Steps p.tables e below (T182.setTop (mkF m 194 _ [(.double (9221120237041090560 : UInt64))])) t
      refine XS.dload P183.here P183.x rfl (hb hby at_194) rfl ?_
      show Steps p.tables e below (T182.setTop (mkF m 196 _ [(.double (9221120237041090560 : UInt64)), (.double (9221120237041090560 : UInt64))])) t
      refine XS.dcmpS P183.here P183.x rfl (hb hby at_196) rfl (show cmpValue (FP.dcmp (9221120237041090560 : UInt64) (9221120237041090560 : UInt64)) .l = (-1 : Int32) from by decide +kernel) ?_
      show Steps p.tables e below (T182.setTop (mkF m 197 _ [(.int (-1 : Int32))])) t
      refine XS.ifNo P183.here P183.x rfl (hb hby at_197) rfl (i0W_eq_f (by decide)) ?_
      show Steps p.tables e below (T182.setTop (mkF m 200 _ [])) t
      refine XS.dload P183.here P183.x rfl (hb hby at_200) rfl ?_
      show Steps p.tables e below (T182.setTop (mkF m 202 _ [(.double (9221120237041090560 : UInt64))])) t
      refine XS.dload P183.here P183.x rfl (hb hby at_202) rfl ?_
      show Steps p.tables e below (T182.setTop (mkF m 204 _ [(.double (9221120237041090560 : UInt64)), (.double (9221120237041090560 : UInt64))])) t
      refine XS.dcmpS P183.here P183.x rfl (hb hby at_204) rfl (show cmpValue (FP.dcmp (9221120237041090560 : UInt64) (9221120237041090560 : UInt64)) .l = (-1 : Int32) from by decide +kernel) ?_
      show Steps p.tables e below (T182.setTop (mkF m 205 _ [(.int (-1 : Int32))])) t
      refine XS.ifNo P183.here P183.x rfl (hb hby at_205) rfl (i0W_eq_f (by decide)) ?_
      show Steps p.tables e below (T182.setTop (mkF m 208 _ [])) t
      refine XS.dload P183.here P183.x rfl (hb hby at_208) rfl ?_
      show Steps p.tables e below (T182.setTop (mkF m 210 _ [(.double (9221120237041090560 : UInt64))])) t
      refine XS.dload P183.here P183.x rfl (hb hby at_210) rfl ?_
      show Steps p.tables e below (T182.setTop (mkF m 212 _ [(.double (9221120237041090560 : UInt64)), (.double (9221120237041090560 : UInt64))])) t
      refine XS.dcmpS P183.here P183.x rfl (hb hby at_212) rfl (show cmpValue (FP.dcmp (9221120237041090560 : UInt64) (9221120237041090560 : UInt64)) .l = (-1 : Int32) from by decide +kernel) ?_
      show Steps p.tables e below (T182.setTop (mkF m 213 _ [(.int (-1 : Int32))])) t
      refine XS.ifNo P183.here P183.x rfl (hb hby at_213) rfl (i0W_eq_f (by decide)) ?_
      show Steps p.tables e below (T182.setTop (mkF m 216 _ [])) t
      refine XS.iconst P183.here P183.x rfl (hb hby at_216) ?_
      show Steps p.tables e below (T182.setTop (mkF m 217 _ [(.int (1 : Int32))])) t
      refine XS.goto P183.here P183.x rfl (pc0 := 217) (pc' := 221) rfl (hb hby at_217) (by decide) (by decide) ?_
      show Steps p.tables e below (T182.setTop (mkF m 221 _ [(.int (1 : Int32))])) t
      refine XS.istore P183.here P183.x rfl (hb hby at_221) rfl (l' := #[.val (.int p0), .val (.int p1), .val (.int p2), .val (.int p3), .val (.int (p0 &&& (255 : Int32)).toUInt32.toUInt16.toUInt32.toInt32), .val (.int (p1 &&& (255 : Int32)).toUInt32.toUInt16.toUInt32.toInt32), .val (.int (p2 &&& (255 : Int32)).toUInt32.toUInt16.toUInt32.toInt32), .val (.int (2 : Int32)), .val (.ref b121), .val (.ref b140), .val (.ref b156), .val (.double (9221120237041090560 : UInt64)), .second, .val (.double (9221120237041090560 : UInt64)), .second, .val (.double (9221120237041090560 : UInt64)), .second, .val (.int (1 : Int32)), .val (.int (1 : Int32)), .val (.int (1 : Int32))]) rfl ?_
      show Steps p.tables e below (T182.setTop (mkF m 223 _ [])) t
      refine XS.iload P183.here P183.x rfl (hb hby at_223) rfl ?_
      show Steps p.tables e below (T182.setTop (mkF m 225 _ [(.int (1 : Int32))])) t
      refine XS.ifNo P183.here P183.x rfl (hb hby at_225) rfl (i0W_eq_f (by decide)) ?_
      show Steps p.tables e below (T182.setTop (mkF m 228 _ [])) t
      refine XS.iload P183.here P183.x rfl (hb hby at_228) rfl ?_
      show Steps p.tables e below (T182.setTop (mkF m 230 _ [(.int (1 : Int32))])) t
      refine XS.ifNo P183.here P183.x rfl (hb hby at_230) rfl (i0W_eq_f (by decide)) ?_
      show Steps p.tables e below (T182.setTop (mkF m 233 _ [])) t
      refine XS.iload P183.here P183.x rfl (hb hby at_233) rfl ?_
      show Steps p.tables e below (T182.setTop (mkF m 235 _ [(.int (1 : Int32))])) t
      refine XS.ifNo P183.here P183.x rfl (hb hby at_235) rfl (i0W_eq_f (by decide)) ?_
      show Steps p.tables e below (T182.setTop (mkF m 238 _ [])) t
      refine XS.iconst P183.here P183.x rfl (hb hby at_238) ?_
      show Steps p.tables e below (T182.setTop (mkF m 239 _ [(.int (1 : Int32))])) t
      refine XS.goto P183.here P183.x rfl (pc0 := 239) (pc' := 243) rfl (hb hby at_239) (by decide) (by decide) ?_
      exact kk
    exact OwnX.wRet P183 (t := .boolean) hret (narrow_01 (Or.inr rfl)) (Or.inl ⟨rfl, Or.inr (Or.inl rfl), _, rfl⟩) (hb hby at_243) rfl
  · have P0x := P0.pos (ws₂ := []) (fun _ q_ => q_)
    refine OwnX.Done.stepL (pc' := 86) (st' := [(.int (3 : Int32))]) (fun t kk => ?_) ?_
    · show Steps p.tables e below (T0.setTop (mkF m 29 _ [])) t
      refine XS.iload P0x.here P0x.x rfl (hb hby at_29) rfl ?_
      show Steps p.tables e below (T0.setTop (mkF m 31 _ [(.int (3 : Int32))])) t
      refine XS.ifYes P0x.here P0x.x rfl (pc0 := 31) (pc' := 42) rfl (hb hby at_31) rfl (i0W_ne_t (by decide)) (by decide) (by decide) ?_
      show Steps p.tables e below (T0.setTop (mkF m 42 _ [])) t
      refine XS.iload P0x.here P0x.x rfl (hb hby at_42) rfl ?_
      show Steps p.tables e below (T0.setTop (mkF m 44 _ [(.int (3 : Int32))])) t
      refine XS.iconst P0x.here P0x.x rfl (hb hby at_44) ?_
      show Steps p.tables e below (T0.setTop (mkF m 45 _ [(.int (1 : Int32)), (.int (3 : Int32))])) t
      refine XS.icmpYes P0x.here P0x.x rfl (pc0 := 45) (pc' := 61) rfl (hb hby at_45) rfl (iiW_ne_t (by decide)) (by decide) (by decide) ?_
      show Steps p.tables e below (T0.setTop (mkF m 61 _ [])) t
      refine XS.iload P0x.here P0x.x rfl (hb hby at_61) rfl ?_
      show Steps p.tables e below (T0.setTop (mkF m 63 _ [(.int (3 : Int32))])) t
      refine XS.iconst P0x.here P0x.x rfl (hb hby at_63) ?_
      show Steps p.tables e below (T0.setTop (mkF m 64 _ [(.int (2 : Int32)), (.int (3 : Int32))])) t
      refine XS.icmpYes P0x.here P0x.x rfl (pc0 := 64) (pc' := 85) rfl (hb hby at_64) rfl (iiW_ne_t (by decide)) (by decide) (by decide) ?_
      show Steps p.tables e below (T0.setTop (mkF m 85 _ [])) t
      refine XS.iconst P0x.here P0x.x rfl (hb hby at_85) ?_
      exact kk
    refine OwnX.wNewA (aty := .char) P0x (tw0 hw) (hb hby at_86) rfl (N := 3) rfl (cap := 3) (Nat.le_refl _) (by decide) (by decide) (by decide) (ad := "[C") (by decide) (ty := .char) (dv := (.int (0 : Int32))) rfl rfl (k' := 1) (n' := 3) rfl rfl (fun T184 h186 b187 g188 lt189 P185 E190 A191 X192 => ?_)
    have ge_b187 : h0.size ≤ b187 := by have := P0x.ge; omega
    show OwnX.Done _ _ _ _ _ _ _ _ _ _ _ _ _ _ _ T184 (mkF m 88 _ [(.ref b187)])
    refine OwnX.Done.stepL (pc' := 92) (st' := [(.int (p0 &&& (255 : Int32)).toUInt32.toUInt16.toUInt32.toInt32), (.int (0 : Int32)), (.ref b187), (.ref b187)]) (fun t kk => ?_) ?_
    · show Steps p.tables e below (T184.setTop (mkF m 88 _ [(.ref b187)])) t
      refine XS.dup P185.here P185.x rfl (hb hby at_88) rfl rfl ?_
      show Steps p.tables e below (T184.setTop (mkF m 89 _ [(.ref b187), (.ref b187)])) t
      refine XS.iconst P185.here P185.x rfl (hb hby at_89) ?_
      show Steps p.tables e below (T184.setTop (mkF m 90 _ [(.int (0 : Int32)), (.ref b187), (.ref b187)])) t
      refine XS.iload P185.here P185.x rfl (hb hby at_90) rfl ?_
      exact kk
    refine OwnX.wCastore P185 (f := (fun _ => (0 : Int32))) A191 (j := (0 : Int32)) (i := 0) rfl (by decide) (Or.inr ge_b187) (hb hby at_92) rfl (fun T193 h195 P194 W196 A197 => ?_)
    have szh195 : h195.size = h186.size := W196.size
    show OwnX.Done _ _ _ _ _ _ _ _ _ _ _ _ _ _ _ T193 (mkF m 93 _ [(.ref b187)])
    refine OwnX.Done.stepL (pc' := 97) (st' := [(.int (p1 &&& (255 : Int32)).toUInt32.toUInt16.toUInt32.toInt32), (.int (1 : Int32)), (.ref b187), (.ref b187)]) (fun t kk => ?_) ?_
    · show Steps p.tables e below (T193.setTop (mkF m 93 _ [(.ref b187)])) t
      refine XS.dup P194.here P194.x rfl (hb hby at_93) rfl rfl ?_
      show Steps p.tables e below (T193.setTop (mkF m 94 _ [(.ref b187), (.ref b187)])) t
      refine XS.iconst P194.here P194.x rfl (hb hby at_94) ?_
      show Steps p.tables e below (T193.setTop (mkF m 95 _ [(.int (1 : Int32)), (.ref b187), (.ref b187)])) t
      refine XS.iload P194.here P194.x rfl (hb hby at_95) rfl ?_
      exact kk
    refine OwnX.wCastore P194 (f := (oupd (fun _ => (0 : Int32)) 0 (nar .char (p0 &&& (255 : Int32)).toUInt32.toUInt16.toUInt32.toInt32))) A197 (j := (1 : Int32)) (i := 1) rfl (by decide) (Or.inr ge_b187) (hb hby at_97) rfl (fun T198 h200 P199 W201 A202 => ?_)
    have szh200 : h200.size = h195.size := W201.size
    show OwnX.Done _ _ _ _ _ _ _ _ _ _ _ _ _ _ _ T198 (mkF m 98 _ [(.ref b187)])
    refine OwnX.Done.stepL (pc' := 102) (st' := [(.int (p2 &&& (255 : Int32)).toUInt32.toUInt16.toUInt32.toInt32), (.int (2 : Int32)), (.ref b187), (.ref b187)]) (fun t kk => ?_) ?_
    · show Steps p.tables e below (T198.setTop (mkF m 98 _ [(.ref b187)])) t
      refine XS.dup P199.here P199.x rfl (hb hby at_98) rfl rfl ?_
      show Steps p.tables e below (T198.setTop (mkF m 99 _ [(.ref b187), (.ref b187)])) t
      refine XS.iconst P199.here P199.x rfl (hb hby at_99) ?_
      show Steps p.tables e below (T198.setTop (mkF m 100 _ [(.int (2 : Int32)), (.ref b187), (.ref b187)])) t
      refine XS.iload P199.here P199.x rfl (hb hby at_100) rfl ?_
      exact kk
    refine OwnX.wCastore P199 (f := (oupd (oupd (fun _ => (0 : Int32)) 0 (nar .char (p0 &&& (255 : Int32)).toUInt32.toUInt16.toUInt32.toInt32)) 1 (nar .char (p1 &&& (255 : Int32)).toUInt32.toUInt16.toUInt32.toInt32))) A202 (j := (2 : Int32)) (i := 2) rfl (by decide) (Or.inr ge_b187) (hb hby at_102) rfl (fun T203 h205 P204 W206 A207 => ?_)
    have szh205 : h205.size = h200.size := W206.size
    show OwnX.Done _ _ _ _ _ _ _ _ _ _ _ _ _ _ _ T203 (mkF m 103 _ [(.ref b187)])
    refine OwnX.Done.step (T' := T203) (g' := (mkF m 105 #[.val (.int p0), .val (.int p1), .val (.int p2), .val (.int p3), .val (.int (p0 &&& (255 : Int32)).toUInt32.toUInt16.toUInt32.toInt32), .val (.int (p1 &&& (255 : Int32)).toUInt32.toUInt16.toUInt32.toInt32), .val (.int (p2 &&& (255 : Int32)).toUInt32.toUInt16.toUInt32.toInt32), .val (.int (3 : Int32)), .val (.ref b187), .unset, .unset, .unset, .unset, .unset, .unset, .unset, .unset, .unset, .unset, .unset] [])) (fun t kk => ?_) ?_
    · show Steps p.tables e below (T203.setTop (mkF m 103 _ [(.ref b187)])) t
      refine XS.astore P204.here P204.x rfl (hb hby at_103) rfl rfl (l' := #[.val (.int p0), .val (.int p1), .val (.int p2), .val (.int p3), .val (.int (p0 &&& (255 : Int32)).toUInt32.toUInt16.toUInt32.toInt32), .val (.int (p1 &&& (255 : Int32)).toUInt32.toUInt16.toUInt32.toInt32), .val (.int (p2 &&& (255 : Int32)).toUInt32.toUInt16.toUInt32.toInt32), .val (.int (3 : Int32)), .val (.ref b187), .unset, .unset, .unset, .unset, .unset, .unset, .unset, .unset, .unset, .unset, .unset]) rfl ?_
      exact kk
    refine OwnX.wNew P204 (tw1 hw) (tw2 hw) (tw3 hw) (hb hby at_105) rfl (by decide) (by decide) (k' := 2) (n' := 7) rfl rfl (fun T208 h210 b211 g212 lt213 P209 E214 X215 D216 => ?_)
    have ge_b211 : h0.size ≤ b211 := by have := P204.ge; omega
    have F217 : Fld Z h210 b211 "java/lang/String" "coder" "B" (.int (0 : Int32)) := D216 (Or.inr (tw27 hw)) (ty := .byte) (by decide)
    have F218 : Fld Z h210 b211 "java/lang/String" "value" "[B" .null := D216 (Or.inr (tw29 hw)) (ty := (.array .byte)) (by decide)
    show OwnX.Done _ _ _ _ _ _ _ _ _ _ _ _ _ _ _ T208 (mkF m 108 _ [(.ref b211)])
    refine OwnX.Done.stepL (pc' := 111) (st' := [(.ref b187), (.ref b211), (.ref b211)]) (fun t kk => ?_) ?_
    · show Steps p.tables e below (T208.setTop (mkF m 108 _ [(.ref b211)])) t
      refine XS.dup P209.here P209.x rfl (hb hby at_108) rfl rfl ?_
      show Steps p.tables e below (T208.setTop (mkF m 109 _ [(.ref b211), (.ref b211)])) t
      refine XS.aload P209.here P209.x rfl (hb hby at_109) rfl rfl ?_
      exact kk
    have f221 := (A207.ext E214)
    have f222 := (((((S0.ext E190).wr W196).wr W201).wr W206).ext E214)
    refine OwnX.wCallI P209 (m_str1_3 l Z a0 hw hs b211 b187 (oupd (oupd (oupd (fun _ => (0 : Int32)) 0 (nar .char (p0 &&& (255 : Int32)).toUInt32.toUInt16.toUInt32.toInt32)) 1 (nar .char (p1 &&& (255 : Int32)).toUInt32.toUInt16.toUInt32.toInt32)) 2 (nar .char (p2 &&& (255 : Int32)).toUInt32.toUInt16.toUInt32.toInt32)) cs h210 X215 F218 F217 (by first | assumption | exact Ne.symm (by assumption) | exact adr_ne (by omega) | omega) f221 (own_q _) (own_q _) (own_q _) f222 hcs) rfl (tw4 hw) (tw5 hw) (tw3 hw) (tw6 hw) (by decide) (a := b211) (by rw [hml]; rfl) (lenOf pd_6 rfl) (argsL := [(.ref b187)]) (rest := [(.ref b211)]) rfl rfl (W := 1) (Nat.le_of_eq rfl) (by decide) (by decide) (by decide) (by decide) (allS (Or.inr ge_b211) all0) (hb hby at_111) rfl (k' := 3) (n' := 10) rfl rfl ?_
    rintro T219 h223 _ P220 K224 rfl
    have szh223 : h210.size ≤ h223.size := K224.1
    show OwnX.Done _ _ _ _ _ _ _ _ _ _ _ _ _ _ _ T219 (mkF m 114 _ [(.ref b211)])
    refine OwnX.Done.step (T' := T219) (g' := (mkF m 118 #[.val (.int p0), .val (.int p1), .val (.int p2), .val (.int p3), .val (.int (p0 &&& (255 : Int32)).toUInt32.toUInt16.toUInt32.toInt32), .val (.int (p1 &&& (255 : Int32)).toUInt32.toUInt16.toUInt32.toInt32), .val (.int (p2 &&& (255 : Int32)).toUInt32.toUInt16.toUInt32.toInt32), .val (.int (3 : Int32)), .val (.ref b187), .val (.ref b211), .unset, .unset, .unset, .unset, .unset, .unset, .unset, .unset, .unset, .unset] [(.ref b211)])) (fun t kk => ?_) ?_
    · show Steps p.tables e below (T219.setTop (mkF m 114 _ [(.ref b211)])) t
      refine XS.astore P220.here P220.x rfl (hb hby at_114) rfl rfl (l' := #[.val (.int p0), .val (.int p1), .val (.int p2), .val (.int p3), .val (.int (p0 &&& (255 : Int32)).toUInt32.toUInt16.toUInt32.toInt32), .val (.int (p1 &&& (255 : Int32)).toUInt32.toUInt16.toUInt32.toInt32), .val (.int (p2 &&& (255 : Int32)).toUInt32.toUInt16.toUInt32.toInt32), .val (.int (3 : Int32)), .val (.ref b187), .val (.ref b211), .unset, .unset, .unset, .unset, .unset, .unset, .unset, .unset, .unset, .unset]) rfl ?_
      show Steps p.tables e below (T219.setTop (mkF m 116 _ [])) t
      refine XS.aload P220.here P220.x rfl (hb hby at_116) rfl rfl ?_
      exact kk
    have f234 := (staKeep (((((S1.ext E190).wr W196).wr W201).wr W206).ext E214) K224 (nsS (Exa.nostat X215) ns0))
    refine OwnX.wCallS P220 (m_none l Z a0 hw hs b211 nb h223 f234) (tw30 hw) (tw31 hw) (tw32 hw) (tw33 hw) (by decide) (by rw [hml]; rfl) (lenOf pd_7 rfl) (argsL := [(.ref b211)]) (rest := []) rfl rfl (W := 0) (Nat.le_of_eq rfl) (by decide) (by decide) (by decide) (by decide) (by simp) (hb hby at_118) rfl (k' := 4) (n' := 15) rfl rfl ?_
    rintro T225 h235 _ P226 K236 ⟨b227, rfl, X228, F229, F230, F231, F232, F233⟩
    have szh235 : h223.size ≤ h235.size := K236.1
    show OwnX.Done _ _ _ _ _ _ _ _ _ _ _ _ _ _ _ T225 (mkF m 121 _ [(.ref b227)])
    refine OwnX.Done.step (T' := T225) (g' := (mkF m 125 #[.val (.int p0), .val (.int p1), .val (.int p2), .val (.int p3), .val (.int (p0 &&& (255 : Int32)).toUInt32.toUInt16.toUInt32.toInt32), .val (.int (p1 &&& (255 : Int32)).toUInt32.toUInt16.toUInt32.toInt32), .val (.int (p2 &&& (255 : Int32)).toUInt32.toUInt16.toUInt32.toInt32), .val (.int (3 : Int32)), .val (.ref b187), .val (.ref b211), .val (.ref b227), .unset, .unset, .unset, .unset, .unset, .unset, .unset, .unset, .unset] [(.ref b227)])) (fun t kk => ?_) ?_
    · show Steps p.tables e below (T225.setTop (mkF m 121 _ [(.ref b227)])) t
      refine XS.astore P226.here P226.x rfl (hb hby at_121) rfl rfl (l' := #[.val (.int p0), .val (.int p1), .val (.int p2), .val (.int p3), .val (.int (p0 &&& (255 : Int32)).toUInt32.toUInt16.toUInt32.toInt32), .val (.int (p1 &&& (255 : Int32)).toUInt32.toUInt16.toUInt32.toInt32), .val (.int (p2 &&& (255 : Int32)).toUInt32.toUInt16.toUInt32.toInt32), .val (.int (3 : Int32)), .val (.ref b187), .val (.ref b211), .val (.ref b227), .unset, .unset, .unset, .unset, .unset, .unset, .unset, .unset, .unset]) rfl ?_
      show Steps p.tables e below (T225.setTop (mkF m 123 _ [])) t
      refine XS.aload P226.here P226.x rfl (hb hby at_123) rfl rfl ?_
      exact kk
    refine OwnX.wCallV P226 (m_g_linear l Z a0 hw hs b227 (9221120237041090560 : UInt64) h235 F231) (tw59 hw) (tw60 hw) (tw62 hw) (tw62 hw) (tw61 hw) (tw32 hw) (tw63 hw) (by decide) X228 (by rw [hml]; rfl) (lenOf pd_8 rfl) (argsL := []) (rest := []) rfl rfl (W := 0) (Nat.le_of_eq rfl) (by decide) (by decide) (by decide) (by decide) (by simp) (hb hby at_125) rfl (k' := 4) (n' := 15) rfl rfl ?_
    rintro T237 _ _ P238 - ⟨rfl, rfl⟩
    show OwnX.Done _ _ _ _ _ _ _ _ _ _ _ _ _ _ _ T237 (mkF m 128 _ [(.double (9221120237041090560 : UInt64))])
    refine OwnX.Done.step (T' := T237) (g' := (mkF m 132 #[.val (.int p0), .val (.int p1), .val (.int p2), .val (.int p3), .val (.int (p0 &&& (255 : Int32)).toUInt32.toUInt16.toUInt32.toInt32), .val (.int (p1 &&& (255 : Int32)).toUInt32.toUInt16.toUInt32.toInt32), .val (.int (p2 &&& (255 : Int32)).toUInt32.toUInt16.toUInt32.toInt32), .val (.int (3 : Int32)), .val (.ref b187), .val (.ref b211), .val (.ref b227), .val (.double (9221120237041090560 : UInt64)), .second, .unset, .unset, .unset, .unset, .unset, .unset, .unset] [(.ref b227)])) (fun t kk => ?_) ?_
    · show Steps p.tables e below (T237.setTop (mkF m 128 _ [(.double (9221120237041090560 : UInt64))])) t
      refine XS.dstore P238.here P238.x rfl (hb hby at_128) rfl (l' := #[.val (.int p0), .val (.int p1), .val (.int p2), .val (.int p3), .val (.int (p0 &&& (255 : Int32)).toUInt32.toUInt16.toUInt32.toInt32), .val (.int (p1 &&& (255 : Int32)).toUInt32.toUInt16.toUInt32.toInt32), .val (.int (p2 &&& (255 : Int32)).toUInt32.toUInt16.toUInt32.toInt32), .val (.int (3 : Int32)), .val (.ref b187), .val (.ref b211), .val (.ref b227), .val (.double (9221120237041090560 : UInt64)), .second, .unset, .unset, .unset, .unset, .unset, .unset, .unset]) rfl ?_
      show Steps p.tables e below (T237.setTop (mkF m 130 _ [])) t
      refine XS.aload P238.here P238.x rfl (hb hby at_130) rfl rfl ?_
      exact kk
    refine OwnX.wCallV P238 (m_g_logarithmic l Z a0 hw hs b227 (9221120237041090560 : UInt64) h235 F232) (tw64 hw) (tw65 hw) (tw67 hw) (tw67 hw) (tw66 hw) (tw32 hw) (tw68 hw) (by decide) X228 (by rw [hml]; rfl) (lenOf pd_8 rfl) (argsL := []) (rest := []) rfl rfl (W := 0) (Nat.le_of_eq rfl) (by decide) (by decide) (by decide) (by decide) (by simp) (hb hby at_132) rfl (k' := 4) (n' := 15) rfl rfl ?_
    rintro T239 _ _ P240 - ⟨rfl, rfl⟩
    show OwnX.Done _ _ _ _ _ _ _ _ _ _ _ _ _ _ _ T239 (mkF m 135 _ [(.double (9221120237041090560 : UInt64))])
    refine OwnX.Done.step (T' := T239) (g' := (mkF m 139 #[.val (.int p0), .val (.int p1), .val (.int p2), .val (.int p3), .val (.int (p0 &&& (255 : Int32)).toUInt32.toUInt16.toUInt32.toInt32), .val (.int (p1 &&& (255 : Int32)).toUInt32.toUInt16.toUInt32.toInt32), .val (.int (p2 &&& (255 : Int32)).toUInt32.toUInt16.toUInt32.toInt32), .val (.int (3 : Int32)), .val (.ref b187), .val (.ref b211), .val (.ref b227), .val (.double (9221120237041090560 : UInt64)), .second, .val (.double (9221120237041090560 : UInt64)), .second, .unset, .unset, .unset, .unset, .unset] [(.ref b227)])) (fun t kk => ?_) ?_
    · show Steps p.tables e below (T239.setTop (mkF m 135 _ [(.double (9221120237041090560 : UInt64))])) t
      refine XS.dstore P240.here P240.x rfl (hb hby at_135) rfl (l' := #[.val (.int p0), .val (.int p1), .val (.int p2), .val (.int p3), .val (.int (p0 &&& (255 : Int32)).toUInt32.toUInt16.toUInt32.toInt32), .val (.int (p1 &&& (255 : Int32)).toUInt32.toUInt16.toUInt32.toInt32), .val (.int (p2 &&& (255 : Int32)).toUInt32.toUInt16.toUInt32.toInt32), .val (.int (3 : Int32)), .val (.ref b187), .val (.ref b211), .val (.ref b227), .val (.double (9221120237041090560 : UInt64)), .second, .val (.double (9221120237041090560 : UInt64)), .second, .unset, .unset, .unset, .unset, .unset]) rfl ?_
      show Steps p.tables e below (T239.setTop (mkF m 137 _ [])) t
      refine XS.aload P240.here P240.x rfl (hb hby at_137) rfl rfl ?_
      exact kk
    refine OwnX.wCallV P240 (m_g_exponential l Z a0 hw hs b227 (9221120237041090560 : UInt64) h235 F233) (tw69 hw) (tw70 hw) (tw72 hw) (tw72 hw) (tw71 hw) (tw32 hw) (tw73 hw) (by decide) X228 (by rw [hml]; rfl) (lenOf pd_8 rfl) (argsL := []) (rest := []) rfl rfl (W := 0) (Nat.le_of_eq rfl) (by decide) (by decide) (by decide) (by decide) (by simp) (hb hby at_139) rfl (k' := 4) (n' := 15) rfl rfl ?_
    rintro T241 _ _ P242 - ⟨rfl, rfl⟩
    show OwnX.Done _ _ _ _ _ _ _ _ _ _ _ _ _ _ _ T241 (mkF m 142 _ [(.double (9221120237041090560 : UInt64))])
    refine OwnX.Done.step (T' := T241) (g' := (mkF m 146 #[.val (.int p0), .val (.int p1), .val (.int p2), .val (.int p3), .val (.int (p0 &&& (255 : Int32)).toUInt32.toUInt16.toUInt32.toInt32), .val (.int (p1 &&& (255 : Int32)).toUInt32.toUInt16.toUInt32.toInt32), .val (.int (p2 &&& (255 : Int32)).toUInt32.toUInt16.toUInt32.toInt32), .val (.int (3 : Int32)), .val (.ref b187), .val (.ref b211), .val (.ref b227), .val (.double (9221120237041090560 : UInt64)), .second, .val (.double (9221120237041090560 : UInt64)), .second, .val (.double (9221120237041090560 : UInt64)), .second, .unset, .unset, .unset] [(.ref b227)])) (fun t kk => ?_) ?_
    · show Steps p.tables e below (T241.setTop (mkF m 142 _ [(.double (9221120237041090560 : UInt64))])) t
      refine XS.dstore P242.here P242.x rfl (hb hby at_142) rfl (l' := #[.val (.int p0), .val (.int p1), .val (.int p2), .val (.int p3), .val (.int (p0 &&& (255 : Int32)).toUInt32.toUInt16.toUInt32.toInt32), .val (.int (p1 &&& (255 : Int32)).toUInt32.toUInt16.toUInt32.toInt32), .val (.int (p2 &&& (255 : Int32)).toUInt32.toUInt16.toUInt32.toInt32), .val (.int (3 : Int32)), .val (.ref b187), .val (.ref b211), .val (.ref b227), .val (.double (9221120237041090560 : UInt64)), .second, .val (.double (9221120237041090560 : UInt64)), .second, .val (.double (9221120237041090560 : UInt64)), .second, .unset, .unset, .unset]) rfl ?_
      show Steps p.tables e below (T241.setTop (mkF m 144 _ [])) t
      refine XS.aload P242.here P242.x rfl (hb hby at_144) rfl rfl ?_
      exact kk
    refine OwnX.wCallV P242 (m_g_server l Z a0 hw hs b227 b211 h235 F229) (tw74 hw) (tw75 hw) (tw77 hw) (tw77 hw) (tw76 hw) (tw32 hw) (tw78 hw) (by decide) X228 (by rw [hml]; rfl) (lenOf pd_9 rfl) (argsL := []) (rest := []) rfl rfl (W := 0) (Nat.le_of_eq rfl) (by decide) (by decide) (by decide) (by decide) (by simp) (hb hby at_146) rfl (k' := 4) (n' := 15) rfl rfl ?_
    rintro T243 _ _ P244 - ⟨rfl, rfl⟩
    show OwnX.Done _ _ _ _ _ _ _ _ _ _ _ _ _ _ _ T243 (mkF m 149 _ [(.ref b211)])
    refine OwnX.Done.stepL (pc' := 156) (st' := [(.ref b227)]) (fun t kk => ?_) ?_
    · show Steps p.tables e below (T243.setTop (mkF m 149 _ [(.ref b211)])) t
      refine XS.aload P244.here P244.x rfl (hb hby at_149) rfl rfl ?_
      show Steps p.tables e below (T243.setTop (mkF m 151 _ [(.ref b211), (.ref b211)])) t
      refine OwnX.pAcmp P244 rfl rfl (pc0 := 151) (pc' := 154) (same := true) rfl (hb hby at_151) rfl (decide_eq_true rfl) (by decide) (by decide) ?_
      show Steps p.tables e below (T243.setTop (mkF m 154 _ [])) t
      refine XS.aload P244.here P244.x rfl (hb hby at_154) rfl rfl ?_
      exact kk
    refine OwnX.wCallV P244 (m_g_server l Z a0 hw hs b227 b211 h235 F229) (tw74 hw) (tw75 hw) (tw77 hw) (tw77 hw) (tw76 hw) (tw32 hw) (tw78 hw) (by decide) X228 (by rw [hml]; rfl) (lenOf pd_9 rfl) (argsL := []) (rest := []) rfl rfl (W := 0) (Nat.le_of_eq rfl) (by decide) (by decide) (by decide) (by decide) (by simp) (hb hby at_156) rfl (k' := 4) (n' := 15) rfl rfl ?_
    rintro T245 _ _ P246 - ⟨rfl, rfl⟩
    show OwnX.Done _ _ _ _ _ _ _ _ _ _ _ _ _ _ _ T245 (mkF m 159 _ [(.ref b211)])
    refine OwnX.Done.stepL (pc' := 161) (st' := [(.ref b211), (.ref b211)]) (fun t kk => ?_) ?_
    · show Steps p.tables e below (T245.setTop (mkF m 159 _ [(.ref b211)])) t
      refine XS.aload P246.here P246.x rfl (hb hby at_159) rfl rfl ?_
      exact kk
    have f249 := ((X215.keep K224).keep K236)
    refine OwnX.wCallV P246 (m_eqs l Z a0 hw hs b211 h235) (tw79 hw) (tw80 hw) (tw82 hw) (tw82 hw) (tw81 hw) (tw3 hw) (tw83 hw) (by decide) f249 (by rw [hml]; rfl) (lenOf pd_10 rfl) (argsL := [(.ref b211)]) (rest := []) rfl rfl (W := 0) (Nat.le_of_eq rfl) (by decide) (by decide) (by decide) (by decide) (by simp) (hb hby at_161) rfl (k' := 4) (n' := 15) rfl rfl ?_
    rintro T247 _ _ P248 - ⟨rfl, rfl⟩
    show OwnX.Done _ _ _ _ _ _ _ _ _ _ _ _ _ _ _ T247 (mkF m 164 _ [(.int (1 : Int32))])
    refine OwnX.Done.step (T' := T247) (g' := (mkF m 176 #[.val (.int p0), .val (.int p1), .val (.int p2), .val (.int p3), .val (.int (p0 &&& (255 : Int32)).toUInt32.toUInt16.toUInt32.toInt32), .val (.int (p1 &&& (255 : Int32)).toUInt32.toUInt16.toUInt32.toInt32), .val (.int (p2 &&& (255 : Int32)).toUInt32.toUInt16.toUInt32.toInt32), .val (.int (3 : Int32)), .val (.ref b187), .val (.ref b211), .val (.ref b227), .val (.double (9221120237041090560 : UInt64)), .second, .val (.double (9221120237041090560 : UInt64)), .second, .val (.double (9221120237041090560 : UInt64)), .second, .val (.int (1 : Int32)), .unset, .unset] [(.ref b227)])) (fun t kk => ?_) ?_
    · show Steps p.tables e below (T247.setTop (mkF m 164 _ [(.int (1 : Int32))])) t
      refine XS.ifNo P248.here P248.x rfl (hb hby at_164) rfl (i0W_eq_f (by decide)) ?_
      show Steps p.tables e below (T247.setTop (mkF m 167 _ [])) t
      refine XS.iconst P248.here P248.x rfl (hb hby at_167) ?_
      show Steps p.tables e below (T247.setTop (mkF m 168 _ [(.int (1 : Int32))])) t
      refine XS.goto P248.here P248.x rfl (pc0 := 168) (pc' := 172) rfl (hb hby at_168) (by decide) (by decide) ?_
      show Steps p.tables e below (T247.setTop (mkF m 172 _ [(.int (1 : Int32))])) t
      refine XS.istore P248.here P248.x rfl (hb hby at_172) rfl (l' := #[.val (.int p0), .val (.int p1), .val (.int p2), .val (.int p3), .val (.int (p0 &&& (255 : Int32)).toUInt32.toUInt16.toUInt32.toInt32), .val (.int (p1 &&& (255 : Int32)).toUInt32.toUInt16.toUInt32.toInt32), .val (.int (p2 &&& (255 : Int32)).toUInt32.toUInt16.toUInt32.toInt32), .val (.int (3 : Int32)), .val (.ref b187), .val (.ref b211), .val (.ref b227), .val (.double (9221120237041090560 : UInt64)), .second, .val (.double (9221120237041090560 : UInt64)), .second, .val (.double (9221120237041090560 : UInt64)), .second, .val (.int (1 : Int32)), .unset, .unset]) rfl ?_
      show Steps p.tables e below (T247.setTop (mkF m 174 _ [])) t
      refine XS.aload P248.here P248.x rfl (hb hby at_174) rfl rfl ?_
      exact kk
    refine OwnX.wCallV P248 (m_g_kept l Z a0 hw hs b227 nb h235 F230) (tw84 hw) (tw85 hw) (tw87 hw) (tw87 hw) (tw86 hw) (tw32 hw) (tw88 hw) (by decide) X228 (by rw [hml]; rfl) (lenOf pd_11 rfl) (argsL := []) (rest := []) rfl rfl (W := 0) (Nat.le_of_eq rfl) (by decide) (by decide) (by decide) (by decide) (by simp) (hb hby at_176) rfl (k' := 4) (n' := 15) rfl rfl ?_
    rintro T250 _ _ P251 - ⟨rfl, rfl⟩
    show OwnX.Done _ _ _ _ _ _ _ _ _ _ _ _ _ _ _ T250 (mkF m 179 _ [(.ref nb)])
    have f252 := (staKeep f234 K236 ns0)
    refine OwnX.wGetS P251 (host := "") (Or.inl (tw89 hw)) Via.refl f252 (hb hby at_179) rfl (fun T253 P254 => ?_)
    show OwnX.Done _ _ _ _ _ _ _ _ _ _ _ _ _ _ _ T253 (mkF m 182 _ [(.ref nb), (.ref nb)])
    refine OwnX.Done.step (T' := T253) (g' := (mkF m 243 #[.val (.int p0), .val (.int p1), .val (.int p2), .val (.int p3), .val (.int (p0 &&& (255 : Int32)).toUInt32.toUInt16.toUInt32.toInt32), .val (.int (p1 &&& (255 : Int32)).toUInt32.toUInt16.toUInt32.toInt32), .val (.int (p2 &&& (255 : Int32)).toUInt32.toUInt16.toUInt32.toInt32), .val (.int (3 : Int32)), .val (.ref b187), .val (.ref b211), .val (.ref b227), .val (.double (9221120237041090560 : UInt64)), .second, .val (.double (9221120237041090560 : UInt64)), .second, .val (.double (9221120237041090560 : UInt64)), .second, .val (.int (1 : Int32)), .val (.int (1 : Int32)), .val (.int (1 : Int32))] [(.int (1 : Int32))])) (fun t kk => ?_) ?_
    · show Steps p.tables e below (T253.setTop (mkF m 182 _ [(.ref nb), (.ref nb)])) t
      refine OwnX.pAcmp P254 rfl rfl (pc0 := 182) (pc' := 185) (same := true) rfl (hb hby at_182) rfl (decide_eq_true rfl) (by decide) (by decide) ?_
      show Steps p.tables e below (T253.setTop (mkF m 185 _ [])) t
      refine XS.iconst P254.here P254.x rfl (hb hby at_185) ?_
      show Steps p.tables e below (T253.setTop (mkF m 186 _ [(.int (1 : Int32))])) t
      refine XS.goto P254.here P254.x rfl (pc0 := 186) (pc' := 190) rfl (hb hby at_186) (by decide) (by decide) ?_
      show Steps p.tables e below (T253.setTop (mkF m 190 _ [(.int (1 : Int32))])) t
      refine XS.istore P254.here P254.x rfl (hb hby at_190) rfl (l' := #[.val (.int p0), .val (.int p1), .val (.int p2), .val (.int p3), .val (.int (p0 &&& (255 : Int32)).toUInt32.toUInt16.toUInt32.toInt32), .val (.int (p1 &&& (255 : Int32)).toUInt32.toUInt16.toUInt32.toInt32), .val (.int (p2 &&& (255 : Int32)).toUInt32.toUInt16.toUInt32.toInt32), .val (.int (3 : Int32)), .val (.ref b187), .val (.ref b211), .val (.ref b227), .val (.double (9221120237041090560 : UInt64)), .second, .val (.double (9221120237041090560 : UInt64)), .second, .val (.double (9221120237041090560 : UInt64)), .second, .val (.int (1 : Int32)), .val (.int (1 : Int32)), .unset]) rfl ?_
      show Steps p.tables e below (T253.setTop (mkF m 192 _ [])) t
      refine XS.dload P254.here P254.x rfl (hb hby at_192) rfl ?_
      show Steps p.tables e below (T253.setTop (mkF m 194 _ [(.double (9221120237041090560 : UInt64))])) t
      refine XS.dload P254.here P254.x rfl (hb hby at_194) rfl ?_
      show Steps p.tables e below (T253.setTop (mkF m 196 _ [(.double (9221120237041090560 : UInt64)), (.double (9221120237041090560 : UInt64))])) t
      refine XS.dcmpS P254.here P254.x rfl (hb hby at_196) rfl (show cmpValue (FP.dcmp (9221120237041090560 : UInt64) (9221120237041090560 : UInt64)) .l = (-1 : Int32) from by decide +kernel) ?_
      show Steps p.tables e below (T253.setTop (mkF m 197 _ [(.int (-1 : Int32))])) t
      refine XS.ifNo P254.here P254.x rfl (hb hby at_197) rfl (i0W_eq_f (by decide)) ?_
      show Steps p.tables e below (T253.setTop (mkF m 200 _ [])) t
      refine XS.dload P254.here P254.x rfl (hb hby at_200) rfl ?_
      show Steps p.tables e below (T253.setTop (mkF m 202 _ [(.double (9221120237041090560 : UInt64))])) t
      refine XS.dload P254.here P254.x rfl (hb hby at_202) rfl ?_
      show Steps p.tables e below (T253.setTop (mkF m 204 _ [(.double (9221120237041090560 : UInt64)), (.double (9221120237041090560 : UInt64))])) t
      refine XS.dcmpS P254.here P254.x rfl (hb hby at_204) rfl (show cmpValue (FP.dcmp (9221120237041090560 : UInt64) (9221120237041090560 : UInt64)) .l = (-1 : Int32) from by decide +kernel) ?_
      show Steps p.tables e below (T253.setTop (mkF m 205 _ [(.int (-1 : Int32))])) t
      refine XS.ifNo P254.here P254.x rfl (hb hby at_205) rfl (i0W_eq_f (by decide)) ?_
      show Steps p.tables e below (T253.setTop (mkF m 208 _ [])) t
      refine XS.dload P254.here P254.x rfl (hb hby at_208) rfl ?_
      show Steps p.tables e below (T253.setTop (mkF m 210 _ [(.double (9221120237041090560 : UInt64))])) t
      refine XS.dload P254.here P254.x rfl (hb hby at_210) rfl ?_
      show Steps p.tables e below (T253.setTop (mkF m 212 _ [(.double (9221120237041090560 : UInt64)), (.double (9221120237041090560 : UInt64))])) t
      refine XS.dcmpS P254.here P254.x rfl (hb hby at_212) rfl (show cmpValue (FP.dcmp (9221120237041090560 : UInt64) (9221120237041090560 : UInt64)) .l = (-1 : Int32) from by decide +kernel) ?_
      show Steps p.tables e below (T253.setTop (mkF m 213 _ [(.int (-1 : Int32))])) t
      refine XS.ifNo P254.here P254.x rfl (hb hby at_213) rfl (i0W_eq_f (by decide)) ?_
      show Steps p.tables e below (T253.setTop (mkF m 216 _ [])) t
      refine XS.iconst P254.here P254.x rfl (hb hby at_216) ?_
      show Steps p.tables e below (T253.setTop (mkF m 217 _ [(.int (1 : Int32))])) t
      refine XS.goto P254.here P254.x rfl (pc0 := 217) (pc' := 221) rfl (hb hby at_217) (by decide) (by decide) ?_
      show Steps p.tables e below (T253.setTop (mkF m 221 _ [(.int (1 : Int32))])) t
      refine XS.istore P254.here P254.x rfl (hb hby at_221) rfl (l' := #[.val (.int p0), .val (.int p1), .val (.int p2), .val (.int p3), .val (.int (p0 &&& (255 : Int32)).toUInt32.toUInt16.toUInt32.toInt32), .val (.int (p1 &&& (255 : Int32)).toUInt32.toUInt16.toUInt32.toInt32), .val (.int (p2 &&& (255 : Int32)).toUInt32.toUInt16.toUInt32.toInt32), .val (.int (3 : Int32)), .val (.ref b187), .val (.ref b211), .val (.ref b227), .val (.double (9221120237041090560 : UInt64)), .second, .val (.double (9221120237041090560 : UInt64)), .second, .val (.double (9221120237041090560 : UInt64)), .second, .val (.int (1 : Int32)), .val (.int (1 : Int32)), .val (.int (1 : Int32))]) rfl ?_
      show Steps p.tables e below (T253.setTop (mkF m 223 _ [])) t
      refine XS.iload P254.here P254.x rfl (hb hby at_223) rfl ?_
      show Steps p.tables e below (T253.setTop (mkF m 225 _ [(.int (1 : Int32))])) t
      refine XS.ifNo P254.here P254.x rfl (hb hby at_225) rfl (i0W_eq_f (by decide)) ?_
      show Steps p.tables e below (T253.setTop (mkF m 228 _ [])) t
      refine XS.iload P254.here P254.x rfl (hb hby at_228) rfl ?_
      show Steps p.tables e below (T253.setTop (mkF m 230 _ [(.int (1 : Int32))])) t
      refine XS.ifNo P254.here P254.x rfl (hb hby at_230) rfl (i0W_eq_f (by decide)) ?_
      show Steps p.tables e below (T253.setTop (mkF m 233 _ [])) t
      refine XS.iload P254.here P254.x rfl (hb hby at_233) rfl ?_
      show Steps p.tables e below (T253.setTop (mkF m 235 _ [(.int (1 : Int32))])) t
      refine XS.ifNo P254.here P254.x rfl (hb hby at_235) rfl (i0W_eq_f (by decide)) ?_
      show Steps p.tables e below (T253.setTop (mkF m 238 _ [])) t
      refine XS.iconst P254.here P254.x rfl (hb hby at_238) ?_
      show Steps p.tables e below (T253.setTop (mkF m 239 _ [(.int (1 : Int32))])) t
      refine XS.goto P254.here P254.x rfl (pc0 := 239) (pc' := 243) rfl (hb hby at_239) (by decide) (by decide) ?_
      exact kk
    exact OwnX.wRet P254 (t := .boolean) hret (narrow_01 (Or.inr rfl)) (Or.inl ⟨rfl, Or.inr (Or.inl rfl), _, rfl⟩) (hb hby at_243) rfl
set_option maxRecDepth 65536 in
set_option maxHeartbeats 4000000 in
theorem comes_1 {Post : Tables → Env → Array Value → State → Outcome → State → Prop} (hpost : ∀ tb e args s v u, (limb_1_1.after args s (.returned v) u = true ∧ limb_1_2.after args s (.returned v) u = true ∧ True) → ReturnedEndW s (.returned v) u (Jvm.fieldLocs frame_1_writes args s ++ Jvm.arrayLocs frame_1_arrays args s ++ Jvm.staticLocs frame_1_statics s) 24 1152 → Post tb e args s (.returned v) u) :
    ArmFor flags0 classFile x code maxLocals ret World_1 tables_1 room_1 Calls_1 rest_1 Pre_1 Post := by
  intro l hfl _ _ p e ha hc hk s m args below hf hA hF happ hP
  obtain ⟨hcalls, hrest, hpre⟩ := hP
  obtain ⟨-, -, -, hnamed, -, -, -, hat⟩ := (Spec.applies_iff hf).mp happ
  obtain ⟨hg, hn⟩ := and_e (Cond.before_iff.mp (show (Jvm.Cond.and given_1 narrow_1).before args s = true from hpre))
  obtain ⟨h1, g0⟩ := and_e hg
  obtain ⟨q0, g1⟩ := and_e g0
  obtain ⟨q1, g2⟩ := and_e g1
  obtain ⟨q2, g3⟩ := and_e g2
  obtain ⟨w0, w1, w2, w3, rfl⟩ : ∃ w0 w1 w2 w3 : Value, args = #[w0, w1, w2, w3] := by
    have hs : args.size = 4 := by simpa [Cond.value, given_1] using h1
    obtain ⟨L⟩ := args
    match L, hs with
    | [w0, w1, w2, w3], _ => exact ⟨w0, w1, w2, w3, rfl⟩
  have hw := fun d (hd : d ∈ tables_1) => atoms_spec (ws := Jvm.Cond.code x code maxLocals ret :: tables_1) hat d (List.mem_cons_of_mem _ hd)
  have hfit : Fit s := fun {y c} hc i hi => by
    obtain ⟨ha, rfl⟩ := Array.getElem?_eq_some_iff.mp hc
    have q := List.all_eq_true.mp ((Array.all_eq_true_iff_forall_mem.mp hF) _ (Array.getElem_mem ha)) i (List.mem_range.mpr hi)
    simpa [Array.getElem?_eq_getElem hi] using q
  obtain ⟨i0, e0⟩ := is_v q0
  obtain rfl : w0 = (.int i0) := Option.some.inj e0
  obtain ⟨i1, e1⟩ := is_v q1
  obtain rfl : w1 = (.int i1) := Option.some.inj e1
  obtain ⟨i2, e2⟩ := is_v q2
  obtain rfl : w2 = (.int i2) := Option.some.inj e2
  obtain ⟨i3, e3⟩ := is_v g3
  obtain rfl : w3 = (.int i3) := Option.some.inj e3
  obtain ⟨hsets, hown0⟩ := atoms_of _ (rest_1_c_eq ▸ (show rest_1_c.before _ s = true from hrest))
  obtain ⟨nb, enb⟩ := exa_v (show (Jvm.Cond.exactly _ _).value _ _ _ _ _ = _ from hn)
  have S1 : Sta s s.heap "com/example/poll3/poll3/model/CurveFit$Curve" "NONE" "Lcom/example/poll3/poll3/model/CurveFit$Curve;" (.ref nb) := Sta.start enb (Or.inr ⟨(tw37 hw), (tw38 hw)⟩)
  have nCS := not_v (Cond.before_iff.mp (hsets _ (List.mem_of_getElem? (i := 2) rfl)))
  obtain ⟨cs, eCS⟩ := is_v (Cond.before_iff.mp (hsets _ (List.mem_of_getElem? (i := 1) rfl)))
  have S0 : Sta s s.heap "java/lang/String" "COMPACT_STRINGS" "Z" (.int cs) := Sta.start eCS (Or.inl (hsets _ (List.mem_of_getElem? (i := 0) rfl)))
  have hcs : ¬ (cs = (0 : Int32)) := gotF (Cond.eq_ints eCS (Term.int_eval (0))) nCS
  have hh : Jvm.Lit.constHeld s "java/lang/String" 7 := hcalls.1 ("java/lang/String", 7) (List.mem_of_getElem? (i := 0) rfl)
  have hcw : Jvm.Lit.compactW.before _ s = true := (hsets _ (List.mem_of_getElem? (i := 2) rfl))
  have hk0 : OwnY.Kept s s.heap := fun _ _ q_ => q_
  obtain ⟨n, o, h1, h2, h3, _, L, rfl, ⟨rfl, N, -⟩, hq⟩ := m_law l s _ hw hsets i0 i1 i2 i3 nb cs s.heap S1 S0 hcs hk0 hh hcw p e ha hc hk s m _ below hf ((Spec.applies_iff_loose hf).mp happ).1 ⟨rfl, State.Warmed39.refl s, rfl, IB.start⟩ trivial
  refine ⟨n, _, h1, h2, h3, hpost _ _ _ _ _ _ ⟨Cond.after_iff.mpr rfl, Cond.after_iff.mpr (eq_i res_at (Term.int_eval (1)) rfl), trivial⟩ ⟨hq.1, hq.2.1, hq.2.2.1, (hq.2.2.2.sift fun y hy => Or.inr ((N y hy).resolve_left (by simp))).mono (by decide) (by decide)⟩⟩
theorem main_1_1 : Claimed_1_1 := comes_1 fun _ _ _ _ _ _ h hF => ⟨h.1, hF⟩
theorem main_1_2 : Claimed_1_2 := comes_1 fun _ _ _ _ _ _ h hF => ⟨h.2.1, hF⟩
end Jvm.Pilot.@@N@@
namespace Jvm.Pilot.@@N@@
open Jvm Jvm.ClassFile Sem Op Lib Jvm.Free Jvm.Stand Jvm.Pilot.@@N@@.Jvm.D
/-! MADE BY PROGRAM (witnessworld.py) out of the Statement's table words and the real class files: 23 classes; the members and pool entries that the words name. The judged class is class 1, her method 1. -/
namespace start1
open Jvm.ClassFile
def u (s : String) : CpInfo := .utf8 (stringToUtf16 s)
/-- a pool by its gaps: so many unusable entries, then the entry; so many at the end -/
def gap : Nat → List CpInfo → List CpInfo
  | 0, r => r
  | n + 1, r => .unusable :: gap n r
def poolList (es : List (Nat × CpInfo)) (last : Nat) : List CpInfo := es.foldr (fun e r => gap e.1 (e.2 :: r)) (gap last [])
def pool (es : List (Nat × CpInfo)) (last : Nat) : Array CpInfo := ⟨poolList es last⟩
def fileOf (pool : Array CpInfo) (this : Nat) (attrs : Array Attribute := #[]) (ms : Array MethodInfo := #[]) (fl : Nat := 33) (sup : Nat := 0) (ifs : Array Nat := #[]) (fds : Array FieldInfo := #[]) : ClassFile where
  minorVersion := 0
  majorVersion := 65
  constantPool := pool
  accessFlags := fl
  thisClass := this
  superClass := sup
  interfaces := ifs
  fields := fds
  methods := ms
  attributes := attrs
def plain (name : String) (sup : Option ClassId) : Class where
  name := name
  kind := .ordinary
  loader := none
  accessFlags := 33
  super := sup
  interfaces := #[]
  cf := none
  fields := #[]
  methods := #[]
  instanceTypes := #[]
  staticTypes := #[]
  resolved := #[]
  callSites := []
  init := .initialized
  statics := none
  mirror := none

def pool0 : Array CpInfo := pool [(5, u "<init>"), (0, u "()V"), (1, .class_ 10), (1, u "java/lang/Object")] 113

def k0c0 : Code := { maxStack := 0, maxLocals := 1, code := object_method_1_code, exceptionTable := #[], attributes := #[] }
def k0m0 : Method := { name := "<init>", desc := "()V", sig := { parameters := [], returnType := none }, accessFlags := 1, code := some k0c0 }
/-- java/lang/Object -/
def k0 : Class := { plain "java/lang/Object" none with
  accessFlags := 33
  interfaces := #[]
  cf := some (fileOf pool0 8 #[] #[{ accessFlags := 1, nameIndex := 5, descriptorIndex := 6, attributes := #[] }] 33 0 #[] #[])
  fields := #[]
  methods := #[k0m0]
  instanceTypes := #[]
  staticTypes := #[]
  resolved := Array.replicate 124 none
  statics := none }

def pool1 : Array CpInfo := pool [(2, .class_ 4), (1, u "java/lang/Object"), (0, u "<init>"), (0, u "()V"), (0, .class_ 8), (0, u "java/lang/String"), (0, .methodref 7 10), (0, .nameAndType 5 11), (0, u "([C)V"), (0, .methodref 13 14), (0, .class_ 15), (0, .nameAndType 16 17), (0, u "com/example/poll3/poll3/model/CurveFit"), (0, u "none"), (0, u "(Ljava/lang/String;)Lcom/example/poll3/poll3/model/CurveFit;"), (0, .methodref 13 19), (0, .nameAndType 20 21), (0, u "linear"), (0, u "()D"), (0, .methodref 13 23), (0, .nameAndType 24 21), (0, u "logarithmic"), (0, .methodref 13 26), (0, .nameAndType 27 21), (0, u "exponential"), (0, .methodref 13 29), (0, .nameAndType 30 31), (0, u "server"), (0, u "()Ljava/lang/String;"), (0, .methodref 7 33), (0, .nameAndType 34 35), (0, u "equals"), (0, u "(Ljava/lang/Object;)Z"), (0, .methodref 13 37), (0, .nameAndType 38 39), (0, u "kept"), (0, u "()Lcom/example/poll3/poll3/model/CurveFit$Curve;"), (0, .fieldref 41 42), (0, .class_ 43), (0, .nameAndType 44 45), (0, u "com/example/poll3/poll3/model/CurveFit$Curve"), (0, u "NONE"), (0, u "Lcom/example/poll3/poll3/model/CurveFit$Curve;"), (0, .class_ 47), (0, u "com/example/poll3/poll3/model/CurveFitNonePinLaw"), (2, u "law"), (0, u "(IIII)Z")] 7

def k1m0 : Method := { name := "<init>", desc := "()V", sig := { parameters := [], returnType := none }, accessFlags := 1, code := none }
def k1c1 : Code := { maxStack := 4, maxLocals := 20, code := code, exceptionTable := #[], attributes := #[] }
def k1m1 : Method := { name := "law", desc := "(IIII)Z", sig := { parameters := [.int, .int, .int, .int], returnType := some .boolean }, accessFlags := 9, code := some k1c1 }
/-- com/example/poll3/poll3/model/CurveFitNonePinLaw -/
def k1 : Class := { plain "com/example/poll3/poll3/model/CurveFitNonePinLaw" (some 0) with
  accessFlags := 49
  interfaces := #[]
  cf := some (fileOf pool1 46 #[] #[{ accessFlags := 1, nameIndex := 5, descriptorIndex := 6, attributes := #[] }, { accessFlags := 9, nameIndex := 50, descriptorIndex := 51, attributes := #[] }] 49 2 #[] #[])
  fields := #[]
  methods := #[k1m0, k1m1]
  instanceTypes := #[]
  staticTypes := #[]
  resolved := Array.replicate 59 none
  statics := none }

def pool2 : Array CpInfo := pool [(1, .class_ 2), (0, u "java/io/Serializable"), (0, .class_ 4), (0, u "java/lang/Object")] 2

/-- java/io/Serializable -/
def k2 : Class := { plain "java/io/Serializable" (some 0) with
  accessFlags := 1537
  interfaces := #[]
  cf := some (fileOf pool2 1 #[] #[] 1537 3 #[] #[])
  fields := #[]
  methods := #[]
  instanceTypes := #[]
  staticTypes := #[]
  resolved := Array.replicate 7 none
  statics := none }

def pool3 : Array CpInfo := pool [(1, .class_ 2), (0, u "java/lang/Comparable"), (0, .class_ 4), (0, u "java/lang/Object")] 7

/-- java/lang/Comparable -/
def k3 : Class := { plain "java/lang/Comparable" (some 0) with
  accessFlags := 1537
  interfaces := #[]
  cf := some (fileOf pool3 1 #[] #[] 1537 3 #[] #[])
  fields := #[]
  methods := #[]
  instanceTypes := #[]
  staticTypes := #[]
  resolved := Array.replicate 12 none
  statics := none }

def pool4 : Array CpInfo := pool [(2, .class_ 4), (1, u "java/lang/CharSequence"), (42, .class_ 48), (0, u "java/lang/CharSequence$1CodePointIterator"), (10, .class_ 60), (0, u "java/lang/CharSequence$1CharIterator"), (5, .class_ 67), (0, u "java/lang/Object")] 63

/-- java/lang/CharSequence -/
def k4 : Class := { plain "java/lang/CharSequence" (some 0) with
  accessFlags := 1537
  interfaces := #[]
  cf := some (fileOf pool4 2 #[.nestMembers #[47, 59]] #[] 1537 66 #[] #[])
  fields := #[]
  methods := #[]
  instanceTypes := #[]
  staticTypes := #[]
  resolved := Array.replicate 131 none
  statics := none }

def pool5 : Array CpInfo := pool [(1, .class_ 2), (0, u "java/lang/constant/Constable"), (0, .class_ 4), (0, u "java/lang/Object")] 6

/-- java/lang/constant/Constable -/
def k5 : Class := { plain "java/lang/constant/Constable" (some 0) with
  accessFlags := 1537
  interfaces := #[]
  cf := some (fileOf pool5 1 #[] #[] 1537 3 #[] #[])
  fields := #[]
  methods := #[]
  instanceTypes := #[]
  staticTypes := #[]
  resolved := Array.replicate 11 none
  statics := none }

def pool6 : Array CpInfo := pool [(1, .class_ 2), (0, u "java/lang/constant/ConstantDesc"), (0, .class_ 4), (0, u "java/lang/Object")] 32

/-- java/lang/constant/ConstantDesc -/
def k6 : Class := { plain "java/lang/constant/ConstantDesc" (some 0) with
  accessFlags := 1537
  interfaces := #[]
  cf := some (fileOf pool6 1 #[] #[] 1537 3 #[] #[])
  fields := #[]
  methods := #[]
  instanceTypes := #[]
  staticTypes := #[]
  resolved := Array.replicate 37 none
  statics := none }

def pool7 : Array CpInfo := pool [(1, .methodref 2 3), (0, .class_ 4), (0, .nameAndType 5 6), (0, u "java/lang/Object"), (0, u "<init>"), (0, u "()V"), (0, .string 8), (0, u ""), (0, .fieldref 10 11), (0, .class_ 12), (0, .nameAndType 13 14), (0, u "java/lang/String"), (0, u "value"), (0, u "[B"), (0, .fieldref 10 16), (0, .nameAndType 17 18), (0, u "coder"), (0, u "B"), (2, u "hash"), (0, u "I"), (2, u "hashIsZero"), (0, u "Z"), (0, .methodref 10 28), (0, .nameAndType 5 29), (0, u "([CIILjava/lang/Void;)V"), (8, .fieldref 10 39), (0, .nameAndType 40 26), (0, u "COMPACT_STRINGS"), (1, .class_ 44), (1, u "java/lang/StringUTF16"), (0, u "compress"), (1, .methodref 42 48), (0, .nameAndType 49 50), (0, u "coderFromArrayLen"), (0, u "([BI)B"), (126, .methodref 42 178), (0, .nameAndType 45 179), (0, u "([CII)[B"), (363, u "equals"), (29, u "(Ljava/lang/Object;)Z"), (1, .class_ 576), (0, u "java/lang/CharSequence"), (22, u "CASE_INSENSITIVE_ORDER"), (0, u "Ljava/util/Comparator;"), (409, u "([C)V"), (90, u "serialPersistentFields"), (0, u "[Ljava/io/ObjectStreamField;"), (0, .class_ 1104), (0, u "java/lang/String$CaseInsensitiveComparator"), (1, .class_ 1107), (0, u "java/io/Serializable"), (0, .class_ 1109), (0, u "java/lang/Comparable"), (0, .class_ 1111), (0, u "java/lang/constant/Constable"), (0, .class_ 1113), (0, u "java/lang/constant/ConstantDesc"), (2, u "serialVersionUID"), (0, u "J"), (3, u "REPL"), (0, u "C"), (2, u "LATIN1"), (1, u "UTF16")] 323

def k7m0 : Method := { name := "<init>", desc := "()V", sig := { parameters := [], returnType := none }, accessFlags := 1, code := none }
def k7c1 : Code := { maxStack := 5, maxLocals := 2, code := jdk_42_method_3_code, exceptionTable := #[], attributes := #[] }
def k7m1 : Method := { name := "<init>", desc := "([C)V", sig := { parameters := [(.array .char)], returnType := none }, accessFlags := 1, code := some k7c1 }
def k7c2 : Code := { maxStack := 2, maxLocals := 3, code := jdk_42_method_66_code, exceptionTable := #[], attributes := #[] }
def k7m2 : Method := { name := "equals", desc := "(Ljava/lang/Object;)Z", sig := { parameters := [(.object "java/lang/Object")], returnType := some .boolean }, accessFlags := 1, code := some k7c2 }
def k7c3 : Code := { maxStack := 4, maxLocals := 6, code := jdk_42_method_149_code, exceptionTable := #[], attributes := #[] }
def k7m3 : Method := { name := "<init>", desc := "([CIILjava/lang/Void;)V", sig := { parameters := [(.array .char), .int, .int, (.object "java/lang/Void")], returnType := none }, accessFlags := 2, code := some k7c3 }
/-- java/lang/String -/
def k7 : Class := { plain "java/lang/String" (some 0) with
  accessFlags := 49
  interfaces := #[2, 3, 4, 5, 6]
  cf := some (fileOf pool7 10 #[.nestMembers #[1103]] #[{ accessFlags := 1, nameIndex := 5, descriptorIndex := 6, attributes := #[] }, { accessFlags := 1, nameIndex := 5, descriptorIndex := 1010, attributes := #[] }, { accessFlags := 1, nameIndex := 543, descriptorIndex := 573, attributes := #[] }, { accessFlags := 2, nameIndex := 5, descriptorIndex := 29, attributes := #[] }] 49 2 #[1106, 1108, 575, 1110, 1112] #[{ accessFlags := 18, nameIndex := 13, descriptorIndex := 14, attributes := #[] }, { accessFlags := 18, nameIndex := 17, descriptorIndex := 18, attributes := #[] }, { accessFlags := 2, nameIndex := 21, descriptorIndex := 22, attributes := #[] }, { accessFlags := 2, nameIndex := 25, descriptorIndex := 26, attributes := #[] }, { accessFlags := 26, nameIndex := 1116, descriptorIndex := 1117, attributes := #[] }, { accessFlags := 24, nameIndex := 40, descriptorIndex := 26, attributes := #[] }, { accessFlags := 26, nameIndex := 1101, descriptorIndex := 1102, attributes := #[] }, { accessFlags := 26, nameIndex := 1121, descriptorIndex := 1122, attributes := #[] }, { accessFlags := 25, nameIndex := 599, descriptorIndex := 600, attributes := #[] }, { accessFlags := 24, nameIndex := 1125, descriptorIndex := 18, attributes := #[] }, { accessFlags := 24, nameIndex := 1127, descriptorIndex := 18, attributes := #[] }])
  fields := #[{ name := "value", type := (.array .byte), accessFlags := 18, slot := 0, constantValue := 0 }, { name := "coder", type := .byte, accessFlags := 18, slot := 1, constantValue := 0 }, { name := "hash", type := .int, accessFlags := 2, slot := 2, constantValue := 0 }, { name := "hashIsZero", type := .boolean, accessFlags := 2, slot := 3, constantValue := 0 }, { name := "serialVersionUID", type := .long, accessFlags := 26, slot := 0, constantValue := 0 }, { name := "COMPACT_STRINGS", type := .boolean, accessFlags := 24, slot := 1, constantValue := 0 }, { name := "serialPersistentFields", type := (.array (.object "java/io/ObjectStreamField")), accessFlags := 26, slot := 2, constantValue := 0 }, { name := "REPL", type := .char, accessFlags := 26, slot := 3, constantValue := 0 }, { name := "CASE_INSENSITIVE_ORDER", type := (.object "java/util/Comparator"), accessFlags := 25, slot := 4, constantValue := 0 }, { name := "LATIN1", type := .byte, accessFlags := 24, slot := 5, constantValue := 0 }, { name := "UTF16", type := .byte, accessFlags := 24, slot := 6, constantValue := 0 }]
  methods := #[k7m0, k7m1, k7m2, k7m3]
  instanceTypes := #[(.array .byte), .byte, .int, .boolean]
  staticTypes := #[.long, .boolean, (.array (.object "java/io/ObjectStreamField")), .char, (.object "java/util/Comparator"), .byte, .byte]
  resolved := Array.replicate 1451 none
  statics := some 0 }

def pool8 : Array CpInfo := pool [(6, .class_ 8), (1, u "java/lang/Object"), (0, u "<init>"), (0, u "()V"), (1, .class_ 14), (1, u "java/lang/StringUTF16"), (31, u "$assertionsDisabled"), (0, u "Z"), (13, u "HI_BYTE_SHIFT"), (0, u "I"), (2, u "LO_BYTE_SHIFT"), (49, .methodref 12 116), (0, .nameAndType 117 118), (0, u "compress"), (0, u "([CI[BII)I"), (3, u "([CII)[B"), (138, u "coderFromArrayLen"), (0, u "([BI)B"), (106, .class_ 371), (1, u "java/lang/StringUTF16$LinesSpliterator"), (58, u "MAX_LENGTH"), (196, .class_ 628), (0, u "java/lang/StringUTF16$CodePointsSpliterator"), (0, .class_ 630), (0, u "java/lang/StringUTF16$CharsSpliterator")] 4

def k8m0 : Method := { name := "<init>", desc := "()V", sig := { parameters := [], returnType := none }, accessFlags := 0, code := none }
def k8c1 : Code := { maxStack := 2, maxLocals := 2, code := jdk_52_method_15_code, exceptionTable := #[], attributes := #[] }
def k8m1 : Method := { name := "coderFromArrayLen", desc := "([BI)B", sig := { parameters := [(.array .byte), .int], returnType := some .byte }, accessFlags := 8, code := some k8c1 }
def k8c2 : Code := { maxStack := 5, maxLocals := 6, code := jdk_52_method_16_code, exceptionTable := #[], attributes := #[] }
def k8m2 : Method := { name := "compress", desc := "([CII)[B", sig := { parameters := [(.array .char), .int, .int], returnType := some (.array .byte) }, accessFlags := 9, code := some k8c2 }
def k8c3 : Code := { maxStack := 3, maxLocals := 7, code := jdk_52_method_21_code, exceptionTable := #[], attributes := #[] }
def k8m3 : Method := { name := "compress", desc := "([CI[BII)I", sig := { parameters := [(.array .char), .int, (.array .byte), .int, .int], returnType := some .int }, accessFlags := 9, code := some k8c3 }
/-- java/lang/StringUTF16 -/
def k8 : Class := { plain "java/lang/StringUTF16" (some 0) with
  accessFlags := 48
  interfaces := #[]
  cf := some (fileOf pool8 12 #[.nestMembers #[627, 629, 369]] #[{ accessFlags := 0, nameIndex := 9, descriptorIndex := 10, attributes := #[] }, { accessFlags := 8, nameIndex := 261, descriptorIndex := 262, attributes := #[] }, { accessFlags := 9, nameIndex := 117, descriptorIndex := 122, attributes := #[] }, { accessFlags := 9, nameIndex := 117, descriptorIndex := 118, attributes := #[] }] 48 6 #[] #[{ accessFlags := 26, nameIndex := 61, descriptorIndex := 62, attributes := #[] }, { accessFlags := 26, nameIndex := 65, descriptorIndex := 62, attributes := #[] }, { accessFlags := 24, nameIndex := 430, descriptorIndex := 62, attributes := #[] }, { accessFlags := 4120, nameIndex := 46, descriptorIndex := 47, attributes := #[] }])
  fields := #[{ name := "HI_BYTE_SHIFT", type := .int, accessFlags := 26, slot := 0, constantValue := 0 }, { name := "LO_BYTE_SHIFT", type := .int, accessFlags := 26, slot := 1, constantValue := 0 }, { name := "MAX_LENGTH", type := .int, accessFlags := 24, slot := 2, constantValue := 0 }, { name := "$assertionsDisabled", type := .boolean, accessFlags := 4120, slot := 3, constantValue := 0 }]
  methods := #[k8m0, k8m1, k8m2, k8m3]
  instanceTypes := #[]
  staticTypes := #[.int, .int, .int, .boolean]
  resolved := Array.replicate 635 none
  statics := none }

def pool9 : Array CpInfo := pool [(1, .methodref 2 3), (0, .class_ 4), (0, .nameAndType 5 6), (0, u "java/lang/Object"), (0, u "<init>"), (0, u "()V"), (0, .class_ 8), (0, u "java/lang/Record")] 13

def k9c0 : Code := { maxStack := 1, maxLocals := 1, code := jdk_30_method_1_code, exceptionTable := #[], attributes := #[] }
def k9m0 : Method := { name := "<init>", desc := "()V", sig := { parameters := [], returnType := none }, accessFlags := 4, code := some k9c0 }
/-- java/lang/Record -/
def k9 : Class := { plain "java/lang/Record" (some 0) with
  accessFlags := 1057
  interfaces := #[]
  cf := some (fileOf pool9 7 #[] #[{ accessFlags := 4, nameIndex := 5, descriptorIndex := 6, attributes := #[] }] 1057 2 #[] #[])
  fields := #[]
  methods := #[k9m0]
  instanceTypes := #[]
  staticTypes := #[]
  resolved := Array.replicate 22 none
  statics := none }

def pool10 : Array CpInfo := pool [(1, .methodref 2 3), (0, .class_ 4), (0, .nameAndType 5 6), (0, u "java/lang/Record"), (0, u "<init>"), (0, u "()V"), (0, .fieldref 8 9), (0, .class_ 10), (0, .nameAndType 11 12), (0, u "com/example/poll3/poll3/model/CurveFit"), (0, u "server"), (0, u "Ljava/lang/String;"), (0, .fieldref 8 14), (0, .nameAndType 15 16), (0, u "kept"), (0, u "Lcom/example/poll3/poll3/model/CurveFit$Curve;"), (0, .fieldref 8 18), (0, .nameAndType 19 20), (0, u "linear"), (0, u "D"), (0, .fieldref 8 22), (0, .nameAndType 23 20), (0, u "logarithmic"), (0, .fieldref 8 25), (0, .nameAndType 26 20), (0, u "exponential"), (0, .fieldref 28 29), (0, .class_ 30), (0, .nameAndType 31 16), (0, u "com/example/poll3/poll3/model/CurveFit$Curve"), (0, u "NONE"), (2, .double 9221120237041090560), (1, .methodref 8 37), (0, .nameAndType 5 38), (0, u "(Ljava/lang/String;Lcom/example/poll3/poll3/model/CurveFit$Curve;DDD)V"), (15, u "none"), (0, u "(Ljava/lang/String;)Lcom/example/poll3/poll3/model/CurveFit;"), (0, u "()Ljava/lang/String;"), (2, u "()Lcom/example/poll3/poll3/model/CurveFit$Curve;"), (0, u "()D")] 26

def k10c0 : Code := { maxStack := 3, maxLocals := 9, code := prog_30_method_1_code, exceptionTable := #[], attributes := #[] }
def k10m0 : Method := { name := "<init>", desc := "(Ljava/lang/String;Lcom/example/poll3/poll3/model/CurveFit$Curve;DDD)V", sig := { parameters := [(.object "java/lang/String"), (.object "com/example/poll3/poll3/model/CurveFit$Curve"), .double, .double, .double], returnType := none }, accessFlags := 1, code := some k10c0 }
def k10c1 : Code := { maxStack := 10, maxLocals := 1, code := prog_30_method_2_code, exceptionTable := #[], attributes := #[] }
def k10m1 : Method := { name := "none", desc := "(Ljava/lang/String;)Lcom/example/poll3/poll3/model/CurveFit;", sig := { parameters := [(.object "java/lang/String")], returnType := some (.object "com/example/poll3/poll3/model/CurveFit") }, accessFlags := 9, code := some k10c1 }
def k10c2 : Code := { maxStack := 1, maxLocals := 1, code := prog_30_method_6_code, exceptionTable := #[], attributes := #[] }
def k10m2 : Method := { name := "server", desc := "()Ljava/lang/String;", sig := { parameters := [], returnType := some (.object "java/lang/String") }, accessFlags := 1, code := some k10c2 }
def k10c3 : Code := { maxStack := 1, maxLocals := 1, code := prog_30_method_7_code, exceptionTable := #[], attributes := #[] }
def k10m3 : Method := { name := "kept", desc := "()Lcom/example/poll3/poll3/model/CurveFit$Curve;", sig := { parameters := [], returnType := some (.object "com/example/poll3/poll3/model/CurveFit$Curve") }, accessFlags := 1, code := some k10c3 }
def k10c4 : Code := { maxStack := 2, maxLocals := 1, code := prog_30_method_8_code, exceptionTable := #[], attributes := #[] }
def k10m4 : Method := { name := "linear", desc := "()D", sig := { parameters := [], returnType := some .double }, accessFlags := 1, code := some k10c4 }
def k10c5 : Code := { maxStack := 2, maxLocals := 1, code := prog_30_method_9_code, exceptionTable := #[], attributes := #[] }
def k10m5 : Method := { name := "logarithmic", desc := "()D", sig := { parameters := [], returnType := some .double }, accessFlags := 1, code := some k10c5 }
def k10c6 : Code := { maxStack := 2, maxLocals := 1, code := prog_30_method_10_code, exceptionTable := #[], attributes := #[] }
def k10m6 : Method := { name := "exponential", desc := "()D", sig := { parameters := [], returnType := some .double }, accessFlags := 1, code := some k10c6 }
/-- com/example/poll3/poll3/model/CurveFit -/
def k10 : Class := { plain "com/example/poll3/poll3/model/CurveFit" (some 9) with
  accessFlags := 49
  interfaces := #[]
  cf := some (fileOf pool10 8 #[.nestMembers #[28]] #[{ accessFlags := 1, nameIndex := 5, descriptorIndex := 38, attributes := #[] }, { accessFlags := 9, nameIndex := 54, descriptorIndex := 55, attributes := #[] }, { accessFlags := 1, nameIndex := 11, descriptorIndex := 56, attributes := #[] }, { accessFlags := 1, nameIndex := 15, descriptorIndex := 59, attributes := #[] }, { accessFlags := 1, nameIndex := 19, descriptorIndex := 60, attributes := #[] }, { accessFlags := 1, nameIndex := 23, descriptorIndex := 60, attributes := #[] }, { accessFlags := 1, nameIndex := 26, descriptorIndex := 60, attributes := #[] }] 49 2 #[] #[{ accessFlags := 18, nameIndex := 11, descriptorIndex := 12, attributes := #[] }, { accessFlags := 18, nameIndex := 15, descriptorIndex := 16, attributes := #[] }, { accessFlags := 18, nameIndex := 19, descriptorIndex := 20, attributes := #[] }, { accessFlags := 18, nameIndex := 23, descriptorIndex := 20, attributes := #[] }, { accessFlags := 18, nameIndex := 26, descriptorIndex := 20, attributes := #[] }])
  fields := #[{ name := "server", type := (.object "java/lang/String"), accessFlags := 18, slot := 0, constantValue := 0 }, { name := "kept", type := (.object "com/example/poll3/poll3/model/CurveFit$Curve"), accessFlags := 18, slot := 1, constantValue := 0 }, { name := "linear", type := .double, accessFlags := 18, slot := 2, constantValue := 0 }, { name := "logarithmic", type := .double, accessFlags := 18, slot := 3, constantValue := 0 }, { name := "exponential", type := .double, accessFlags := 18, slot := 4, constantValue := 0 }]
  methods := #[k10m0, k10m1, k10m2, k10m3, k10m4, k10m5, k10m6]
  instanceTypes := #[(.object "java/lang/String"), (.object "com/example/poll3/poll3/model/CurveFit$Curve"), .double, .double, .double]
  staticTypes := #[]
  resolved := Array.replicate 87 none
  statics := none }

def pool11 : Array CpInfo := pool [(2, .class_ 4), (1, u "java/lang/Enum"), (0, u "name"), (0, u "Ljava/lang/String;"), (2, u "ordinal"), (0, u "I"), (1, .class_ 14), (1, u "java/lang/Object"), (4, u "hash"), (86, .class_ 108), (1, u "java/lang/Enum$EnumDesc"), (2, .class_ 112), (0, u "java/lang/constant/Constable"), (0, .class_ 114), (0, u "java/lang/Comparable"), (0, .class_ 116), (0, u "java/io/Serializable")] 87

/-- java/lang/Enum -/
def k11 : Class := { plain "java/lang/Enum" (some 0) with
  accessFlags := 1057
  interfaces := #[5, 3, 2]
  cf := some (fileOf pool11 2 #[.nestMembers #[106]] #[] 1057 12 #[111, 113, 115] #[{ accessFlags := 18, nameIndex := 5, descriptorIndex := 6, attributes := #[] }, { accessFlags := 18, nameIndex := 9, descriptorIndex := 10, attributes := #[] }, { accessFlags := 2, nameIndex := 19, descriptorIndex := 10, attributes := #[] }])
  fields := #[{ name := "name", type := (.object "java/lang/String"), accessFlags := 18, slot := 0, constantValue := 0 }, { name := "ordinal", type := .int, accessFlags := 18, slot := 1, constantValue := 0 }, { name := "hash", type := .int, accessFlags := 2, slot := 2, constantValue := 0 }]
  methods := #[]
  instanceTypes := #[(.object "java/lang/String"), .int, .int]
  staticTypes := #[]
  resolved := Array.replicate 204 none
  statics := none }

def pool12 : Array CpInfo := pool [(1, .class_ 2), (0, u "com/example/poll3/poll3/model/CurveFit$Curve"), (2, u "LINEAR"), (0, u "Lcom/example/poll3/poll3/model/CurveFit$Curve;"), (2, u "LOGARITHMIC"), (2, u "EXPONENTIAL"), (2, u "NONE"), (2, u "$VALUES"), (0, u "[Lcom/example/poll3/poll3/model/CurveFit$Curve;"), (6, .class_ 28), (1, u "java/lang/Enum"), (8, u "label"), (0, u "Ljava/lang/String;"), (33, .class_ 73), (0, u "com/example/poll3/poll3/model/CurveFit")] 2

/-- com/example/poll3/poll3/model/CurveFit$Curve -/
def k12 : Class := { plain "com/example/poll3/poll3/model/CurveFit$Curve" (some 11) with
  accessFlags := 16433
  interfaces := #[]
  cf := some (fileOf pool12 1 #[.nestHost 72] #[] 16433 26 #[] #[{ accessFlags := 16409, nameIndex := 5, descriptorIndex := 6, attributes := #[] }, { accessFlags := 16409, nameIndex := 9, descriptorIndex := 6, attributes := #[] }, { accessFlags := 16409, nameIndex := 12, descriptorIndex := 6, attributes := #[] }, { accessFlags := 16409, nameIndex := 15, descriptorIndex := 6, attributes := #[] }, { accessFlags := 18, nameIndex := 37, descriptorIndex := 38, attributes := #[] }, { accessFlags := 4122, nameIndex := 18, descriptorIndex := 19, attributes := #[] }])
  fields := #[{ name := "LINEAR", type := (.object "com/example/poll3/poll3/model/CurveFit$Curve"), accessFlags := 16409, slot := 0, constantValue := 0 }, { name := "LOGARITHMIC", type := (.object "com/example/poll3/poll3/model/CurveFit$Curve"), accessFlags := 16409, slot := 1, constantValue := 0 }, { name := "EXPONENTIAL", type := (.object "com/example/poll3/poll3/model/CurveFit$Curve"), accessFlags := 16409, slot := 2, constantValue := 0 }, { name := "NONE", type := (.object "com/example/poll3/poll3/model/CurveFit$Curve"), accessFlags := 16409, slot := 3, constantValue := 0 }, { name := "label", type := (.object "java/lang/String"), accessFlags := 18, slot := 3, constantValue := 0 }, { name := "$VALUES", type := (.array (.object "com/example/poll3/poll3/model/CurveFit$Curve")), accessFlags := 4122, slot := 4, constantValue := 0 }]
  methods := #[]
  instanceTypes := #[(.object "java/lang/String"), .int, .int, (.object "java/lang/String")]
  staticTypes := #[(.object "com/example/poll3/poll3/model/CurveFit$Curve"), (.object "com/example/poll3/poll3/model/CurveFit$Curve"), (.object "com/example/poll3/poll3/model/CurveFit$Curve"), (.object "com/example/poll3/poll3/model/CurveFit$Curve"), (.array (.object "com/example/poll3/poll3/model/CurveFit$Curve"))]
  resolved := Array.replicate 76 none
  statics := some 1 }

def pool13 : Array CpInfo := pool [(4, .class_ 6), (1, u "java/lang/Object"), (0, u "<init>"), (0, u "()V"), (5, .class_ 16), (1, u "java/lang/StringLatin1"), (104, u "$assertionsDisabled"), (0, u "Z"), (98, .class_ 223), (1, u "java/lang/StringLatin1$LinesSpliterator"), (166, .class_ 391), (0, u "java/lang/StringLatin1$CharsSpliterator")] 3

def k13m0 : Method := { name := "<init>", desc := "()V", sig := { parameters := [], returnType := none }, accessFlags := 0, code := none }
/-- java/lang/StringLatin1 -/
def k13 : Class := { plain "java/lang/StringLatin1" (some 0) with
  accessFlags := 48
  interfaces := #[]
  cf := some (fileOf pool13 14 #[.nestMembers #[390, 221]] #[{ accessFlags := 0, nameIndex := 7, descriptorIndex := 8, attributes := #[] }] 48 4 #[] #[{ accessFlags := 4120, nameIndex := 121, descriptorIndex := 122, attributes := #[] }])
  fields := #[{ name := "$assertionsDisabled", type := .boolean, accessFlags := 4120, slot := 0, constantValue := 0 }]
  methods := #[k13m0]
  instanceTypes := #[]
  staticTypes := #[.boolean]
  resolved := Array.replicate 395 none
  statics := none }

def pool14 : Array CpInfo := pool [(2, .class_ 4), (1, u "java/lang/Object"), (0, u "<init>"), (0, u "()V"), (17, .class_ 26), (1, u "jdk/internal/util/Preconditions"), (28, .class_ 56), (0, u "jdk/internal/util/Preconditions$4"), (57, .class_ 115), (0, u "jdk/internal/util/Preconditions$1"), (7, u "SIOOBE_FORMATTER"), (0, u "Ljava/util/function/BiFunction;"), (0, .class_ 126), (0, u "jdk/internal/util/Preconditions$2"), (3, u "AIOOBE_FORMATTER"), (0, .class_ 132), (0, u "jdk/internal/util/Preconditions$3"), (3, u "IOOBE_FORMATTER")] 57

def k14m0 : Method := { name := "<init>", desc := "()V", sig := { parameters := [], returnType := none }, accessFlags := 1, code := none }
/-- jdk/internal/util/Preconditions -/
def k14 : Class := { plain "jdk/internal/util/Preconditions" (some 0) with
  accessFlags := 33
  interfaces := #[]
  cf := some (fileOf pool14 24 #[.nestMembers #[55, 131, 125, 114]] #[{ accessFlags := 1, nameIndex := 5, descriptorIndex := 6, attributes := #[] }] 33 2 #[] #[{ accessFlags := 25, nameIndex := 123, descriptorIndex := 124, attributes := #[] }, { accessFlags := 25, nameIndex := 130, descriptorIndex := 124, attributes := #[] }, { accessFlags := 25, nameIndex := 136, descriptorIndex := 124, attributes := #[] }])
  fields := #[{ name := "SIOOBE_FORMATTER", type := (.object "java/util/function/BiFunction"), accessFlags := 25, slot := 0, constantValue := 0 }, { name := "AIOOBE_FORMATTER", type := (.object "java/util/function/BiFunction"), accessFlags := 25, slot := 1, constantValue := 0 }, { name := "IOOBE_FORMATTER", type := (.object "java/util/function/BiFunction"), accessFlags := 25, slot := 2, constantValue := 0 }]
  methods := #[k14m0]
  instanceTypes := #[]
  staticTypes := #[(.object "java/util/function/BiFunction"), (.object "java/util/function/BiFunction"), (.object "java/util/function/BiFunction")]
  resolved := Array.replicate 194 none
  statics := some 2 }

def pool15 : Array CpInfo := pool [(9, u "<init>"), (6, .class_ 18), (1, u "java/lang/Object"), (0, u "()V"), (1, .class_ 23), (1, u "jdk/internal/util/ArraysSupport"), (0, u "LOG2_ARRAY_LONG_INDEX_SCALE"), (0, u "I"), (2, u "U"), (0, u "Ljdk/internal/misc/Unsafe;"), (8, u "BIG_ENDIAN"), (0, u "Z"), (8, u "LOG2_BYTE_BIT_SIZE"), (4, u "LOG2_ARRAY_INT_INDEX_SCALE"), (54, u "JLA"), (0, u "Ljdk/internal/access/JavaLangAccess;"), (11, u "LOG2_ARRAY_BOOLEAN_INDEX_SCALE"), (9, u "LOG2_ARRAY_BYTE_INDEX_SCALE"), (5, u "LOG2_ARRAY_CHAR_INDEX_SCALE"), (5, u "LOG2_ARRAY_SHORT_INDEX_SCALE"), (18, u "LOG2_ARRAY_FLOAT_INDEX_SCALE"), (24, u "LOG2_ARRAY_DOUBLE_INDEX_SCALE"), (89, u "T_BOOLEAN"), (2, u "T_CHAR"), (1, u "T_FLOAT"), (1, u "T_DOUBLE"), (1, u "T_BYTE"), (1, u "T_SHORT"), (1, u "T_INT"), (1, u "T_LONG"), (1, u "SOFT_MAX_ARRAY_LENGTH")] 83

def k15m0 : Method := { name := "<init>", desc := "()V", sig := { parameters := [], returnType := none }, accessFlags := 2, code := none }
/-- jdk/internal/util/ArraysSupport -/
def k15 : Class := { plain "jdk/internal/util/ArraysSupport" (some 0) with
  accessFlags := 33
  interfaces := #[]
  cf := some (fileOf pool15 21 #[] #[{ accessFlags := 2, nameIndex := 9, descriptorIndex := 19, attributes := #[] }] 33 16 #[] #[{ accessFlags := 24, nameIndex := 28, descriptorIndex := 29, attributes := #[] }, { accessFlags := 26, nameIndex := 38, descriptorIndex := 39, attributes := #[] }, { accessFlags := 25, nameIndex := 121, descriptorIndex := 25, attributes := #[] }, { accessFlags := 25, nameIndex := 131, descriptorIndex := 25, attributes := #[] }, { accessFlags := 25, nameIndex := 137, descriptorIndex := 25, attributes := #[] }, { accessFlags := 25, nameIndex := 143, descriptorIndex := 25, attributes := #[] }, { accessFlags := 25, nameIndex := 53, descriptorIndex := 25, attributes := #[] }, { accessFlags := 25, nameIndex := 24, descriptorIndex := 25, attributes := #[] }, { accessFlags := 25, nameIndex := 162, descriptorIndex := 25, attributes := #[] }, { accessFlags := 25, nameIndex := 187, descriptorIndex := 25, attributes := #[] }, { accessFlags := 26, nameIndex := 48, descriptorIndex := 25, attributes := #[] }, { accessFlags := 25, nameIndex := 277, descriptorIndex := 25, attributes := #[] }, { accessFlags := 25, nameIndex := 280, descriptorIndex := 25, attributes := #[] }, { accessFlags := 25, nameIndex := 282, descriptorIndex := 25, attributes := #[] }, { accessFlags := 25, nameIndex := 284, descriptorIndex := 25, attributes := #[] }, { accessFlags := 25, nameIndex := 286, descriptorIndex := 25, attributes := #[] }, { accessFlags := 25, nameIndex := 288, descriptorIndex := 25, attributes := #[] }, { accessFlags := 25, nameIndex := 290, descriptorIndex := 25, attributes := #[] }, { accessFlags := 25, nameIndex := 292, descriptorIndex := 25, attributes := #[] }, { accessFlags := 26, nameIndex := 108, descriptorIndex := 109, attributes := #[] }, { accessFlags := 25, nameIndex := 294, descriptorIndex := 25, attributes := #[] }])
  fields := #[{ name := "U", type := (.object "jdk/internal/misc/Unsafe"), accessFlags := 24, slot := 0, constantValue := 0 }, { name := "BIG_ENDIAN", type := .boolean, accessFlags := 26, slot := 1, constantValue := 0 }, { name := "LOG2_ARRAY_BOOLEAN_INDEX_SCALE", type := .int, accessFlags := 25, slot := 2, constantValue := 0 }, { name := "LOG2_ARRAY_BYTE_INDEX_SCALE", type := .int, accessFlags := 25, slot := 3, constantValue := 0 }, { name := "LOG2_ARRAY_CHAR_INDEX_SCALE", type := .int, accessFlags := 25, slot := 4, constantValue := 0 }, { name := "LOG2_ARRAY_SHORT_INDEX_SCALE", type := .int, accessFlags := 25, slot := 5, constantValue := 0 }, { name := "LOG2_ARRAY_INT_INDEX_SCALE", type := .int, accessFlags := 25, slot := 6, constantValue := 0 }, { name := "LOG2_ARRAY_LONG_INDEX_SCALE", type := .int, accessFlags := 25, slot := 7, constantValue := 0 }, { name := "LOG2_ARRAY_FLOAT_INDEX_SCALE", type := .int, accessFlags := 25, slot := 8, constantValue := 0 }, { name := "LOG2_ARRAY_DOUBLE_INDEX_SCALE", type := .int, accessFlags := 25, slot := 9, constantValue := 0 }, { name := "LOG2_BYTE_BIT_SIZE", type := .int, accessFlags := 26, slot := 10, constantValue := 0 }, { name := "T_BOOLEAN", type := .int, accessFlags := 25, slot := 11, constantValue := 0 }, { name := "T_CHAR", type := .int, accessFlags := 25, slot := 12, constantValue := 0 }, { name := "T_FLOAT", type := .int, accessFlags := 25, slot := 13, constantValue := 0 }, { name := "T_DOUBLE", type := .int, accessFlags := 25, slot := 14, constantValue := 0 }, { name := "T_BYTE", type := .int, accessFlags := 25, slot := 15, constantValue := 0 }, { name := "T_SHORT", type := .int, accessFlags := 25, slot := 16, constantValue := 0 }, { name := "T_INT", type := .int, accessFlags := 25, slot := 17, constantValue := 0 }, { name := "T_LONG", type := .int, accessFlags := 25, slot := 18, constantValue := 0 }, { name := "JLA", type := (.object "jdk/internal/access/JavaLangAccess"), accessFlags := 26, slot := 19, constantValue := 0 }, { name := "SOFT_MAX_ARRAY_LENGTH", type := .int, accessFlags := 25, slot := 20, constantValue := 0 }]
  methods := #[k15m0]
  instanceTypes := #[]
  staticTypes := #[(.object "jdk/internal/misc/Unsafe"), .boolean, .int, .int, .int, .int, .int, .int, .int, .int, .int, .int, .int, .int, .int, .int, .int, .int, .int, (.object "jdk/internal/access/JavaLangAccess"), .int]
  resolved := Array.replicate 378 none
  statics := none }

def pool16 : Array CpInfo := pool [(1, u "java/lang/Cloneable"), (0, .class_ 1), (0, u "java/lang/Object"), (0, .class_ 3)] 3

/-- java/lang/Cloneable -/
def k16 : Class := { plain "java/lang/Cloneable" (some 0) with
  accessFlags := 1537
  interfaces := #[]
  cf := some (fileOf pool16 2 #[] #[] 1537 4 #[] #[])
  fields := #[]
  methods := #[]
  instanceTypes := #[]
  staticTypes := #[]
  resolved := Array.replicate 8 none
  statics := none }

/-- the primitive byte -/
def k17 : Class := { plain "byte" none with kind := .primitive 'B', accessFlags := 0x411 }
/-- [B -/
def k18 : Class := { plain "[B" (some 0) with kind := .array 17 .byte, interfaces := #[16, 2], accessFlags := 1041 }

/-- the primitive char -/
def k19 : Class := { plain "char" none with kind := .primitive 'C', accessFlags := 0x411 }
/-- [C -/
def k20 : Class := { plain "[C" (some 0) with kind := .array 19 .char, interfaces := #[16, 2], accessFlags := 1041 }

/-- the primitive int -/
def k21 : Class := { plain "int" none with kind := .primitive 'I', accessFlags := 0x411 }
/-- [I -/
def k22 : Class := { plain "[I" (some 0) with kind := .array 21 .int, interfaces := #[16, 2], accessFlags := 1041 }

def heap : Heap := #[{ cls := 7, slots := #[.long 0, .int 1, .null, .int 0, .null, .int 0, .int 0], vm := .statics 7 },
  { cls := 12, slots := #[.null, .null, .null, .ref 3, .null], vm := .statics 12 },
  { cls := 14, slots := #[.null, .null, .null], vm := .statics 14 },
  { cls := 12, slots := #[.null, .int 0, .int 0, .null], vm := .none }]
def classes : Array Class := #[k0, k1, k2, k3, k4, k5, k6, k7, k8, k9, k10, k11, k12, k13, k14, k15, k16, k17, k18, k19, k20, k21, k22]
def interned : List (Array UInt16 × Addr) := []
def slotsUsed : Nat := 19
def theMethod : MethodId := ⟨1, 1⟩
def args0 : Array Value := #[.int 5, .int 1, .int 2, .int 3]
def aboutOver (below : List Frame) : State where
  vm := { classes := classes, interned := interned.toArray }
  heap := heap
  slotsUsed := slotsUsed
  threads := #[{ frames := .invoking theMethod args0 :: below }]
def below0 : List Frame := [.native { method := ⟨0, 0⟩, args := #[] }]
def about1 : State := aboutOver below0
def p0 : Program := .bare "" "" ""
def e0 : Env := launch0.env 0 0 0
theorem w_frames : about1.frames = Frame.invoking theMethod args0 :: below0 := rfl
set_option maxRecDepth 65536 in
theorem w_args : argsFit about1.vm theMethod args0 = true := by decide +kernel
set_option maxRecDepth 65536 in
theorem w_heap : heapFits about1 = true := by decide +kernel
set_option maxRecDepth 65536 in
theorem w_runnable : about1.curStatus? = some .runnable := by decide +kernel
set_option maxRecDepth 65536 in
theorem w_alone : about1.alone = true := by decide +kernel
set_option maxRecDepth 65536 in
theorem w_named : about1.methodNamed? x = some theMethod := by decide +kernel
set_option maxRecDepth 65536 in
theorem w_hears : about1.hears theMethod below0 = true := by decide +kernel
set_option maxRecDepth 65536 in
theorem w_ripe : about1.ripe theMethod args0 below0 = true := by decide +kernel
theorem w_running : about1.status = .running := rfl
set_option maxRecDepth 65536 in
theorem w_room : about1.hasRoom e0.platform room_1 = true :=
  launch0.hasRoom_least _ room_1 (by decide +kernel) (by decide +kernel) (by decide +kernel) (by decide +kernel) (by decide +kernel) (by decide +kernel)
theorem allAtoms_all (ts : List Jvm.Cond) (a : Array Jvm.Value) (st : Jvm.State) : (allAtoms ts).before a st = ts.all (fun c => c.before a st) := by
  induction ts with
  | nil => rfl
  | cons c t ih =>
    show (Jvm.Cond.and c (allAtoms t)).before a st = _
    rw [Jvm.Cond.before_and, ih, List.all_cons]
def words1 : List Jvm.Cond := Jvm.Cond.code x code maxLocals ret :: tables_1
/-- a 'code' word, met by the world's own term for the bytes: nothing is compared byte by byte -/
theorem code_word {y : MethodName} {bytes : ByteArray} {mx : Nat} {rt : Option FieldType} {a : Array Value} {s : State} {m : MethodId} {meth : Method} {c : Code} (h1 : s.methodNamed? y = some m) (h2 : s.vm.method? m = some meth) (h3 : meth.code = some c) (h4 : c.code = bytes)
    (h5 : (c.maxLocals == mx && c.exceptionTable.isEmpty && decide (c.maxStack ≤ mostOperands) && decide (meth.sig.returnType = rt) && !meth.locks && decide (parseMethodDescriptor y.desc = some meth.sig)) = true) : (Jvm.Cond.code y bytes mx rt).before a s = true := by
  simp only [Bool.and_eq_true, beq_iff_eq, Bool.not_eq_true', decide_eq_true_eq] at h5
  obtain ⟨⟨⟨⟨⟨g1, g2⟩, g3⟩, g4⟩, g5⟩, g6⟩ := h5
  simp [Cond.before, Cond.holds, Cond.value, h1, h2, h3, h4, g1, g2, g3, g4, g5, g6]
def isCode : Jvm.Cond → Bool
  | .code _ _ _ _ => true
  | _ => false
theorem all_split {L : List Jvm.Cond} {P : Jvm.Cond → Bool} (h1 : L.all (fun c => isCode c || P c) = true) (h2 : ∀ c ∈ L.filter isCode, P c = true) : L.all P = true := by
  refine List.all_eq_true.mpr fun c hc => ?_
  have h := List.all_eq_true.mp h1 c hc
  rcases Bool.eq_false_or_eq_true (isCode c) with hi | hi
  · exact h2 c (List.mem_filter.mpr ⟨hc, hi⟩)
  · simpa [hi] using h
set_option maxRecDepth 65536 in
theorem w_c0 : (Jvm.Cond.code x code maxLocals ret).before args0 about1 = true := code_word (m := ⟨1, 1⟩) (meth := k1m1) (c := k1c1) (by decide +kernel) rfl rfl rfl (by decide +kernel)
set_option maxRecDepth 65536 in
theorem w_c1 : (Jvm.Cond.code ({ cls := "java/lang/String", name := "<init>", desc := "([C)V" } : Jvm.MethodName) jdk_42_method_3_code (2 : Nat) (Option.none : Option Jvm.ClassFile.FieldType)).before args0 about1 = true := code_word (m := ⟨7, 1⟩) (meth := k7m1) (c := k7c1) (by decide +kernel) rfl rfl rfl (by decide +kernel)
set_option maxRecDepth 65536 in
theorem w_c2 : (Jvm.Cond.code ({ cls := "java/lang/String", name := "<init>", desc := "([CIILjava/lang/Void;)V" } : Jvm.MethodName) jdk_42_method_149_code (6 : Nat) (Option.none : Option Jvm.ClassFile.FieldType)).before args0 about1 = true := code_word (m := ⟨7, 3⟩) (meth := k7m3) (c := k7c3) (by decide +kernel) rfl rfl rfl (by decide +kernel)
set_option maxRecDepth 65536 in
theorem w_c3 : (Jvm.Cond.code ({ cls := "java/lang/Object", name := "<init>", desc := "()V" } : Jvm.MethodName) object_method_1_code (1 : Nat) (Option.none : Option Jvm.ClassFile.FieldType)).before args0 about1 = true := code_word (m := ⟨0, 0⟩) (meth := k0m0) (c := k0c0) (by decide +kernel) rfl rfl rfl (by decide +kernel)
set_option maxRecDepth 65536 in
theorem w_c4 : (Jvm.Cond.code ({ cls := "java/lang/StringUTF16", name := "compress", desc := "([CII)[B" } : Jvm.MethodName) jdk_52_method_16_code (6 : Nat) (Option.some (Jvm.ClassFile.FieldType.array Jvm.ClassFile.FieldType.byte))).before args0 about1 = true := code_word (m := ⟨8, 2⟩) (meth := k8m2) (c := k8c2) (by decide +kernel) rfl rfl rfl (by decide +kernel)
set_option maxRecDepth 65536 in
theorem w_c5 : (Jvm.Cond.code ({ cls := "java/lang/StringUTF16", name := "compress", desc := "([CI[BII)I" } : Jvm.MethodName) jdk_52_method_21_code (7 : Nat) (Option.some Jvm.ClassFile.FieldType.int)).before args0 about1 = true := code_word (m := ⟨8, 3⟩) (meth := k8m3) (c := k8c3) (by decide +kernel) rfl rfl rfl (by decide +kernel)
set_option maxRecDepth 65536 in
theorem w_c6 : (Jvm.Cond.code ({ cls := "java/lang/StringUTF16", name := "coderFromArrayLen", desc := "([BI)B" } : Jvm.MethodName) jdk_52_method_15_code (2 : Nat) (Option.some Jvm.ClassFile.FieldType.byte)).before args0 about1 = true := code_word (m := ⟨8, 1⟩) (meth := k8m1) (c := k8c1) (by decide +kernel) rfl rfl rfl (by decide +kernel)
set_option maxRecDepth 65536 in
theorem w_c7 : (Jvm.Cond.code ({ cls := "com/example/poll3/poll3/model/CurveFit", name := "none", desc := "(Ljava/lang/String;)Lcom/example/poll3/poll3/model/CurveFit;" } : Jvm.MethodName) prog_30_method_2_code (1 : Nat) (Option.some (Jvm.ClassFile.FieldType.object "com/example/poll3/poll3/model/CurveFit"))).before args0 about1 = true := code_word (m := ⟨10, 1⟩) (meth := k10m1) (c := k10c1) (by decide +kernel) rfl rfl rfl (by decide +kernel)
set_option maxRecDepth 65536 in
theorem w_c8 : (Jvm.Cond.code ({ cls := "com/example/poll3/poll3/model/CurveFit", name := "<init>", desc := "(Ljava/lang/String;Lcom/example/poll3/poll3/model/CurveFit$Curve;DDD)V" } : Jvm.MethodName) prog_30_method_1_code (9 : Nat) (Option.none : Option Jvm.ClassFile.FieldType)).before args0 about1 = true := code_word (m := ⟨10, 0⟩) (meth := k10m0) (c := k10c0) (by decide +kernel) rfl rfl rfl (by decide +kernel)
set_option maxRecDepth 65536 in
theorem w_c9 : (Jvm.Cond.code ({ cls := "java/lang/Record", name := "<init>", desc := "()V" } : Jvm.MethodName) jdk_30_method_1_code (1 : Nat) (Option.none : Option Jvm.ClassFile.FieldType)).before args0 about1 = true := code_word (m := ⟨9, 0⟩) (meth := k9m0) (c := k9c0) (by decide +kernel) rfl rfl rfl (by decide +kernel)
set_option maxRecDepth 65536 in
theorem w_c10 : (Jvm.Cond.code ({ cls := "com/example/poll3/poll3/model/CurveFit", name := "linear", desc := "()D" } : Jvm.MethodName) prog_30_method_8_code (1 : Nat) (Option.some Jvm.ClassFile.FieldType.double)).before args0 about1 = true := code_word (m := ⟨10, 4⟩) (meth := k10m4) (c := k10c4) (by decide +kernel) rfl rfl rfl (by decide +kernel)
set_option maxRecDepth 65536 in
theorem w_c11 : (Jvm.Cond.code ({ cls := "com/example/poll3/poll3/model/CurveFit", name := "logarithmic", desc := "()D" } : Jvm.MethodName) prog_30_method_9_code (1 : Nat) (Option.some Jvm.ClassFile.FieldType.double)).before args0 about1 = true := code_word (m := ⟨10, 5⟩) (meth := k10m5) (c := k10c5) (by decide +kernel) rfl rfl rfl (by decide +kernel)
set_option maxRecDepth 65536 in
theorem w_c12 : (Jvm.Cond.code ({ cls := "com/example/poll3/poll3/model/CurveFit", name := "exponential", desc := "()D" } : Jvm.MethodName) prog_30_method_10_code (1 : Nat) (Option.some Jvm.ClassFile.FieldType.double)).before args0 about1 = true := code_word (m := ⟨10, 6⟩) (meth := k10m6) (c := k10c6) (by decide +kernel) rfl rfl rfl (by decide +kernel)
set_option maxRecDepth 65536 in
theorem w_c13 : (Jvm.Cond.code ({ cls := "com/example/poll3/poll3/model/CurveFit", name := "server", desc := "()Ljava/lang/String;" } : Jvm.MethodName) prog_30_method_6_code (1 : Nat) (Option.some (Jvm.ClassFile.FieldType.object "java/lang/String"))).before args0 about1 = true := code_word (m := ⟨10, 2⟩) (meth := k10m2) (c := k10c2) (by decide +kernel) rfl rfl rfl (by decide +kernel)
set_option maxRecDepth 65536 in
theorem w_c14 : (Jvm.Cond.code ({ cls := "java/lang/String", name := "equals", desc := "(Ljava/lang/Object;)Z" } : Jvm.MethodName) jdk_42_method_66_code (3 : Nat) (Option.some Jvm.ClassFile.FieldType.boolean)).before args0 about1 = true := code_word (m := ⟨7, 2⟩) (meth := k7m2) (c := k7c2) (by decide +kernel) rfl rfl rfl (by decide +kernel)
set_option maxRecDepth 65536 in
theorem w_c15 : (Jvm.Cond.code ({ cls := "com/example/poll3/poll3/model/CurveFit", name := "kept", desc := "()Lcom/example/poll3/poll3/model/CurveFit$Curve;" } : Jvm.MethodName) prog_30_method_7_code (1 : Nat) (Option.some (Jvm.ClassFile.FieldType.object "com/example/poll3/poll3/model/CurveFit$Curve"))).before args0 about1 = true := code_word (m := ⟨10, 3⟩) (meth := k10m3) (c := k10c3) (by decide +kernel) rfl rfl rfl (by decide +kernel)
def codes1 : List Jvm.Cond := [Jvm.Cond.code x code maxLocals ret, Jvm.Cond.code ({ cls := "java/lang/String", name := "<init>", desc := "([C)V" } : Jvm.MethodName) jdk_42_method_3_code (2 : Nat) (Option.none : Option Jvm.ClassFile.FieldType), Jvm.Cond.code ({ cls := "java/lang/String", name := "<init>", desc := "([CIILjava/lang/Void;)V" } : Jvm.MethodName) jdk_42_method_149_code (6 : Nat) (Option.none : Option Jvm.ClassFile.FieldType), Jvm.Cond.code ({ cls := "java/lang/Object", name := "<init>", desc := "()V" } : Jvm.MethodName) object_method_1_code (1 : Nat) (Option.none : Option Jvm.ClassFile.FieldType), Jvm.Cond.code ({ cls := "java/lang/StringUTF16", name := "compress", desc := "([CII)[B" } : Jvm.MethodName) jdk_52_method_16_code (6 : Nat) (Option.some (Jvm.ClassFile.FieldType.array Jvm.ClassFile.FieldType.byte)), Jvm.Cond.code ({ cls := "java/lang/StringUTF16", name := "compress", desc := "([CI[BII)I" } : Jvm.MethodName) jdk_52_method_21_code (7 : Nat) (Option.some Jvm.ClassFile.FieldType.int), Jvm.Cond.code ({ cls := "java/lang/StringUTF16", name := "coderFromArrayLen", desc := "([BI)B" } : Jvm.MethodName) jdk_52_method_15_code (2 : Nat) (Option.some Jvm.ClassFile.FieldType.byte), Jvm.Cond.code ({ cls := "com/example/poll3/poll3/model/CurveFit", name := "none", desc := "(Ljava/lang/String;)Lcom/example/poll3/poll3/model/CurveFit;" } : Jvm.MethodName) prog_30_method_2_code (1 : Nat) (Option.some (Jvm.ClassFile.FieldType.object "com/example/poll3/poll3/model/CurveFit")), Jvm.Cond.code ({ cls := "com/example/poll3/poll3/model/CurveFit", name := "<init>", desc := "(Ljava/lang/String;Lcom/example/poll3/poll3/model/CurveFit$Curve;DDD)V" } : Jvm.MethodName) prog_30_method_1_code (9 : Nat) (Option.none : Option Jvm.ClassFile.FieldType), Jvm.Cond.code ({ cls := "java/lang/Record", name := "<init>", desc := "()V" } : Jvm.MethodName) jdk_30_method_1_code (1 : Nat) (Option.none : Option Jvm.ClassFile.FieldType), Jvm.Cond.code ({ cls := "com/example/poll3/poll3/model/CurveFit", name := "linear", desc := "()D" } : Jvm.MethodName) prog_30_method_8_code (1 : Nat) (Option.some Jvm.ClassFile.FieldType.double), Jvm.Cond.code ({ cls := "com/example/poll3/poll3/model/CurveFit", name := "logarithmic", desc := "()D" } : Jvm.MethodName) prog_30_method_9_code (1 : Nat) (Option.some Jvm.ClassFile.FieldType.double), Jvm.Cond.code ({ cls := "com/example/poll3/poll3/model/CurveFit", name := "exponential", desc := "()D" } : Jvm.MethodName) prog_30_method_10_code (1 : Nat) (Option.some Jvm.ClassFile.FieldType.double), Jvm.Cond.code ({ cls := "com/example/poll3/poll3/model/CurveFit", name := "server", desc := "()Ljava/lang/String;" } : Jvm.MethodName) prog_30_method_6_code (1 : Nat) (Option.some (Jvm.ClassFile.FieldType.object "java/lang/String")), Jvm.Cond.code ({ cls := "java/lang/String", name := "equals", desc := "(Ljava/lang/Object;)Z" } : Jvm.MethodName) jdk_42_method_66_code (3 : Nat) (Option.some Jvm.ClassFile.FieldType.boolean), Jvm.Cond.code ({ cls := "com/example/poll3/poll3/model/CurveFit", name := "kept", desc := "()Lcom/example/poll3/poll3/model/CurveFit$Curve;" } : Jvm.MethodName) prog_30_method_7_code (1 : Nat) (Option.some (Jvm.ClassFile.FieldType.object "com/example/poll3/poll3/model/CurveFit$Curve"))]
set_option maxRecDepth 65536 in
theorem codes_eq : words1.filter isCode = codes1 := rfl
theorem w_codes : ∀ c ∈ words1.filter isCode, c.before args0 about1 = true := by
  rw [codes_eq]
  intro c hc
  simp only [codes1, List.mem_cons, List.not_mem_nil, or_false] at hc
  rcases hc with rfl | rfl | rfl | rfl | rfl | rfl | rfl | rfl | rfl | rfl | rfl | rfl | rfl | rfl | rfl | rfl
  · exact w_c0
  · exact w_c1
  · exact w_c2
  · exact w_c3
  · exact w_c4
  · exact w_c5
  · exact w_c6
  · exact w_c7
  · exact w_c8
  · exact w_c9
  · exact w_c10
  · exact w_c11
  · exact w_c12
  · exact w_c13
  · exact w_c14
  · exact w_c15
set_option maxRecDepth 65536 in
theorem w_t1 : (words1.take 24).all (fun c => isCode c || c.before args0 about1) = true := by decide +kernel
set_option maxRecDepth 65536 in
theorem w_t2 : ((words1.drop 24).take 24).all (fun c => isCode c || c.before args0 about1) = true := by decide +kernel
set_option maxRecDepth 65536 in
theorem w_t3 : (((words1.drop 24).drop 24).take 24).all (fun c => isCode c || c.before args0 about1) = true := by decide +kernel
set_option maxRecDepth 65536 in
theorem w_t4 : (((words1.drop 24).drop 24).drop 24).all (fun c => isCode c || c.before args0 about1) = true := by decide +kernel
theorem w_tables : (allAtoms (Jvm.Cond.code x code maxLocals ret :: tables_1)).before args0 about1 = true := by
  rw [allAtoms_all]
  show words1.all (fun c => c.before args0 about1) = true
  refine all_split ?_ w_codes
  rw [← List.take_append_drop 24 words1, List.all_append, w_t1, ← List.take_append_drop 24 (words1.drop 24), List.all_append, w_t2, ← List.take_append_drop 24 ((words1.drop 24).drop 24), List.all_append, w_t3, w_t4]
  rfl
set_option maxRecDepth 65536 in
theorem w_rest : rest_1_c.before args0 about1 = true := by decide +kernel
set_option maxRecDepth 65536 in
theorem w_case : (Jvm.Cond.and given_1 narrow_1).before args0 about1 = true := by decide +kernel
set_option maxRecDepth 65536 in
theorem w_consts : constsHeld consts_1 about1 := Jvm.Lit.constsHeldB_iff.mp (by decide +kernel)
theorem w_applies : (headSpec (Jvm.Cond.code x code maxLocals ret :: tables_1) room_1).applies x e0.platform about1 = true :=
  (Spec.applies_iff w_frames).mpr ⟨w_running, w_runnable, w_alone, w_named, w_hears, w_ripe, w_room, w_tables⟩
theorem atStart : AtStart classFile x code maxLocals ret World_1 tables_1 room_1 Calls_1 rest_1 Pre_1 launch0 p0 e0 about1 theMethod args0 below0 :=
  ⟨lists_1, trivial, launch0.admits_env _ _ _, launch0.least_env, fairChoices_fair.cas, fairChoices_fair.clock, w_frames, w_args, w_heap, w_applies, ⟨w_consts, trivial⟩, w_rest, w_case⟩
end start1
theorem witness_1 : WitnessClaimed_1 := ⟨start1.p0, start1.e0, start1.about1, start1.theMethod, start1.args0, start1.below0, start1.atStart⟩
end Jvm.Pilot.@@N@@
