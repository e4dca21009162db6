import JvmDerived
import JvmDerived.Pilot.@@N@@Statement
import JvmDerived.Pilot.@@N@@Code
set_option linter.unusedVariables false
set_option linter.unusedSimpArgs false
namespace Jvm.OwnGo
open Jvm Sem ClassFile Op Lib Jvm.Stand Jvm.Free Jvm.LawKit Jvm.RoadKit
/-! ## 1. where a walk stands, and how it ends -/
/-- a walk may bear one more word on its base; KT: none -/
def KT : State → Prop := fun _ => True
def Ctx (K : State → Prop) (Z : State) (y : MethodName) (bytes : ByteArray) (ml : Nat) (ret : Option FieldType) (p : Program) (s : State) (m : MethodId) (meth : Method) (c : Code) : Prop :=
  p.tables.exec = Jvm.exec ∧ c.code = bytes ∧ c.maxLocals = ml ∧ s.vm.findClass y.cls = some m.cls ∧ Z.Warmed39 s.vm ∧ meth.sig.returnType = ret ∧ meth.locks = false ∧ meth.name = y.name ∧ K s
/-- what the walk's base has to do with the method's start: the same, or (where literals may be made) the start under later tables -/
def Base (wd : Bool) (s0 s : State) (h : Heap) : Prop := if wd = true then ∃ vm0 k0, s = s0.setVm vm0 ∧ s0.Since vm0 k0 ∧ k0 ≤ h.size else s = s0
def EndK (wd : Bool) (s0 : State) (o : Outcome) (t : State) (L : List Loc) (k n : Nat) : Prop := if wd = true then ReturnedEndW s0 o t L k n else FrameEnd s0 o t L k n
def Ends (wd : Bool) (n0 kc ks : Nat) (Q : Option Value → Heap → Prop) (p : Program) (e : Env) (below : List Frame) (s0 T : State) (g : JFrame) : Prop :=
  ∃ s₂ o, Steps p.tables e below (T.setTop g) s₂ ∧ s₂.status = .running ∧ Ended s₂ below o ∧ ∃ v L, o = .returned v ∧ (Q v s₂.heap ∧ Fr n0 L) ∧ EndK wd s0 o s₂ L kc ks
def Go (wd : Bool) (K : State → Prop) (l : Launch) (Z : State) (R : Room) (y : MethodName) (bytes : ByteArray) (ml : Nat) (ret : Option FieldType) (n0 kc ks : Nat) (Q : Option Value → Heap → Prop) (h : Heap) (k n pc : Nat) (ls : List Slot) (st : List Value) : Prop :=
  ∀ (p : Program) (e : Env) (s0 s : State) (m : MethodId) (args : Array Value) (below : List Frame) (meth : Method) (c : Code) (T : State) (L : List Loc),
    Base wd s0 s h → Ctx K Z y bytes ml ret p s m meth c → Stand p l e R s m args below meth c T L k n → T.heap = h → Fr n0 L → Ends wd n0 kc ks Q p e below s0 T (mkF m pc ls.toArray st)
/-- a contract: what a body leaves, called with the values as' over the heap h -/
def Con (wd : Bool) (l : Launch) (Z : State) (y : MethodName) (bytes : ByteArray) (ml : Nat) (ret : Option FieldType) (rm : Room) (as' : Array Value) (h : Heap) (n0 : Nat) (Q : Option Value → Heap → Prop) : Prop :=
  ∀ ws : List Cond, MetFree l y (head1 (Cond.code y bytes ml ret :: ws) rm) (fun a U => a = as' ∧ Z.Warmed39 U.vm ∧ U.heap = h) (fun _ _ _ _ _ => True)
    (fun _ U o U' => ∃ v L, o = .returned v ∧ ((Q v U'.heap ∧ h.size ≤ U'.heap.size) ∧ Fr n0 L) ∧ EndK wd U o U' L rm.cells rm.slots)
/-- it returns a value -/
def R1 (P : Value → Heap → Prop) : Option Value → Heap → Prop := fun v h => ∃ w, v = some w ∧ P w h
/-- it returns nothing -/
def R0 (P : Heap → Prop) : Option Value → Heap → Prop := fun v h => v = none ∧ P h
/-- it returns this value and leaves the heap as it was -/
abbrev Ret (w : Value) (h : Heap) : Option Value → Heap → Prop := R1 fun w' h' => w' = w ∧ h = h'
/-- a local variable written over -/
def setl : List Slot → Nat → Slot → List Slot
  | [], _, _ => []
  | _ :: r, 0, x => x :: r
  | a :: r, i + 1, x => a :: setl r i x
def lupd {α : Type} : List α → Nat → α → List α
  | [], _, _ => []
  | _ :: r, 0, x => x :: r
  | a :: r, i + 1, x => a :: lupd r i x
def one : Slot → Bool
  | .unset => true
  | .val v => v.category == 1
  | .second => false
def two : Slot → Slot → Bool
  | .val v, .second => v.category == 2
  | a, b => one a && one b
def Dc (bytes : ByteArray) (pc : Nat) (i : Instr) (len pc' : Nat) : Prop := decode bytes pc = .ok (i, len) ∧ pc + len = pc'
def Dp (bytes : ByteArray) (pc : Nat) (v : Int32) (pc' : Nat) : Prop := (∃ i, decode bytes pc = .ok (.iconst i, 1) ∧ Int32.ofInt i = v ∧ pc + 1 = pc') ∨ (∃ i, decode bytes pc = .ok (.bipush i, 2) ∧ (Int8.ofInt i).toInt32 = v ∧ pc + 2 = pc') ∨ (∃ i, decode bytes pc = .ok (.sipush i, 3) ∧ (Int16.ofInt i).toInt32 = v ∧ pc + 3 = pc')
def Dlc (bytes : ByteArray) (pc : Nat) (v : Int64) (pc' : Nat) : Prop := ∃ k : Fin 2, decode bytes pc = .ok (.lconst k, 1) ∧ Int64.ofNat k = v ∧ pc + 1 = pc'
/-- a branch: where it goes on, and where it leads -/
def Db (bytes : ByteArray) (pc : Nat) (f : Int → Instr) (pc' tg : Nat) : Prop := ∃ o : Int, decode bytes pc = .ok (f o, 3) ∧ pc + 3 = pc' ∧ 0 ≤ (pc : Int) + o ∧ ((pc : Int) + o).toNat = tg
def Dld (bytes : ByteArray) (pc : Nat) (f : Nat → Instr) (fn : Fin 4 → Instr) (i pc' : Nat) : Prop := (decode bytes pc = .ok (f i, 2) ∧ pc + 2 = pc') ∨ (∃ k : Fin 4, decode bytes pc = .ok (fn k, 1) ∧ k.val = i ∧ pc + 1 = pc')
def Dinc (bytes : ByteArray) (pc i : Nat) (v : Int32) (pc' : Nat) : Prop := ∃ c : Int, decode bytes pc = .ok (.iinc i c, 3) ∧ Int32.ofInt c = v ∧ pc + 3 = pc'
/-- the same, by the instructions' sorts -/
abbrev Dil (b : ByteArray) (pc i pc' : Nat) : Prop := Dld b pc .iload .iload_n i pc'
abbrev Dal (b : ByteArray) (pc i pc' : Nat) : Prop := Dld b pc .aload .aload_n i pc'
abbrev Dll (b : ByteArray) (pc i pc' : Nat) : Prop := Dld b pc .lload .lload_n i pc'
abbrev Dis (b : ByteArray) (pc i pc' : Nat) : Prop := Dld b pc .istore .istore_n i pc'
abbrev Das (b : ByteArray) (pc i pc' : Nat) : Prop := Dld b pc .astore .astore_n i pc'
abbrev Dls (b : ByteArray) (pc i pc' : Nat) : Prop := Dld b pc .lstore .lstore_n i pc'
section Walk
variable {wd : Bool} {K₀ : State → Prop} {l : Launch} {Z : State} {R : Room} {y : MethodName} {bytes : ByteArray} {ml : Nat} {ret : Option FieldType} {n0 kc ks : Nat} {Q : Option Value → Heap → Prop} {h : Heap} {k n pc pc' tg i : Nat} {ls : List Slot} {st : List Value} {a0 : Array Value}
theorem lrem64 (x y : Int64) : x - x / y * y = x % y := by
  apply Int64.toInt_inj.mp
  have h1 := Int64.le_toInt (x % y)
  have h2 := Int64.toInt_lt (x % y)
  rw [Int64.toInt_sub, Int64.toInt_mul, Int64.toInt_div, Int.bmod_mul_bmod, Int.sub_bmod_bmod, Int.mul_comm (x.toInt.tdiv y.toInt), ← Int.tmod_def, ← Int64.toInt_mod]
  exact Int.bmod_eq_of_le_mul_two (by omega) (by omega)
theorem setl_arr : ∀ (ls : List Slot) (i : Nat) (x : Slot), (setl ls i x).toArray = ls.toArray.setIfInBounds i x := by
  intro ls i x
  rw [List.setIfInBounds_toArray]
  congr 1
  induction ls generalizing i with
  | nil => simp [setl]
  | cons a r ih => cases i with
    | zero => simp [setl]
    | succ i => simp [setl, ih]
theorem setl_len : ∀ (ls : List Slot) (i : Nat) (x : Slot), (setl ls i x).length = ls.length := by
  intro ls i x
  induction ls generalizing i with
  | nil => rfl
  | cons a r ih => cases i with
    | zero => rfl
    | succ i => simp [setl, ih]
theorem upd_set {α : Type} : ∀ (ls : List α) (i : Nat) (x : α), lupd ls i x = ls.set i x := by
  intro ls i x
  induction ls generalizing i with
  | nil => simp [lupd]
  | cons a r ih => cases i with
    | zero => simp [lupd]
    | succ i => simp [lupd, ih]
theorem setl_get {ls : List Slot} {i : Nat} {x o : Slot} (h : ls[i]? = some o) (j : Nat) : (setl ls i x)[j]? = if j = i then some x else ls[j]? := by
  induction ls generalizing i j with
  | nil => simp at h
  | cons a r ih => cases i with
    | zero => cases j <;> simp [setl]
    | succ i => cases j with
      | zero => simp [setl]
      | succ j => simp only [setl, List.getElem?_cons_succ] at h ⊢; rw [ih h j]; simp
theorem Base.mono {s0 s : State} {h' : Heap} (B : Base wd s0 s h) (q : h.size ≤ h'.size) : Base wd s0 s h' := by
  cases wd
  · exact B
  · obtain ⟨vm0, k0, e1, e2, e3⟩ := B; exact ⟨vm0, k0, e1, e2, Nat.le_trans e3 q⟩
theorem Base.start (s : State) (hh : s.heap = h) : Base wd s s h := by
  cases wd
  · exact (rfl : s = s)
  · exact ⟨s.vm, h.size, rfl, (State.WarmedH.refl s).since _, Nat.le_refl _⟩
theorem EndK.size {s0 t : State} {o : Outcome} {L : List Loc} {k n : Nat} (E : EndK wd s0 o t L k n) : s0.heap.size ≤ t.heap.size := by
  cases wd
  · exact E.2.2.2.1
  · exact E.2.2.2.2.1
theorem endK {s0 s T : State} {fs : List Frame} {v : Option Value} {L : List Loc} (B : Base wd s0 s h) (hh : T.heap = h) (hW : s.WarmedH (T.setFrames fs).vm) (hsame : s.sameButNew ({ T.setFrames fs with vm := s.vm } : State) L k n) (hk : k ≤ kc) (hn : n ≤ ks) : EndK wd s0 (.returned v) (T.setFrames fs) L kc ks := by
  cases wd
  · have e : s = s0 := B
    subst e
    exact ⟨⟨_, rfl⟩, hW, hsame.mono hk hn⟩
  · obtain ⟨vm0, k0, rfl, hS, hk0⟩ := B
    obtain ⟨a1, a2, a3⟩ := hS.ended (U := T.setFrames fs) hW (by show k0 ≤ T.heap.size; rw [hh]; exact hk0) hsame
    exact ⟨⟨_, rfl⟩, a1, a2, a3.mono hk hn⟩
theorem Ends.pre {p : Program} {e : Env} {below : List Frame} {s0 T T' : State} {g g' : JFrame} (E : Ends wd n0 kc ks Q p e below s0 T' g') (st : ∀ t, Steps p.tables e below (T'.setTop g') t → Steps p.tables e below (T.setTop g) t) : Ends wd n0 kc ks Q p e below s0 T g := by
  obtain ⟨s₂, o, h1, r⟩ := E; exact ⟨s₂, o, st _ h1, r⟩
theorem go_pure {ls' : List Slot} {st' : List Value} (G : Go wd K₀ l Z R y bytes ml ret n0 kc ks Q h k n pc' ls' st') (H : ∀ {p : Program} {e : Env} {s : State} {m : MethodId} {args : Array Value} {below : List Frame} {meth : Method} {c : Code} {T : State} {L : List Loc}, Ctx K₀ Z y bytes ml ret p s m meth c → Stand p l e R s m args below meth c T L k n →
    ∀ t, Steps p.tables e below (T.setTop (mkF m pc' ls'.toArray st')) t → Steps p.tables e below (T.setTop (mkF m pc ls.toArray st)) t) : Go wd K₀ l Z R y bytes ml ret n0 kc ks Q h k n pc ls st :=
  fun p e s0 s m args below meth c T L B C X hh N => (G p e s0 s m args below meth c T L B C X hh N).pre (H C X)
theorem go_more {k' n' : Nat} (hk : k ≤ k') (hn : n ≤ n') (G : Go wd K₀ l Z R y bytes ml ret n0 kc ks Q h k' n' pc ls st) : Go wd K₀ l Z R y bytes ml ret n0 kc ks Q h k n pc ls st :=
  fun p e s0 s m args below meth c T L B C X hh N => G p e s0 s m args below meth c T L B C (X.more hk hn) hh N
theorem go_nameI {x : Int32} (G : ∀ v : Int32, v = x → Go wd K₀ l Z R y bytes ml ret n0 kc ks Q h k n pc ls (.int v :: st)) : Go wd K₀ l Z R y bytes ml ret n0 kc ks Q h k n pc ls (.int x :: st) := G x rfl
theorem go_nameJ {x : Int64} (G : ∀ v : Int64, v = x → Go wd K₀ l Z R y bytes ml ret n0 kc ks Q h k n pc ls (.long v :: st)) : Go wd K₀ l Z R y bytes ml ret n0 kc ks Q h k n pc ls (.long x :: st) := G x rfl
theorem go_isI {x : Int32} (x' : Int32) (q : x = x') (G : Go wd K₀ l Z R y bytes ml ret n0 kc ks Q h k n pc ls (.int x' :: st)) : Go wd K₀ l Z R y bytes ml ret n0 kc ks Q h k n pc ls (.int x :: st) := q ▸ G
theorem go_isJ {x : Int64} (x' : Int64) (q : x = x') (G : Go wd K₀ l Z R y bytes ml ret n0 kc ks Q h k n pc ls (.long x' :: st)) : Go wd K₀ l Z R y bytes ml ret n0 kc ks Q h k n pc ls (.long x :: st) := q ▸ G
theorem go_iload {v : Int32} (D : Dil bytes pc i pc') (hl : ls[i]? = some (.val (.int v))) (G : Go wd K₀ l Z R y bytes ml ret n0 kc ks Q h k n pc' ls (.int v :: st)) : Go wd K₀ l Z R y bytes ml ret n0 kc ks Q h k n pc ls st := by
  rcases D with ⟨hd, rfl⟩ | ⟨kk, hd, rfl, rfl⟩
  · exact go_pure G (fun C X t => XS.iload X.here C.1 (g := mkF _ pc ls.toArray st) rfl (hb C.2.1 hd) (by simpa using hl))
  · exact go_pure G (fun C X t => XS.iloadN X.here C.1 (g := mkF _ pc ls.toArray st) rfl (hb C.2.1 hd) (by simpa using hl))
theorem go_lload {v : Int64} (D : Dll bytes pc i pc') (hl : ls[i]? = some (.val (.long v))) (G : Go wd K₀ l Z R y bytes ml ret n0 kc ks Q h k n pc' ls (.long v :: st)) : Go wd K₀ l Z R y bytes ml ret n0 kc ks Q h k n pc ls st := by
  rcases D with ⟨hd, rfl⟩ | ⟨kk, hd, rfl, rfl⟩
  · exact go_pure G (fun C X t => XT.lload X.here C.1 (g := mkF _ pc ls.toArray st) rfl (hb C.2.1 hd) (by simpa using hl))
  · exact go_pure G (fun C X t => XT.lloadN X.here C.1 (g := mkF _ pc ls.toArray st) rfl (hb C.2.1 hd) (by simpa using hl))
theorem go_aload {v : Value} (D : Dal bytes pc i pc') (hl : ls[i]? = some (.val v)) (hv : v.isRef = true) (G : Go wd K₀ l Z R y bytes ml ret n0 kc ks Q h k n pc' ls (v :: st)) : Go wd K₀ l Z R y bytes ml ret n0 kc ks Q h k n pc ls st := by
  rcases D with ⟨hd, rfl⟩ | ⟨kk, hd, rfl, rfl⟩
  · exact go_pure G (fun C X t => XS.aload X.here C.1 (g := mkF _ pc ls.toArray st) rfl (hb C.2.1 hd) (by simpa using hl) hv)
  · exact go_pure G (fun C X t => XS.aloadN X.here C.1 (g := mkF _ pc ls.toArray st) rfl (hb C.2.1 hd) (by simpa using hl) hv)
theorem store_one {ls : List Slot} {i : Nat} {v : Value} {o : Slot} (hv : v.category = 1) (hl : ls[i]? = some o) (ho : one o = true) : storeLocals ls.toArray i v = some (setl ls i (.val v)).toArray := by
  rw [setl_arr]
  refine storeLocals_cat1 (x := o) (by simpa using hl) hv ?_
  cases o <;> simp [one] at ho ⊢
  exact ho
theorem store_two {ls : List Slot} {i : Nat} {v : Value} {o o' : Slot} (hv : v.category = 2) (hl : ls[i]? = some o) (hl' : ls[i + 1]? = some o') (ho : two o o' = true) : storeLocals ls.toArray i v = some (setl (setl ls i (.val v)) (i + 1) .second).toArray := by
  rw [setl_arr, setl_arr]
  refine Jvm.Free.Fl.storeLocals_cat2 (by simpa using hl) (by simpa using hl') hv ?_
  cases o <;> cases o' <;> simp_all [two, one, Jvm.Free.Fl.Plain1]
theorem go_istore {x : Int32} {o : Slot} (D : Dis bytes pc i pc') (hl : ls[i]? = some o) (ho : one o = true) (G : Go wd K₀ l Z R y bytes ml ret n0 kc ks Q h k n pc' (setl ls i (.val (.int x))) st) : Go wd K₀ l Z R y bytes ml ret n0 kc ks Q h k n pc ls (.int x :: st) := by
  rcases D with ⟨hd, rfl⟩ | ⟨kk, hd, rfl, rfl⟩
  · exact go_pure G (fun C X t => XS.istore X.here C.1 (g := mkF _ pc ls.toArray (.int x :: st)) rfl (hb C.2.1 hd) rfl (store_one rfl hl ho))
  · exact go_pure G (fun C X t => XS.istoreN X.here C.1 (g := mkF _ pc ls.toArray (.int x :: st)) rfl (hb C.2.1 hd) rfl (store_one rfl hl ho))
theorem go_astore {x : Value} {o : Slot} (D : Das bytes pc i pc') (hv : x.isRef = true) (hl : ls[i]? = some o) (ho : one o = true) (G : Go wd K₀ l Z R y bytes ml ret n0 kc ks Q h k n pc' (setl ls i (.val x)) st) : Go wd K₀ l Z R y bytes ml ret n0 kc ks Q h k n pc ls (x :: st) := by
  have hc : x.category = 1 := XT.cat1 hv
  rcases D with ⟨hd, rfl⟩ | ⟨kk, hd, rfl, rfl⟩
  · exact go_pure G (fun C X t => XS.astore X.here C.1 (g := mkF _ pc ls.toArray (x :: st)) rfl (hb C.2.1 hd) rfl hv (store_one hc hl ho))
  · exact go_pure G (fun C X t => XS.astoreN X.here C.1 (g := mkF _ pc ls.toArray (x :: st)) rfl (hb C.2.1 hd) rfl hv (store_one hc hl ho))
theorem go_lstore {x : Int64} {o o' : Slot} (D : Dls bytes pc i pc') (hl : ls[i]? = some o) (hl' : ls[i + 1]? = some o') (ho : two o o' = true) (G : Go wd K₀ l Z R y bytes ml ret n0 kc ks Q h k n pc' (setl (setl ls i (.val (.long x))) (i + 1) .second) st) : Go wd K₀ l Z R y bytes ml ret n0 kc ks Q h k n pc ls (.long x :: st) := by
  rcases D with ⟨hd, rfl⟩ | ⟨kk, hd, rfl, rfl⟩
  · exact go_pure G (fun C X t => XT.lstore X.here C.1 (g := mkF _ pc ls.toArray (.long x :: st)) rfl (hb C.2.1 hd) rfl (store_two rfl hl hl' ho))
  · exact go_pure G (fun C X t => XT.lstoreN X.here C.1 (g := mkF _ pc ls.toArray (.long x :: st)) rfl (hb C.2.1 hd) rfl (store_two rfl hl hl' ho))
/-- any store, the locals said -/
theorem go_istoreX {x : Int32} {ls' : List Slot} (D : Dis bytes pc i pc') (hl : storeLocals ls.toArray i (.int x) = some ls'.toArray) (G : Go wd K₀ l Z R y bytes ml ret n0 kc ks Q h k n pc' ls' st) : Go wd K₀ l Z R y bytes ml ret n0 kc ks Q h k n pc ls (.int x :: st) := by
  rcases D with ⟨hd, rfl⟩ | ⟨kk, hd, rfl, rfl⟩
  · exact go_pure G (fun C X t => XS.istore X.here C.1 (g := mkF _ pc ls.toArray (.int x :: st)) rfl (hb C.2.1 hd) rfl hl)
  · exact go_pure G (fun C X t => XS.istoreN X.here C.1 (g := mkF _ pc ls.toArray (.int x :: st)) rfl (hb C.2.1 hd) rfl hl)
theorem go_astoreX {x : Value} {ls' : List Slot} (D : Das bytes pc i pc') (hv : x.isRef = true) (hl : storeLocals ls.toArray i x = some ls'.toArray) (G : Go wd K₀ l Z R y bytes ml ret n0 kc ks Q h k n pc' ls' st) : Go wd K₀ l Z R y bytes ml ret n0 kc ks Q h k n pc ls (x :: st) := by
  rcases D with ⟨hd, rfl⟩ | ⟨kk, hd, rfl, rfl⟩
  · exact go_pure G (fun C X t => XS.astore X.here C.1 (g := mkF _ pc ls.toArray (x :: st)) rfl (hb C.2.1 hd) rfl hv hl)
  · exact go_pure G (fun C X t => XS.astoreN X.here C.1 (g := mkF _ pc ls.toArray (x :: st)) rfl (hb C.2.1 hd) rfl hv hl)
theorem go_lstoreX {x : Int64} {ls' : List Slot} (D : Dls bytes pc i pc') (hl : storeLocals ls.toArray i (.long x) = some ls'.toArray) (G : Go wd K₀ l Z R y bytes ml ret n0 kc ks Q h k n pc' ls' st) : Go wd K₀ l Z R y bytes ml ret n0 kc ks Q h k n pc ls (.long x :: st) := by
  rcases D with ⟨hd, rfl⟩ | ⟨kk, hd, rfl, rfl⟩
  · exact go_pure G (fun C X t => XT.lstore X.here C.1 (g := mkF _ pc ls.toArray (.long x :: st)) rfl (hb C.2.1 hd) rfl hl)
  · exact go_pure G (fun C X t => XT.lstoreN X.here C.1 (g := mkF _ pc ls.toArray (.long x :: st)) rfl (hb C.2.1 hd) rfl hl)
theorem go_iinc {x v : Int32} (D : Dinc bytes pc i v pc') (hl : ls[i]? = some (.val (.int x))) (G : Go wd K₀ l Z R y bytes ml ret n0 kc ks Q h k n pc' (setl ls i (.val (.int (x + v)))) st) : Go wd K₀ l Z R y bytes ml ret n0 kc ks Q h k n pc ls st := by
  obtain ⟨c, hd, rfl, rfl⟩ := D
  exact go_pure G (fun C X t => XS.iinc X.here C.1 (g := mkF _ pc ls.toArray st) rfl (hb C.2.1 hd) (by simpa using hl) (store_one rfl hl rfl))
theorem go_iincX {x v x' : Int32} (D : Dinc bytes pc i v pc') (hl : ls[i]? = some (.val (.int x))) (q : x + v = x') (G : Go wd K₀ l Z R y bytes ml ret n0 kc ks Q h k n pc' (setl ls i (.val (.int x'))) st) : Go wd K₀ l Z R y bytes ml ret n0 kc ks Q h k n pc ls st := go_iinc D hl (q ▸ G)
theorem go_push {v : Int32} (D : Dp bytes pc v pc') (G : Go wd K₀ l Z R y bytes ml ret n0 kc ks Q h k n pc' ls (.int v :: st)) : Go wd K₀ l Z R y bytes ml ret n0 kc ks Q h k n pc ls st := by
  rcases D with ⟨_, hd, rfl, rfl⟩ | ⟨_, hd, rfl, rfl⟩ | ⟨_, hd, rfl, rfl⟩
  · exact go_pure G (fun C X t => XS.iconst X.here C.1 (g := mkF _ pc ls.toArray st) rfl (hb C.2.1 hd))
  · exact go_pure G (fun C X t => XS.bipush X.here C.1 (g := mkF _ pc ls.toArray st) rfl (hb C.2.1 hd))
  · exact go_pure G (fun C X t => XS.sipush X.here C.1 (g := mkF _ pc ls.toArray st) rfl (hb C.2.1 hd))
theorem go_lconst {v : Int64} (D : Dlc bytes pc v pc') (G : Go wd K₀ l Z R y bytes ml ret n0 kc ks Q h k n pc' ls (.long v :: st)) : Go wd K₀ l Z R y bytes ml ret n0 kc ks Q h k n pc ls st := by
  obtain ⟨_, hd, rfl, rfl⟩ := D
  exact go_pure G (fun C X t => XT.lconst X.here C.1 (g := mkF _ pc ls.toArray st) rfl (hb C.2.1 hd))
theorem go_null (D : Dc bytes pc .aconst_null 1 pc') (G : Go wd K₀ l Z R y bytes ml ret n0 kc ks Q h k n pc' ls (.null :: st)) : Go wd K₀ l Z R y bytes ml ret n0 kc ks Q h k n pc ls st := by
  obtain ⟨hd, rfl⟩ := D
  exact go_pure G (fun C X t => XS.aconstNull X.here C.1 (g := mkF _ pc ls.toArray st) rfl (hb C.2.1 hd))
theorem go_iadd {a : Int32} {b : Int32} (D : Dc bytes pc .iadd 1 pc') (G : Go wd K₀ l Z R y bytes ml ret n0 kc ks Q h k n pc' ls (.int (a + b) :: st)) : Go wd K₀ l Z R y bytes ml ret n0 kc ks Q h k n pc ls (.int b :: .int a :: st) := by
  obtain ⟨hd, rfl⟩ := D
  exact go_pure G (fun C X t => XS.iadd X.here C.1 (g := mkF _ pc ls.toArray (.int b :: .int a :: st)) rfl (hb C.2.1 hd) rfl)
theorem go_isub {a : Int32} {b : Int32} (D : Dc bytes pc .isub 1 pc') (G : Go wd K₀ l Z R y bytes ml ret n0 kc ks Q h k n pc' ls (.int (a - b) :: st)) : Go wd K₀ l Z R y bytes ml ret n0 kc ks Q h k n pc ls (.int b :: .int a :: st) := by
  obtain ⟨hd, rfl⟩ := D
  exact go_pure G (fun C X t => XS.isub X.here C.1 (g := mkF _ pc ls.toArray (.int b :: .int a :: st)) rfl (hb C.2.1 hd) rfl)
theorem go_imul {a : Int32} {b : Int32} (D : Dc bytes pc .imul 1 pc') (G : Go wd K₀ l Z R y bytes ml ret n0 kc ks Q h k n pc' ls (.int (a * b) :: st)) : Go wd K₀ l Z R y bytes ml ret n0 kc ks Q h k n pc ls (.int b :: .int a :: st) := by
  obtain ⟨hd, rfl⟩ := D
  exact go_pure G (fun C X t => XS.imul X.here C.1 (g := mkF _ pc ls.toArray (.int b :: .int a :: st)) rfl (hb C.2.1 hd) rfl)
theorem go_iand {a : Int32} {b : Int32} (D : Dc bytes pc .iand 1 pc') (G : Go wd K₀ l Z R y bytes ml ret n0 kc ks Q h k n pc' ls (.int (a &&& b) :: st)) : Go wd K₀ l Z R y bytes ml ret n0 kc ks Q h k n pc ls (.int b :: .int a :: st) := by
  obtain ⟨hd, rfl⟩ := D
  exact go_pure G (fun C X t => XS.iand X.here C.1 (g := mkF _ pc ls.toArray (.int b :: .int a :: st)) rfl (hb C.2.1 hd) rfl)
theorem go_ior {a : Int32} {b : Int32} (D : Dc bytes pc .ior 1 pc') (G : Go wd K₀ l Z R y bytes ml ret n0 kc ks Q h k n pc' ls (.int (a ||| b) :: st)) : Go wd K₀ l Z R y bytes ml ret n0 kc ks Q h k n pc ls (.int b :: .int a :: st) := by
  obtain ⟨hd, rfl⟩ := D
  exact go_pure G (fun C X t => XT.ior X.here C.1 (g := mkF _ pc ls.toArray (.int b :: .int a :: st)) rfl (hb C.2.1 hd) rfl)
theorem go_ixor {a : Int32} {b : Int32} (D : Dc bytes pc .ixor 1 pc') (G : Go wd K₀ l Z R y bytes ml ret n0 kc ks Q h k n pc' ls (.int (a ^^^ b) :: st)) : Go wd K₀ l Z R y bytes ml ret n0 kc ks Q h k n pc ls (.int b :: .int a :: st) := by
  obtain ⟨hd, rfl⟩ := D
  exact go_pure G (fun C X t => XT.ixor X.here C.1 (g := mkF _ pc ls.toArray (.int b :: .int a :: st)) rfl (hb C.2.1 hd) rfl)
theorem go_idiv {a : Int32} {b : Int32} (D : Dc bytes pc .idiv 1 pc') (hz : b ≠ 0) (G : Go wd K₀ l Z R y bytes ml ret n0 kc ks Q h k n pc' ls (.int (a / b) :: st)) : Go wd K₀ l Z R y bytes ml ret n0 kc ks Q h k n pc ls (.int b :: .int a :: st) := by
  obtain ⟨hd, rfl⟩ := D
  exact go_pure G (fun C X t => XS.idiv X.here C.1 (g := mkF _ pc ls.toArray (.int b :: .int a :: st)) rfl (hb C.2.1 hd) rfl hz)
theorem go_ladd {a : Int64} {b : Int64} (D : Dc bytes pc .ladd 1 pc') (G : Go wd K₀ l Z R y bytes ml ret n0 kc ks Q h k n pc' ls (.long (a + b) :: st)) : Go wd K₀ l Z R y bytes ml ret n0 kc ks Q h k n pc ls (.long b :: .long a :: st) := by
  obtain ⟨hd, rfl⟩ := D
  exact go_pure G (fun C X t => XT.ladd X.here C.1 (g := mkF _ pc ls.toArray (.long b :: .long a :: st)) rfl (hb C.2.1 hd) rfl)
theorem go_lsub {a : Int64} {b : Int64} (D : Dc bytes pc .lsub 1 pc') (G : Go wd K₀ l Z R y bytes ml ret n0 kc ks Q h k n pc' ls (.long (a - b) :: st)) : Go wd K₀ l Z R y bytes ml ret n0 kc ks Q h k n pc ls (.long b :: .long a :: st) := by
  obtain ⟨hd, rfl⟩ := D
  exact go_pure G (fun C X t => XT.lsub X.here C.1 (g := mkF _ pc ls.toArray (.long b :: .long a :: st)) rfl (hb C.2.1 hd) rfl)
theorem go_lmul {a : Int64} {b : Int64} (D : Dc bytes pc .lmul 1 pc') (G : Go wd K₀ l Z R y bytes ml ret n0 kc ks Q h k n pc' ls (.long (a * b) :: st)) : Go wd K₀ l Z R y bytes ml ret n0 kc ks Q h k n pc ls (.long b :: .long a :: st) := by
  obtain ⟨hd, rfl⟩ := D
  exact go_pure G (fun C X t => XT.lmul X.here C.1 (g := mkF _ pc ls.toArray (.long b :: .long a :: st)) rfl (hb C.2.1 hd) rfl)
theorem go_land {a : Int64} {b : Int64} (D : Dc bytes pc .land 1 pc') (G : Go wd K₀ l Z R y bytes ml ret n0 kc ks Q h k n pc' ls (.long (a &&& b) :: st)) : Go wd K₀ l Z R y bytes ml ret n0 kc ks Q h k n pc ls (.long b :: .long a :: st) := by
  obtain ⟨hd, rfl⟩ := D
  exact go_pure G (fun C X t => XT.land X.here C.1 (g := mkF _ pc ls.toArray (.long b :: .long a :: st)) rfl (hb C.2.1 hd) rfl)
theorem go_lor {a : Int64} {b : Int64} (D : Dc bytes pc .lor 1 pc') (G : Go wd K₀ l Z R y bytes ml ret n0 kc ks Q h k n pc' ls (.long (a ||| b) :: st)) : Go wd K₀ l Z R y bytes ml ret n0 kc ks Q h k n pc ls (.long b :: .long a :: st) := by
  obtain ⟨hd, rfl⟩ := D
  exact go_pure G (fun C X t => XT.lor X.here C.1 (g := mkF _ pc ls.toArray (.long b :: .long a :: st)) rfl (hb C.2.1 hd) rfl)
theorem go_lxor {a : Int64} {b : Int64} (D : Dc bytes pc .lxor 1 pc') (G : Go wd K₀ l Z R y bytes ml ret n0 kc ks Q h k n pc' ls (.long (a ^^^ b) :: st)) : Go wd K₀ l Z R y bytes ml ret n0 kc ks Q h k n pc ls (.long b :: .long a :: st) := by
  obtain ⟨hd, rfl⟩ := D
  exact go_pure G (fun C X t => XT.lxor X.here C.1 (g := mkF _ pc ls.toArray (.long b :: .long a :: st)) rfl (hb C.2.1 hd) rfl)
theorem go_ldiv {a : Int64} {b : Int64} (D : Dc bytes pc .ldiv 1 pc') (hz : b ≠ 0) (G : Go wd K₀ l Z R y bytes ml ret n0 kc ks Q h k n pc' ls (.long (a / b) :: st)) : Go wd K₀ l Z R y bytes ml ret n0 kc ks Q h k n pc ls (.long b :: .long a :: st) := by
  obtain ⟨hd, rfl⟩ := D
  exact go_pure G (fun C X t => XT.ldiv X.here C.1 (g := mkF _ pc ls.toArray (.long b :: .long a :: st)) rfl (hb C.2.1 hd) rfl hz)
theorem go_ishl {a : Int32} {b : Int32} (D : Dc bytes pc .ishl 1 pc') (G : Go wd K₀ l Z R y bytes ml ret n0 kc ks Q h k n pc' ls (.int (a <<< (b &&& 31)) :: st)) : Go wd K₀ l Z R y bytes ml ret n0 kc ks Q h k n pc ls (.int b :: .int a :: st) := by
  obtain ⟨hd, rfl⟩ := D
  exact go_pure G (fun C X t => XT.ishl X.here C.1 (g := mkF _ pc ls.toArray (.int b :: .int a :: st)) rfl (hb C.2.1 hd) rfl)
theorem go_ishr {a : Int32} {b : Int32} (D : Dc bytes pc .ishr 1 pc') (G : Go wd K₀ l Z R y bytes ml ret n0 kc ks Q h k n pc' ls (.int (a >>> (b &&& 31)) :: st)) : Go wd K₀ l Z R y bytes ml ret n0 kc ks Q h k n pc ls (.int b :: .int a :: st) := by
  obtain ⟨hd, rfl⟩ := D
  exact go_pure G (fun C X t => XT.ishr X.here C.1 (g := mkF _ pc ls.toArray (.int b :: .int a :: st)) rfl (hb C.2.1 hd) rfl)
theorem go_iushr {a : Int32} {b : Int32} (D : Dc bytes pc .iushr 1 pc') (G : Go wd K₀ l Z R y bytes ml ret n0 kc ks Q h k n pc' ls (.int (XT.ushr a b) :: st)) : Go wd K₀ l Z R y bytes ml ret n0 kc ks Q h k n pc ls (.int b :: .int a :: st) := by
  obtain ⟨hd, rfl⟩ := D
  exact go_pure G (fun C X t => XT.iushr X.here C.1 (g := mkF _ pc ls.toArray (.int b :: .int a :: st)) rfl (hb C.2.1 hd) rfl)
theorem go_lshl {a : Int64} {b : Int32} (D : Dc bytes pc .lshl 1 pc') (G : Go wd K₀ l Z R y bytes ml ret n0 kc ks Q h k n pc' ls (.long (a <<< (b.toInt64 &&& 63)) :: st)) : Go wd K₀ l Z R y bytes ml ret n0 kc ks Q h k n pc ls (.int b :: .long a :: st) := by
  obtain ⟨hd, rfl⟩ := D
  exact go_pure G (fun C X t => XT.lshl X.here C.1 (g := mkF _ pc ls.toArray (.int b :: .long a :: st)) rfl (hb C.2.1 hd) rfl)
theorem go_lshr {a : Int64} {b : Int32} (D : Dc bytes pc .lshr 1 pc') (G : Go wd K₀ l Z R y bytes ml ret n0 kc ks Q h k n pc' ls (.long (a >>> (b.toInt64 &&& 63)) :: st)) : Go wd K₀ l Z R y bytes ml ret n0 kc ks Q h k n pc ls (.int b :: .long a :: st) := by
  obtain ⟨hd, rfl⟩ := D
  exact go_pure G (fun C X t => XT.lshr X.here C.1 (g := mkF _ pc ls.toArray (.int b :: .long a :: st)) rfl (hb C.2.1 hd) rfl)
theorem go_lushr {a : Int64} {b : Int32} (D : Dc bytes pc .lushr 1 pc') (G : Go wd K₀ l Z R y bytes ml ret n0 kc ks Q h k n pc' ls (.long (XT.ushrL a b) :: st)) : Go wd K₀ l Z R y bytes ml ret n0 kc ks Q h k n pc ls (.int b :: .long a :: st) := by
  obtain ⟨hd, rfl⟩ := D
  exact go_pure G (fun C X t => XT.lushr X.here C.1 (g := mkF _ pc ls.toArray (.int b :: .long a :: st)) rfl (hb C.2.1 hd) rfl)
theorem go_lcmp {a : Int64} {b : Int64} (D : Dc bytes pc .lcmp 1 pc') (G : Go wd K₀ l Z R y bytes ml ret n0 kc ks Q h k n pc' ls (.int (XT.cmpL a b) :: st)) : Go wd K₀ l Z R y bytes ml ret n0 kc ks Q h k n pc ls (.long b :: .long a :: st) := by
  obtain ⟨hd, rfl⟩ := D
  exact go_pure G (fun C X t => XT.lcmp X.here C.1 (g := mkF _ pc ls.toArray (.long b :: .long a :: st)) rfl (hb C.2.1 hd) rfl)
theorem go_irem {a b : Int32} (D : Dc bytes pc .irem 1 pc') (hz : b ≠ 0) (G : Go wd K₀ l Z R y bytes ml ret n0 kc ks Q h k n pc' ls (.int (a % b) :: st)) : Go wd K₀ l Z R y bytes ml ret n0 kc ks Q h k n pc ls (.int b :: .int a :: st) := by
  obtain ⟨hd, rfl⟩ := D
  exact go_pure G (fun C X t hr => iremM X C.1 (g := mkF _ pc ls.toArray (.int b :: .int a :: st)) rfl (hb C.2.1 hd) rfl hz hr)
theorem go_lrem {a b : Int64} (D : Dc bytes pc .lrem 1 pc') (hz : b ≠ 0) (G : Go wd K₀ l Z R y bytes ml ret n0 kc ks Q h k n pc' ls (.long (a % b) :: st)) : Go wd K₀ l Z R y bytes ml ret n0 kc ks Q h k n pc ls (.long b :: .long a :: st) := by
  obtain ⟨hd, rfl⟩ := D
  rw [← lrem64] at G
  exact go_pure G (fun C X t => XT.lrem X.here C.1 (g := mkF _ pc ls.toArray (.long b :: .long a :: st)) rfl (hb C.2.1 hd) rfl hz)
theorem go_ineg {a : Int32} (D : Dc bytes pc .ineg 1 pc') (G : Go wd K₀ l Z R y bytes ml ret n0 kc ks Q h k n pc' ls (.int (-a) :: st)) : Go wd K₀ l Z R y bytes ml ret n0 kc ks Q h k n pc ls (.int a :: st) := by
  obtain ⟨hd, rfl⟩ := D
  exact go_pure G (fun C X t => XS.ineg X.here C.1 (g := mkF _ pc ls.toArray (.int a :: st)) rfl (hb C.2.1 hd) rfl)
theorem go_lneg {a : Int64} (D : Dc bytes pc .lneg 1 pc') (G : Go wd K₀ l Z R y bytes ml ret n0 kc ks Q h k n pc' ls (.long (-a) :: st)) : Go wd K₀ l Z R y bytes ml ret n0 kc ks Q h k n pc ls (.long a :: st) := by
  obtain ⟨hd, rfl⟩ := D
  exact go_pure G (fun C X t => XT.lneg X.here C.1 (g := mkF _ pc ls.toArray (.long a :: st)) rfl (hb C.2.1 hd) rfl)
theorem go_i2l {a : Int32} (D : Dc bytes pc .i2l 1 pc') (G : Go wd K₀ l Z R y bytes ml ret n0 kc ks Q h k n pc' ls (.long a.toInt64 :: st)) : Go wd K₀ l Z R y bytes ml ret n0 kc ks Q h k n pc ls (.int a :: st) := by
  obtain ⟨hd, rfl⟩ := D
  exact go_pure G (fun C X t => XT.i2l X.here C.1 (g := mkF _ pc ls.toArray (.int a :: st)) rfl (hb C.2.1 hd) rfl)
theorem go_l2i {a : Int64} (D : Dc bytes pc .l2i 1 pc') (G : Go wd K₀ l Z R y bytes ml ret n0 kc ks Q h k n pc' ls (.int a.toInt32 :: st)) : Go wd K₀ l Z R y bytes ml ret n0 kc ks Q h k n pc ls (.long a :: st) := by
  obtain ⟨hd, rfl⟩ := D
  exact go_pure G (fun C X t => XT.l2i X.here C.1 (g := mkF _ pc ls.toArray (.long a :: st)) rfl (hb C.2.1 hd) rfl)
theorem go_i2b {a : Int32} (D : Dc bytes pc .i2b 1 pc') (G : Go wd K₀ l Z R y bytes ml ret n0 kc ks Q h k n pc' ls (.int a.toInt8.toInt32 :: st)) : Go wd K₀ l Z R y bytes ml ret n0 kc ks Q h k n pc ls (.int a :: st) := by
  obtain ⟨hd, rfl⟩ := D
  exact go_pure G (fun C X t => XT.i2b X.here C.1 (g := mkF _ pc ls.toArray (.int a :: st)) rfl (hb C.2.1 hd) rfl)
theorem go_i2s {a : Int32} (D : Dc bytes pc .i2s 1 pc') (G : Go wd K₀ l Z R y bytes ml ret n0 kc ks Q h k n pc' ls (.int a.toInt16.toInt32 :: st)) : Go wd K₀ l Z R y bytes ml ret n0 kc ks Q h k n pc ls (.int a :: st) := by
  obtain ⟨hd, rfl⟩ := D
  exact go_pure G (fun C X t => XT.i2s X.here C.1 (g := mkF _ pc ls.toArray (.int a :: st)) rfl (hb C.2.1 hd) rfl)
theorem go_i2c {a : Int32} (D : Dc bytes pc .i2c 1 pc') (G : Go wd K₀ l Z R y bytes ml ret n0 kc ks Q h k n pc' ls (.int a.toUInt32.toUInt16.toUInt32.toInt32 :: st)) : Go wd K₀ l Z R y bytes ml ret n0 kc ks Q h k n pc ls (.int a :: st) := by
  obtain ⟨hd, rfl⟩ := D
  exact go_pure G (fun C X t => XT.i2c X.here C.1 (g := mkF _ pc ls.toArray (.int a :: st)) rfl (hb C.2.1 hd) rfl)
theorem go_dup {v : Value} (D : Dc bytes pc .dup 1 pc') (hv : v.category = 1) (G : Go wd K₀ l Z R y bytes ml ret n0 kc ks Q h k n pc' ls (v :: v :: st)) : Go wd K₀ l Z R y bytes ml ret n0 kc ks Q h k n pc ls (v :: st) := by
  obtain ⟨hd, rfl⟩ := D
  exact go_pure G (fun C X t => XS.dup X.here C.1 (g := mkF _ pc ls.toArray (v :: st)) rfl (hb C.2.1 hd) rfl hv)
theorem go_pop {v : Value} (D : Dc bytes pc .pop 1 pc') (hv : v.category = 1) (G : Go wd K₀ l Z R y bytes ml ret n0 kc ks Q h k n pc' ls st) : Go wd K₀ l Z R y bytes ml ret n0 kc ks Q h k n pc ls (v :: st) := by
  obtain ⟨hd, rfl⟩ := D
  exact go_pure G (fun C X t => XT.pop X.here C.1 (g := mkF _ pc ls.toArray (v :: st)) rfl (hb C.2.1 hd) rfl hv)
theorem go_dupx1 {v w : Value} (D : Dc bytes pc .dup_x1 1 pc') (hv : v.category = 1) (hw : w.category = 1) (G : Go wd K₀ l Z R y bytes ml ret n0 kc ks Q h k n pc' ls (v :: w :: v :: st)) : Go wd K₀ l Z R y bytes ml ret n0 kc ks Q h k n pc ls (v :: w :: st) := by
  obtain ⟨hd, rfl⟩ := D
  exact go_pure G (fun C X t => XT.dupX1 X.here C.1 (g := mkF _ pc ls.toArray (v :: w :: st)) rfl (hb C.2.1 hd) rfl hv hw)
theorem go_dup2 {v w : Value} (D : Dc bytes pc .dup2 1 pc') (hv : v.category = 1) (hw : w.category = 1) (G : Go wd K₀ l Z R y bytes ml ret n0 kc ks Q h k n pc' ls (v :: w :: v :: w :: st)) : Go wd K₀ l Z R y bytes ml ret n0 kc ks Q h k n pc ls (v :: w :: st) := by
  obtain ⟨hd, rfl⟩ := D
  exact go_pure G (fun C X t => XT.dup2 X.here C.1 (g := mkF _ pc ls.toArray (v :: w :: st)) rfl (hb C.2.1 hd) rfl hv hw)
theorem go_dup2L {v : Int64} (D : Dc bytes pc .dup2 1 pc') (G : Go wd K₀ l Z R y bytes ml ret n0 kc ks Q h k n pc' ls (.long v :: .long v :: st)) : Go wd K₀ l Z R y bytes ml ret n0 kc ks Q h k n pc ls (.long v :: st) := by
  obtain ⟨hd, rfl⟩ := D
  exact go_pure G (fun C X t => XT.dup2L X.here C.1 (g := mkF _ pc ls.toArray (.long v :: st)) rfl (hb C.2.1 hd) rfl)
theorem go_goto (D : Db bytes pc .goto pc' tg) (G : Go wd K₀ l Z R y bytes ml ret n0 kc ks Q h k n tg ls st) : Go wd K₀ l Z R y bytes ml ret n0 kc ks Q h k n pc ls st := by
  obtain ⟨o, hd, rfl, ho, hp⟩ := D
  exact go_pure G (fun C X t => XS.goto X.here C.1 (g := mkF _ pc ls.toArray st) rfl (pc0 := pc) rfl (hb C.2.1 hd) ho hp)
theorem go_icmp_eq {a b : Int32} (D : Db bytes pc (.if_icmp .eq) pc' tg) (G1 : a = b → Go wd K₀ l Z R y bytes ml ret n0 kc ks Q h k n tg ls st) (G2 : ¬ a = b → Go wd K₀ l Z R y bytes ml ret n0 kc ks Q h k n pc' ls st) : Go wd K₀ l Z R y bytes ml ret n0 kc ks Q h k n pc ls (.int b :: .int a :: st) := by
  obtain ⟨o, hd, rfl, ho, hp⟩ := D
  by_cases q : a = b
  · exact go_pure (G1 q) (fun C X t => XS.icmpYes X.here C.1 (g := mkF _ pc ls.toArray (.int b :: .int a :: st)) rfl (pc0 := pc) rfl (hb C.2.1 hd) rfl (XT.ii_eq_t q) ho hp)
  · exact go_pure (G2 q) (fun C X t => XS.icmpNo X.here C.1 (g := mkF _ pc ls.toArray (.int b :: .int a :: st)) rfl (hb C.2.1 hd) rfl (XT.ii_eq_f q))
theorem go_if_eq {a : Int32} (D : Db bytes pc (.ifCond .eq) pc' tg) (G1 : a = 0 → Go wd K₀ l Z R y bytes ml ret n0 kc ks Q h k n tg ls st) (G2 : ¬ a = 0 → Go wd K₀ l Z R y bytes ml ret n0 kc ks Q h k n pc' ls st) : Go wd K₀ l Z R y bytes ml ret n0 kc ks Q h k n pc ls (.int a :: st) := by
  obtain ⟨o, hd, rfl, ho, hp⟩ := D
  by_cases q : a = 0
  · exact go_pure (G1 q) (fun C X t => XS.ifYes X.here C.1 (g := mkF _ pc ls.toArray (.int a :: st)) rfl (pc0 := pc) rfl (hb C.2.1 hd) rfl (XT.i0_eq_t q) ho hp)
  · exact go_pure (G2 q) (fun C X t => XS.ifNo X.here C.1 (g := mkF _ pc ls.toArray (.int a :: st)) rfl (hb C.2.1 hd) rfl (XT.i0_eq_f q))
theorem go_lc_eq {a b : Int64} (D : Db bytes pc (.ifCond .eq) pc' tg) (G1 : a = b → Go wd K₀ l Z R y bytes ml ret n0 kc ks Q h k n tg ls st) (G2 : ¬ a = b → Go wd K₀ l Z R y bytes ml ret n0 kc ks Q h k n pc' ls st) : Go wd K₀ l Z R y bytes ml ret n0 kc ks Q h k n pc ls (.int (XT.cmpL a b) :: st) := by
  obtain ⟨o, hd, rfl, ho, hp⟩ := D
  by_cases q : a = b
  · exact go_pure (G1 q) (fun C X t => XS.ifYes X.here C.1 (g := mkF _ pc ls.toArray (.int (XT.cmpL a b) :: st)) rfl (pc0 := pc) rfl (hb C.2.1 hd) rfl (XT.ll_eq_t q) ho hp)
  · exact go_pure (G2 q) (fun C X t => XS.ifNo X.here C.1 (g := mkF _ pc ls.toArray (.int (XT.cmpL a b) :: st)) rfl (hb C.2.1 hd) rfl (XT.ll_eq_f q))
theorem go_icmp_ne {a b : Int32} (D : Db bytes pc (.if_icmp .ne) pc' tg) (G1 : ¬ a = b → Go wd K₀ l Z R y bytes ml ret n0 kc ks Q h k n tg ls st) (G2 : a = b → Go wd K₀ l Z R y bytes ml ret n0 kc ks Q h k n pc' ls st) : Go wd K₀ l Z R y bytes ml ret n0 kc ks Q h k n pc ls (.int b :: .int a :: st) := by
  obtain ⟨o, hd, rfl, ho, hp⟩ := D
  by_cases q : a = b
  · exact go_pure (G2 q) (fun C X t => XS.icmpNo X.here C.1 (g := mkF _ pc ls.toArray (.int b :: .int a :: st)) rfl (hb C.2.1 hd) rfl (XT.ii_ne_f q))
  · exact go_pure (G1 q) (fun C X t => XS.icmpYes X.here C.1 (g := mkF _ pc ls.toArray (.int b :: .int a :: st)) rfl (pc0 := pc) rfl (hb C.2.1 hd) rfl (XT.ii_ne_t q) ho hp)
theorem go_if_ne {a : Int32} (D : Db bytes pc (.ifCond .ne) pc' tg) (G1 : ¬ a = 0 → Go wd K₀ l Z R y bytes ml ret n0 kc ks Q h k n tg ls st) (G2 : a = 0 → Go wd K₀ l Z R y bytes ml ret n0 kc ks Q h k n pc' ls st) : Go wd K₀ l Z R y bytes ml ret n0 kc ks Q h k n pc ls (.int a :: st) := by
  obtain ⟨o, hd, rfl, ho, hp⟩ := D
  by_cases q : a = 0
  · exact go_pure (G2 q) (fun C X t => XS.ifNo X.here C.1 (g := mkF _ pc ls.toArray (.int a :: st)) rfl (hb C.2.1 hd) rfl (XT.i0_ne_f q))
  · exact go_pure (G1 q) (fun C X t => XS.ifYes X.here C.1 (g := mkF _ pc ls.toArray (.int a :: st)) rfl (pc0 := pc) rfl (hb C.2.1 hd) rfl (XT.i0_ne_t q) ho hp)
theorem go_lc_ne {a b : Int64} (D : Db bytes pc (.ifCond .ne) pc' tg) (G1 : ¬ a = b → Go wd K₀ l Z R y bytes ml ret n0 kc ks Q h k n tg ls st) (G2 : a = b → Go wd K₀ l Z R y bytes ml ret n0 kc ks Q h k n pc' ls st) : Go wd K₀ l Z R y bytes ml ret n0 kc ks Q h k n pc ls (.int (XT.cmpL a b) :: st) := by
  obtain ⟨o, hd, rfl, ho, hp⟩ := D
  by_cases q : a = b
  · exact go_pure (G2 q) (fun C X t => XS.ifNo X.here C.1 (g := mkF _ pc ls.toArray (.int (XT.cmpL a b) :: st)) rfl (hb C.2.1 hd) rfl (XT.ll_ne_f q))
  · exact go_pure (G1 q) (fun C X t => XS.ifYes X.here C.1 (g := mkF _ pc ls.toArray (.int (XT.cmpL a b) :: st)) rfl (pc0 := pc) rfl (hb C.2.1 hd) rfl (XT.ll_ne_t q) ho hp)
theorem go_icmp_lt {a b : Int32} (D : Db bytes pc (.if_icmp .lt) pc' tg) (G1 : a < b → Go wd K₀ l Z R y bytes ml ret n0 kc ks Q h k n tg ls st) (G2 : ¬ a < b → Go wd K₀ l Z R y bytes ml ret n0 kc ks Q h k n pc' ls st) : Go wd K₀ l Z R y bytes ml ret n0 kc ks Q h k n pc ls (.int b :: .int a :: st) := by
  obtain ⟨o, hd, rfl, ho, hp⟩ := D
  by_cases q : a < b
  · exact go_pure (G1 q) (fun C X t => XS.icmpYes X.here C.1 (g := mkF _ pc ls.toArray (.int b :: .int a :: st)) rfl (pc0 := pc) rfl (hb C.2.1 hd) rfl (XT.ii_lt_t q) ho hp)
  · exact go_pure (G2 q) (fun C X t => XS.icmpNo X.here C.1 (g := mkF _ pc ls.toArray (.int b :: .int a :: st)) rfl (hb C.2.1 hd) rfl (XT.ii_lt_f q))
theorem go_if_lt {a : Int32} (D : Db bytes pc (.ifCond .lt) pc' tg) (G1 : a < 0 → Go wd K₀ l Z R y bytes ml ret n0 kc ks Q h k n tg ls st) (G2 : ¬ a < 0 → Go wd K₀ l Z R y bytes ml ret n0 kc ks Q h k n pc' ls st) : Go wd K₀ l Z R y bytes ml ret n0 kc ks Q h k n pc ls (.int a :: st) := by
  obtain ⟨o, hd, rfl, ho, hp⟩ := D
  by_cases q : a < 0
  · exact go_pure (G1 q) (fun C X t => XS.ifYes X.here C.1 (g := mkF _ pc ls.toArray (.int a :: st)) rfl (pc0 := pc) rfl (hb C.2.1 hd) rfl (XT.i0_lt_t q) ho hp)
  · exact go_pure (G2 q) (fun C X t => XS.ifNo X.here C.1 (g := mkF _ pc ls.toArray (.int a :: st)) rfl (hb C.2.1 hd) rfl (XT.i0_lt_f q))
theorem go_lc_lt {a b : Int64} (D : Db bytes pc (.ifCond .lt) pc' tg) (G1 : a < b → Go wd K₀ l Z R y bytes ml ret n0 kc ks Q h k n tg ls st) (G2 : ¬ a < b → Go wd K₀ l Z R y bytes ml ret n0 kc ks Q h k n pc' ls st) : Go wd K₀ l Z R y bytes ml ret n0 kc ks Q h k n pc ls (.int (XT.cmpL a b) :: st) := by
  obtain ⟨o, hd, rfl, ho, hp⟩ := D
  by_cases q : a < b
  · exact go_pure (G1 q) (fun C X t => XS.ifYes X.here C.1 (g := mkF _ pc ls.toArray (.int (XT.cmpL a b) :: st)) rfl (pc0 := pc) rfl (hb C.2.1 hd) rfl (XT.ll_lt_t q) ho hp)
  · exact go_pure (G2 q) (fun C X t => XS.ifNo X.here C.1 (g := mkF _ pc ls.toArray (.int (XT.cmpL a b) :: st)) rfl (hb C.2.1 hd) rfl (XT.ll_lt_f q))
theorem go_icmp_ge {a b : Int32} (D : Db bytes pc (.if_icmp .ge) pc' tg) (G1 : ¬ a < b → Go wd K₀ l Z R y bytes ml ret n0 kc ks Q h k n tg ls st) (G2 : a < b → Go wd K₀ l Z R y bytes ml ret n0 kc ks Q h k n pc' ls st) : Go wd K₀ l Z R y bytes ml ret n0 kc ks Q h k n pc ls (.int b :: .int a :: st) := by
  obtain ⟨o, hd, rfl, ho, hp⟩ := D
  by_cases q : a < b
  · exact go_pure (G2 q) (fun C X t => XS.icmpNo X.here C.1 (g := mkF _ pc ls.toArray (.int b :: .int a :: st)) rfl (hb C.2.1 hd) rfl (XT.ii_ge_f q))
  · exact go_pure (G1 q) (fun C X t => XS.icmpYes X.here C.1 (g := mkF _ pc ls.toArray (.int b :: .int a :: st)) rfl (pc0 := pc) rfl (hb C.2.1 hd) rfl (XT.ii_ge_t q) ho hp)
theorem go_if_ge {a : Int32} (D : Db bytes pc (.ifCond .ge) pc' tg) (G1 : ¬ a < 0 → Go wd K₀ l Z R y bytes ml ret n0 kc ks Q h k n tg ls st) (G2 : a < 0 → Go wd K₀ l Z R y bytes ml ret n0 kc ks Q h k n pc' ls st) : Go wd K₀ l Z R y bytes ml ret n0 kc ks Q h k n pc ls (.int a :: st) := by
  obtain ⟨o, hd, rfl, ho, hp⟩ := D
  by_cases q : a < 0
  · exact go_pure (G2 q) (fun C X t => XS.ifNo X.here C.1 (g := mkF _ pc ls.toArray (.int a :: st)) rfl (hb C.2.1 hd) rfl (XT.i0_ge_f q))
  · exact go_pure (G1 q) (fun C X t => XS.ifYes X.here C.1 (g := mkF _ pc ls.toArray (.int a :: st)) rfl (pc0 := pc) rfl (hb C.2.1 hd) rfl (XT.i0_ge_t q) ho hp)
theorem go_lc_ge {a b : Int64} (D : Db bytes pc (.ifCond .ge) pc' tg) (G1 : ¬ a < b → Go wd K₀ l Z R y bytes ml ret n0 kc ks Q h k n tg ls st) (G2 : a < b → Go wd K₀ l Z R y bytes ml ret n0 kc ks Q h k n pc' ls st) : Go wd K₀ l Z R y bytes ml ret n0 kc ks Q h k n pc ls (.int (XT.cmpL a b) :: st) := by
  obtain ⟨o, hd, rfl, ho, hp⟩ := D
  by_cases q : a < b
  · exact go_pure (G2 q) (fun C X t => XS.ifNo X.here C.1 (g := mkF _ pc ls.toArray (.int (XT.cmpL a b) :: st)) rfl (hb C.2.1 hd) rfl (XT.ll_ge_f q))
  · exact go_pure (G1 q) (fun C X t => XS.ifYes X.here C.1 (g := mkF _ pc ls.toArray (.int (XT.cmpL a b) :: st)) rfl (pc0 := pc) rfl (hb C.2.1 hd) rfl (XT.ll_ge_t q) ho hp)
theorem go_icmp_gt {a b : Int32} (D : Db bytes pc (.if_icmp .gt) pc' tg) (G1 : b < a → Go wd K₀ l Z R y bytes ml ret n0 kc ks Q h k n tg ls st) (G2 : ¬ b < a → Go wd K₀ l Z R y bytes ml ret n0 kc ks Q h k n pc' ls st) : Go wd K₀ l Z R y bytes ml ret n0 kc ks Q h k n pc ls (.int b :: .int a :: st) := by
  obtain ⟨o, hd, rfl, ho, hp⟩ := D
  by_cases q : b < a
  · exact go_pure (G1 q) (fun C X t => XS.icmpYes X.here C.1 (g := mkF _ pc ls.toArray (.int b :: .int a :: st)) rfl (pc0 := pc) rfl (hb C.2.1 hd) rfl (XT.ii_gt_t q) ho hp)
  · exact go_pure (G2 q) (fun C X t => XS.icmpNo X.here C.1 (g := mkF _ pc ls.toArray (.int b :: .int a :: st)) rfl (hb C.2.1 hd) rfl (XT.ii_gt_f q))
theorem go_if_gt {a : Int32} (D : Db bytes pc (.ifCond .gt) pc' tg) (G1 : 0 < a → Go wd K₀ l Z R y bytes ml ret n0 kc ks Q h k n tg ls st) (G2 : ¬ 0 < a → Go wd K₀ l Z R y bytes ml ret n0 kc ks Q h k n pc' ls st) : Go wd K₀ l Z R y bytes ml ret n0 kc ks Q h k n pc ls (.int a :: st) := by
  obtain ⟨o, hd, rfl, ho, hp⟩ := D
  by_cases q : 0 < a
  · exact go_pure (G1 q) (fun C X t => XS.ifYes X.here C.1 (g := mkF _ pc ls.toArray (.int a :: st)) rfl (pc0 := pc) rfl (hb C.2.1 hd) rfl (XT.i0_gt_t q) ho hp)
  · exact go_pure (G2 q) (fun C X t => XS.ifNo X.here C.1 (g := mkF _ pc ls.toArray (.int a :: st)) rfl (hb C.2.1 hd) rfl (XT.i0_gt_f q))
theorem go_lc_gt {a b : Int64} (D : Db bytes pc (.ifCond .gt) pc' tg) (G1 : b < a → Go wd K₀ l Z R y bytes ml ret n0 kc ks Q h k n tg ls st) (G2 : ¬ b < a → Go wd K₀ l Z R y bytes ml ret n0 kc ks Q h k n pc' ls st) : Go wd K₀ l Z R y bytes ml ret n0 kc ks Q h k n pc ls (.int (XT.cmpL a b) :: st) := by
  obtain ⟨o, hd, rfl, ho, hp⟩ := D
  by_cases q : b < a
  · exact go_pure (G1 q) (fun C X t => XS.ifYes X.here C.1 (g := mkF _ pc ls.toArray (.int (XT.cmpL a b) :: st)) rfl (pc0 := pc) rfl (hb C.2.1 hd) rfl (XT.ll_gt_t q) ho hp)
  · exact go_pure (G2 q) (fun C X t => XS.ifNo X.here C.1 (g := mkF _ pc ls.toArray (.int (XT.cmpL a b) :: st)) rfl (hb C.2.1 hd) rfl (XT.ll_gt_f q))
theorem go_icmp_le {a b : Int32} (D : Db bytes pc (.if_icmp .le) pc' tg) (G1 : ¬ b < a → Go wd K₀ l Z R y bytes ml ret n0 kc ks Q h k n tg ls st) (G2 : b < a → Go wd K₀ l Z R y bytes ml ret n0 kc ks Q h k n pc' ls st) : Go wd K₀ l Z R y bytes ml ret n0 kc ks Q h k n pc ls (.int b :: .int a :: st) := by
  obtain ⟨o, hd, rfl, ho, hp⟩ := D
  by_cases q : b < a
  · exact go_pure (G2 q) (fun C X t => XS.icmpNo X.here C.1 (g := mkF _ pc ls.toArray (.int b :: .int a :: st)) rfl (hb C.2.1 hd) rfl (XT.ii_le_f q))
  · exact go_pure (G1 q) (fun C X t => XS.icmpYes X.here C.1 (g := mkF _ pc ls.toArray (.int b :: .int a :: st)) rfl (pc0 := pc) rfl (hb C.2.1 hd) rfl (XT.ii_le_t q) ho hp)
theorem go_if_le {a : Int32} (D : Db bytes pc (.ifCond .le) pc' tg) (G1 : ¬ 0 < a → Go wd K₀ l Z R y bytes ml ret n0 kc ks Q h k n tg ls st) (G2 : 0 < a → Go wd K₀ l Z R y bytes ml ret n0 kc ks Q h k n pc' ls st) : Go wd K₀ l Z R y bytes ml ret n0 kc ks Q h k n pc ls (.int a :: st) := by
  obtain ⟨o, hd, rfl, ho, hp⟩ := D
  by_cases q : 0 < a
  · exact go_pure (G2 q) (fun C X t => XS.ifNo X.here C.1 (g := mkF _ pc ls.toArray (.int a :: st)) rfl (hb C.2.1 hd) rfl (XT.i0_le_f q))
  · exact go_pure (G1 q) (fun C X t => XS.ifYes X.here C.1 (g := mkF _ pc ls.toArray (.int a :: st)) rfl (pc0 := pc) rfl (hb C.2.1 hd) rfl (XT.i0_le_t q) ho hp)
theorem go_lc_le {a b : Int64} (D : Db bytes pc (.ifCond .le) pc' tg) (G1 : ¬ b < a → Go wd K₀ l Z R y bytes ml ret n0 kc ks Q h k n tg ls st) (G2 : b < a → Go wd K₀ l Z R y bytes ml ret n0 kc ks Q h k n pc' ls st) : Go wd K₀ l Z R y bytes ml ret n0 kc ks Q h k n pc ls (.int (XT.cmpL a b) :: st) := by
  obtain ⟨o, hd, rfl, ho, hp⟩ := D
  by_cases q : b < a
  · exact go_pure (G2 q) (fun C X t => XS.ifNo X.here C.1 (g := mkF _ pc ls.toArray (.int (XT.cmpL a b) :: st)) rfl (hb C.2.1 hd) rfl (XT.ll_le_f q))
  · exact go_pure (G1 q) (fun C X t => XS.ifYes X.here C.1 (g := mkF _ pc ls.toArray (.int (XT.cmpL a b) :: st)) rfl (pc0 := pc) rfl (hb C.2.1 hd) rfl (XT.ll_le_t q) ho hp)
theorem go_acmp_eq {a b : Value} (D : Db bytes pc (.if_acmp .eq) pc' tg) (ha : a.isRef = true) (hb' : b.isRef = true) (G1 : a = b → Go wd K₀ l Z R y bytes ml ret n0 kc ks Q h k n tg ls st) (G2 : ¬ a = b → Go wd K₀ l Z R y bytes ml ret n0 kc ks Q h k n pc' ls st) : Go wd K₀ l Z R y bytes ml ret n0 kc ks Q h k n pc ls (b :: a :: st) := by
  obtain ⟨o, hd, rfl, ho, hp⟩ := D
  by_cases q : a = b
  · exact go_pure (G1 q) (fun C X t => XT.acmpYes X.here C.1 (g := mkF _ pc ls.toArray (b :: a :: st)) rfl (pc0 := pc) rfl (hb C.2.1 hd) rfl ha hb' (XT.aa_eq_t q) ho hp)
  · exact go_pure (G2 q) (fun C X t => XT.acmpNo X.here C.1 (g := mkF _ pc ls.toArray (b :: a :: st)) rfl (hb C.2.1 hd) rfl ha hb' (XT.aa_eq_f q))
theorem go_acmp_ne {a b : Value} (D : Db bytes pc (.if_acmp .ne) pc' tg) (ha : a.isRef = true) (hb' : b.isRef = true) (G1 : ¬ a = b → Go wd K₀ l Z R y bytes ml ret n0 kc ks Q h k n tg ls st) (G2 : a = b → Go wd K₀ l Z R y bytes ml ret n0 kc ks Q h k n pc' ls st) : Go wd K₀ l Z R y bytes ml ret n0 kc ks Q h k n pc ls (b :: a :: st) := by
  obtain ⟨o, hd, rfl, ho, hp⟩ := D
  by_cases q : a = b
  · exact go_pure (G2 q) (fun C X t => XT.acmpNo X.here C.1 (g := mkF _ pc ls.toArray (b :: a :: st)) rfl (hb C.2.1 hd) rfl ha hb' (XT.aa_ne_f q))
  · exact go_pure (G1 q) (fun C X t => XT.acmpYes X.here C.1 (g := mkF _ pc ls.toArray (b :: a :: st)) rfl (pc0 := pc) rfl (hb C.2.1 hd) rfl ha hb' (XT.aa_ne_t q) ho hp)
theorem go_ifnullT (D : Db bytes pc .ifnull pc' tg) (G : Go wd K₀ l Z R y bytes ml ret n0 kc ks Q h k n tg ls st) : Go wd K₀ l Z R y bytes ml ret n0 kc ks Q h k n pc ls (.null :: st) := by
  obtain ⟨o, hd, rfl, ho, hp⟩ := D
  exact go_pure G (fun C X t => XS.ifnullYes X.here C.1 (g := mkF _ pc ls.toArray (.null :: st)) rfl (pc0 := pc) rfl (hb C.2.1 hd) rfl ho hp)
theorem go_ifnullF {a : Addr} (D : Db bytes pc .ifnull pc' tg) (G : Go wd K₀ l Z R y bytes ml ret n0 kc ks Q h k n pc' ls st) : Go wd K₀ l Z R y bytes ml ret n0 kc ks Q h k n pc ls (.ref a :: st) := by
  obtain ⟨o, hd, rfl, ho, hp⟩ := D
  exact go_pure G (fun C X t => XS.ifnullNo X.here C.1 (g := mkF _ pc ls.toArray (.ref a :: st)) rfl (hb C.2.1 hd) rfl)
theorem go_nonnullT {a : Addr} (D : Db bytes pc .ifnonnull pc' tg) (G : Go wd K₀ l Z R y bytes ml ret n0 kc ks Q h k n tg ls st) : Go wd K₀ l Z R y bytes ml ret n0 kc ks Q h k n pc ls (.ref a :: st) := by
  obtain ⟨o, hd, rfl, ho, hp⟩ := D
  exact go_pure G (fun C X t => XT.ifnonnullYes X.here C.1 (g := mkF _ pc ls.toArray (.ref a :: st)) rfl (pc0 := pc) rfl (hb C.2.1 hd) rfl ho hp)
theorem go_nonnullF (D : Db bytes pc .ifnonnull pc' tg) (G : Go wd K₀ l Z R y bytes ml ret n0 kc ks Q h k n pc' ls st) : Go wd K₀ l Z R y bytes ml ret n0 kc ks Q h k n pc ls (.null :: st) := by
  obtain ⟨o, hd, rfl, ho, hp⟩ := D
  exact go_pure G (fun C X t => XT.ifnonnullNo X.here C.1 (g := mkF _ pc ls.toArray (.null :: st)) rfl (hb C.2.1 hd) rfl)
theorem go_nonnullV {v : Value} (D : Db bytes pc .ifnonnull pc' tg) (hv : v.isRef = true) (G1 : v ≠ .null → Go wd K₀ l Z R y bytes ml ret n0 kc ks Q h k n tg ls st) (G2 : v = .null → Go wd K₀ l Z R y bytes ml ret n0 kc ks Q h k n pc' ls st) : Go wd K₀ l Z R y bytes ml ret n0 kc ks Q h k n pc ls (v :: st) := by
  cases v with
  | null => exact go_nonnullF D (G2 rfl)
  | ref a => exact go_nonnullT D (G1 (fun q => nomatch q))
  | int _ => cases hv
  | long _ => cases hv
  | float _ => cases hv
  | double _ => cases hv
  | _ => cases hv
theorem go_ldcI {v : Int32} {idx : Nat} (D : Dc bytes pc (.ldc idx) 2 pc') (w : (Cond.constant y.cls idx v).before a0 Z = true) (G : Go wd K₀ l Z R y bytes ml ret n0 kc ks Q h k n pc' ls (.int v :: st)) : Go wd K₀ l Z R y bytes ml ret n0 kc ks Q h k n pc ls st := by
  obtain ⟨hd, rfl⟩ := D
  exact go_pure G (fun C X t => X.ldcInt C.1 C.2.2.2.1 (mvT C.2.2.2.2.1 w) (g := mkF _ pc ls.toArray st) rfl (hb C.2.1 hd) t)
theorem go_ldcJ {v : Int64} {idx : Nat} (D : Dc bytes pc (.ldc2_w idx) 3 pc') (w : (Cond.constantLong y.cls idx v).before a0 Z = true) (G : Go wd K₀ l Z R y bytes ml ret n0 kc ks Q h k n pc' ls (.long v :: st)) : Go wd K₀ l Z R y bytes ml ret n0 kc ks Q h k n pc ls st := by
  obtain ⟨hd, rfl⟩ := D
  exact go_pure G (fun C X t => X.ldc2Long C.1 C.2.2.2.1 (mvT C.2.2.2.2.1 w) (g := mkF _ pc ls.toArray st) rfl (hb C.2.1 hd) t)
theorem go_iret {z : Int32} (hr : ret = some .int) (D : Dc bytes pc .ireturn 1 pc') (hk : k ≤ kc) (hn : n ≤ ks) (q : Q (some (.int z)) h) : Go wd K₀ l Z R y bytes ml ret n0 kc ks Q h k n pc ls (.int z :: st) := by
  intro p e s0 s m args below meth c T L Bs C X hh N
  obtain ⟨hd, rfl⟩ := D
  have hl := C.2.2.2.2.2.2.1
  obtain ⟨fs, hr', hrun, hended, hW, hsame⟩ := X.leave (v := some (.int z)) (fun q => by rw [C.2.2.2.2.2.1, hr] at q; cases q) hl
  exact ⟨_, _, retOut X C.1 (C.2.2.2.2.2.1.trans hr) rfl (Or.inl ⟨rfl, Or.inl rfl, z, rfl⟩) (hb C.2.1 hd) hr', hrun, hended, _, L, rfl, ⟨by show Q _ T.heap; rw [hh]; exact q, N⟩, endK Bs hh hW hsame hk hn⟩
theorem go_bret {z : Int32} (hr : ret = some .boolean) (D : Dc bytes pc .ireturn 1 pc') (hk : k ≤ kc) (hn : n ≤ ks) (hz : z = 0 ∨ z = 1) (q : Q (some (.int z)) h) : Go wd K₀ l Z R y bytes ml ret n0 kc ks Q h k n pc ls (.int z :: st) := by
  intro p e s0 s m args below meth c T L Bs C X hh N
  obtain ⟨hd, rfl⟩ := D
  have hl := C.2.2.2.2.2.2.1
  obtain ⟨fs, hr', hrun, hended, hW, hsame⟩ := X.leave (v := some (.int z)) (fun q => by rw [C.2.2.2.2.2.1, hr] at q; cases q) hl
  exact ⟨_, _, retOut X C.1 (C.2.2.2.2.2.1.trans hr) (by rcases hz with rfl | rfl <;> rfl) (Or.inl ⟨rfl, Or.inr (Or.inl rfl), z, rfl⟩) (hb C.2.1 hd) hr', hrun, hended, _, L, rfl, ⟨by show Q _ T.heap; rw [hh]; exact q, N⟩, endK Bs hh hW hsame hk hn⟩
theorem go_nret {z : Int32} {ty : FieldType} (hr : ret = some ty) (hty : ty = .byte ∨ ty = .char ∨ ty = .short) (D : Dc bytes pc .ireturn 1 pc') (hk : k ≤ kc) (hn : n ≤ ks) (hz : narrow ty (.int z) = .int z) (q : Q (some (.int z)) h) : Go wd K₀ l Z R y bytes ml ret n0 kc ks Q h k n pc ls (.int z :: st) := by
  intro p e s0 s m args below meth c T L Bs C X hh N
  obtain ⟨hd, rfl⟩ := D
  have hl := C.2.2.2.2.2.2.1
  obtain ⟨fs, hr', hrun, hended, hW, hsame⟩ := X.leave (v := some (.int z)) (fun q => by rw [C.2.2.2.2.2.1, hr] at q; cases q) hl
  exact ⟨_, _, retOut X C.1 (C.2.2.2.2.2.1.trans hr) hz (Or.inl ⟨rfl, Or.inr (Or.inr hty), z, rfl⟩) (hb C.2.1 hd) hr', hrun, hended, _, L, rfl, ⟨by show Q _ T.heap; rw [hh]; exact q, N⟩, endK Bs hh hW hsame hk hn⟩
theorem go_lret {z : Int64} (hr : ret = some .long) (D : Dc bytes pc .lreturn 1 pc') (hk : k ≤ kc) (hn : n ≤ ks) (q : Q (some (.long z)) h) : Go wd K₀ l Z R y bytes ml ret n0 kc ks Q h k n pc ls (.long z :: st) := by
  intro p e s0 s m args below meth c T L Bs C X hh N
  obtain ⟨hd, rfl⟩ := D
  have hl := C.2.2.2.2.2.2.1
  obtain ⟨fs, hr', hrun, hended, hW, hsame⟩ := X.leave (v := some (.long z)) (fun q => by rw [C.2.2.2.2.2.1, hr] at q; cases q) hl
  exact ⟨_, _, retOut X C.1 (C.2.2.2.2.2.1.trans hr) rfl (Or.inr (Or.inl ⟨rfl, rfl, z, rfl⟩)) (hb C.2.1 hd) hr', hrun, hended, _, L, rfl, ⟨by show Q _ T.heap; rw [hh]; exact q, N⟩, endK Bs hh hW hsame hk hn⟩
theorem narrow_ref {t : FieldType} {w : Value} (ht : t.isReference = true) (hw : w.isRef = true) : narrow t w = w := by
  cases t <;> cases w <;> first | rfl | (simp [FieldType.isReference] at ht; done) | (simp [Value.isRef] at hw; done)
theorem go_aret {w : Value} {t : FieldType} (hr : ret = some t) (ht : t.isReference = true) (hw : w.isRef = true) (D : Dc bytes pc .areturn 1 pc') (hk : k ≤ kc) (hn : n ≤ ks) (q : Q (some w) h) : Go wd K₀ l Z R y bytes ml ret n0 kc ks Q h k n pc ls (w :: st) := by
  intro p e s0 s m args below meth c T L Bs C X hh N
  obtain ⟨hd, rfl⟩ := D
  have hl := C.2.2.2.2.2.2.1
  obtain ⟨fs, hr', hrun, hended, hW, hsame⟩ := X.leave (v := some w) (fun q => by rw [C.2.2.2.2.2.1, hr] at q; cases q) hl
  exact ⟨_, _, retOut X C.1 (C.2.2.2.2.2.1.trans hr) (narrow_ref ht hw) (Or.inr (Or.inr (Or.inr (Or.inr ⟨rfl, ht, hw⟩)))) (hb C.2.1 hd) hr', hrun, hended, _, L, rfl, ⟨by show Q _ T.heap; rw [hh]; exact q, N⟩, endK Bs hh hW hsame hk hn⟩
theorem go_ret (hr : ret = none) (D : Dc bytes pc .return_ 1 pc') (hk : k ≤ kc) (hn : n ≤ ks) (q : Q none h) : Go wd K₀ l Z R y bytes ml ret n0 kc ks Q h k n pc ls [] := by
  intro p e s0 s m args below meth c T L Bs C X hh N
  obtain ⟨hd, rfl⟩ := D
  have hl := C.2.2.2.2.2.2.1
  obtain ⟨fs, hr', hrun, hended, hW, hsame⟩ := X.leave (v := none) (fun _ => rfl) hl
  exact ⟨_, _, X.returnOut C.1 (C.2.2.2.2.2.1.trans hr) (hb C.2.1 hd) hr', hrun, hended, _, L, rfl, ⟨by show Q _ T.heap; rw [hh]; exact q, N⟩, endK Bs hh hW hsame hk hn⟩
theorem con_of {as' : Array Value} (hp : plainFor y = true) (he : Jvm.Sym.laidSlots as'.toList ++ List.replicate (ml - (Jvm.Sym.laidSlots as'.toList).length) .unset = ls) (G : Go wd KT l Z R y bytes ml ret n0 R.cells R.slots Q h 0 0 0 ls []) : Con wd l Z y bytes ml ret R as' h n0 Q := by
  intro ws
  refine MetFree.of_bodySF hp hisR ?_
  intro p e s m args below meth c s₁ Bd hml hP hK
  obtain ⟨rfl, hZ, hh⟩ := hP
  have X0 : Stand p l e R s m args below meth c s₁ [] 0 0 := Stand.of_body Bd
  have e0 : s₁.heap = h := by rw [← hh, Bd.state]; rfl
  obtain ⟨s₂, o, h1, h2, h3, v, L, e1, ⟨q1, q2⟩, q3⟩ := G p e s s m args below meth c s₁ [] (Base.start s hh) ⟨Bd.exec, Bd.bytes, hml, findClass_of_methodNamed Bd.named, hZ, Bd.returns, Bd.notSynchronized, (name_of_methodNamed Bd.named Bd.method).1, trivial⟩ X0 e0 (Fr.nil n0)
  exact ⟨s₂, o, (XT.entry (Ls := ls.toArray) (by simpa using he)).trans h1, h2, h3, v, L, e1, ⟨⟨q1, by rw [← hh]; exact q3.size⟩, q2⟩, q3⟩
theorem go_callS1 {y' : MethodName} {b' : ByteArray} {m' : Nat} {r' : Option FieldType} {rm : Room} {idx W : Nat} {argsL : List Value} {P : Value → Heap → Prop} (D : Dc bytes pc (.invokestatic idx) 3 pc') (hM : Con false l Z y' b' m' r' rm argsL.toArray h n0 (R1 P))
    (w1 : (Cond.methodLink y.cls idx y').before a0 Z = true) (w2 : (Cond.static y').before a0 Z = true) (w3 : (Cond.initialized y'.cls).before a0 Z = true) (w4 : (Cond.code y' b' m' r').before a0 Z = true) (hy : y'.cls ≠ "java/lang/invoke/MethodHandle" ∧ y'.cls ≠ "java/lang/invoke/VarHandle")
    (hlen : ∀ sig, parseMethodDescriptor y'.desc = some sig → argsL.length = sig.parameters.length) {st₀ : List Value} (hst : st₀ = argsL.reverse ++ st) (hW : (st.map fun v => v.category).sum = W) (hf : rm.frames + 1 ≤ R.frames) (hlo : W + (m' + 11) + rm.locals ≤ R.locals) (hk : k + rm.cells ≤ R.cells) (hn : n + rm.slots ≤ R.slots) (hls : ls.length = ml)
    (G : ∀ w h', P w h' → Go wd K₀ l Z R y bytes ml ret n0 kc ks Q h' (k + rm.cells) (n + rm.slots) pc' ls (w :: st)) : Go wd K₀ l Z R y bytes ml ret n0 kc ks Q h k n pc ls st₀ := by
  subst hst
  intro p e s0 s m args below meth c T L Bs C X hh N
  obtain ⟨hd, rfl⟩ := D
  have hZ := C.2.2.2.2.1
  obtain ⟨v, vm₁, ⟨B, Lb, kb, nb⟩, -, X', ⟨Lq, ⟨⟨hQ, hsz⟩, Ns⟩, e1, e2, e3⟩, st'⟩ := Jvm.LawKit.callS X C.1 (y := y') C.2.2.2.1 (mvT hZ w1) (mvT hZ w2) (mvT hZ w3) (mvT hZ w4) hy (backOf (W := W) (Q := fun v h' L => ((R1 P) v h' ∧ h.size ≤ h'.size) ∧ Fr n0 L) (hM []) hZ w4 w3 hf hlo) (g := mkF m pc ls.toArray (argsL.reverse ++ st)) rfl
    (by rw [C.2.2.1]; simpa using hls) (argsL := argsL) (rest := st) hlen rfl (by show 2 * 0 + _ ≤ W; rw [← hW]; omega) (hb C.2.1 hd) (fun _ _ => ⟨rfl, hh, hk, hn⟩)
  dsimp only [Pt.U, Pt.locs, Pt.cells, Pt.slots] at X' hQ hsz e1 e2 e3 st'
  subst e1 e2 e3
  obtain ⟨w, rfl, hP⟩ := hQ
  exact (G w B.heap hP p e s0 s m args below meth c B _ (Bs.mono hsz) C X' rfl (N.app Ns)).pre st'
theorem go_callV1 {y' : MethodName} {b' : ByteArray} {m' : Nat} {r' : Option FieldType} {rm : Room} {idx W : Nat} {argsL : List Value} {P : Value → Heap → Prop} {x' : MethodName} {K : String} {a : Addr} (D : Dc bytes pc (.invokevirtual idx) 3 pc') (hM : Con false l Z y' b' m' r' rm (.ref a :: argsL).toArray h n0 (R1 P)) (E : Exa Z h a K)
    (w1 : (Cond.methodLink y.cls idx x').before a0 Z = true) (w5 : (Cond.declares x').before a0 Z = true) (nf : ∀ s : State, Z.Warmed39 s.vm → NotFace s x') (w6 : (Cond.selects K x' y').before a0 Z = true) (w2 : (Cond.instanceMethod y').before a0 Z = true) (w3 : (Cond.initialized y'.cls).before a0 Z = true) (w4 : (Cond.code y' b' m' r').before a0 Z = true)
    (hy : x'.cls ≠ "java/lang/invoke/MethodHandle" ∧ x'.cls ≠ "java/lang/invoke/VarHandle") (hlen : ∀ sig, parseMethodDescriptor x'.desc = some sig → argsL.length = sig.parameters.length) {st₀ : List Value} (hst : st₀ = argsL.reverse ++ .ref a :: st) (hW : (st.map fun v => v.category).sum = W) (hf : rm.frames + 1 ≤ R.frames) (hlo : W + (m' + 11) + rm.locals ≤ R.locals) (hk : k + rm.cells ≤ R.cells) (hn : n + rm.slots ≤ R.slots) (hls : ls.length = ml)
    (G : ∀ w h', P w h' → Go wd K₀ l Z R y bytes ml ret n0 kc ks Q h' (k + rm.cells) (n + rm.slots) pc' ls (w :: st)) : Go wd K₀ l Z R y bytes ml ret n0 kc ks Q h k n pc ls st₀ := by
  subst hst
  intro p e s0 s m args below meth c T L Bs C X hh N
  obtain ⟨hd, rfl⟩ := D
  have hZ := C.2.2.2.2.1
  obtain ⟨cq, kq, qa, qb, qc⟩ := isOf (T := T) hZ hh E
  obtain ⟨v, vm₁, ⟨B, Lb, kb, nb⟩, -, X', ⟨Lq, ⟨⟨hQ, hsz⟩, Ns⟩, e1, e2, e3⟩, st'⟩ := X.virtualBack C.1 (y := x') (z := y') C.2.2.2.1 (mvT hZ w1) (mvT hZ w5) (nf s hZ) (mvT hZ w6) (mvT hZ w2) hy (backOf (W := W) (Q := fun v h' L => ((R1 P) v h' ∧ h.size ≤ h'.size) ∧ Fr n0 L) (hM []) hZ w4 w3 hf hlo) qa qc (g := mkF m pc ls.toArray (argsL.reverse ++ .ref a :: st)) rfl
    (by rw [C.2.2.1]; simpa using hls) (Steps.refl _) (argsL := argsL) (rest := st) hlen rfl (by show 2 * 0 + _ ≤ W; rw [← hW]; omega) (hb C.2.1 hd) (fun _ _ => ⟨rfl, hh, hk, hn⟩)
  dsimp only [Pt.U, Pt.locs, Pt.cells, Pt.slots] at X' hQ hsz e1 e2 e3 st'
  subst e1 e2 e3
  obtain ⟨w, rfl, hP⟩ := hQ
  exact (G w B.heap hP p e s0 s m args below meth c B _ (Bs.mono hsz) C X' rfl (N.app Ns)).pre (fun t q => st'.trans q)
theorem go_callP1 {y' : MethodName} {b' : ByteArray} {m' : Nat} {r' : Option FieldType} {rm : Room} {idx W : Nat} {argsL : List Value} {P : Value → Heap → Prop} {K : String} {a : Addr} (D : Dc bytes pc (.invokevirtual idx) 3 pc') (hM : Con false l Z y' b' m' r' rm (.ref a :: argsL).toArray h n0 (R1 P)) (E : Exa Z h a K)
    (w1 : (Cond.methodLink y.cls idx y').before a0 Z = true) (w2 : (Cond.instanceMethod y').before a0 Z = true) {kk : Nat} (wi : (Cond.instantiable y'.cls kk).before a0 Z = true) (w5 : (Cond.privateMethod y').before a0 Z = true) (w3 : (Cond.initialized y'.cls).before a0 Z = true) (w4 : (Cond.code y' b' m' r').before a0 Z = true) (hy : y'.cls ≠ "java/lang/invoke/MethodHandle" ∧ y'.cls ≠ "java/lang/invoke/VarHandle")
    (hlen : ∀ sig, parseMethodDescriptor y'.desc = some sig → argsL.length = sig.parameters.length) {st₀ : List Value} (hst : st₀ = argsL.reverse ++ .ref a :: st) (hW : (st.map fun v => v.category).sum = W) (hf : rm.frames + 1 ≤ R.frames) (hlo : W + (m' + 11) + rm.locals ≤ R.locals) (hk : k + rm.cells ≤ R.cells) (hn : n + rm.slots ≤ R.slots) (hls : ls.length = ml)
    (G : ∀ w h', P w h' → Go wd K₀ l Z R y bytes ml ret n0 kc ks Q h' (k + rm.cells) (n + rm.slots) pc' ls (w :: st)) : Go wd K₀ l Z R y bytes ml ret n0 kc ks Q h k n pc ls st₀ := by
  subst hst
  intro p e s0 s m args below meth c T L Bs C X hh N
  obtain ⟨hd, rfl⟩ := D
  have hZ := C.2.2.2.2.1
  obtain ⟨cq, q1, q2⟩ := E.cell
  have wi' : (Cond.instantiable y'.cls kk).before args s = true := mvT hZ wi
  obtain ⟨c2, k2, i1, i2, -, i4, -⟩ := Cond.instantiable_spec wi'
  have hpa : s.PrivateAt y' := Cond.privateMethod_at (mvP hZ w5 (args := #[]))
  have w6 : (Cond.selects y'.cls y' y').before args s = true := selects_self_of_private i1 i2 (Bool.or_eq_false_iff.mp i4).1 hpa (mvT hZ w2) hy
  obtain ⟨v, vm₁, ⟨B, Lb, kb, nb⟩, -, X', ⟨Lq, ⟨⟨hQ, hsz⟩, Ns⟩, e1, e2, e3⟩, st'⟩ := X.privateBack C.1 (y := y') C.2.2.2.1 (mvT hZ w1) (mvT hZ w2) w6 hpa (mvT hZ w4) hy (backOf (W := W) (Q := fun v h' L => ((R1 P) v h' ∧ h.size ≤ h'.size) ∧ Fr n0 L) (hM []) hZ w4 w3 hf hlo) (g := mkF m pc ls.toArray (argsL.reverse ++ .ref a :: st)) rfl
    (by rw [C.2.2.1]; simpa using hls) (Steps.refl _) (a := a) (by rw [hh]; exact q1) q2 (argsL := argsL) (rest := st) hlen rfl (by show 2 * 0 + _ ≤ W; rw [← hW]; omega) (hb C.2.1 hd) (fun _ _ => ⟨rfl, hh, hk, hn⟩)
  dsimp only [Pt.U, Pt.locs, Pt.cells, Pt.slots] at X' hQ hsz e1 e2 e3 st'
  subst e1 e2 e3
  obtain ⟨w, rfl, hP⟩ := hQ
  exact (G w B.heap hP p e s0 s m args below meth c B _ (Bs.mono hsz) C X' rfl (N.app Ns)).pre (fun t q => st'.trans q)
theorem go_callS0 {y' : MethodName} {b' : ByteArray} {m' : Nat} {r' : Option FieldType} {rm : Room} {idx W : Nat} {argsL : List Value} {P : Heap → Prop} (D : Dc bytes pc (.invokestatic idx) 3 pc') (hM : Con false l Z y' b' m' r' rm argsL.toArray h n0 (R0 P))
    (w1 : (Cond.methodLink y.cls idx y').before a0 Z = true) (w2 : (Cond.static y').before a0 Z = true) (w3 : (Cond.initialized y'.cls).before a0 Z = true) (w4 : (Cond.code y' b' m' r').before a0 Z = true) (hy : y'.cls ≠ "java/lang/invoke/MethodHandle" ∧ y'.cls ≠ "java/lang/invoke/VarHandle")
    (hlen : ∀ sig, parseMethodDescriptor y'.desc = some sig → argsL.length = sig.parameters.length) {st₀ : List Value} (hst : st₀ = argsL.reverse ++ st) (hW : (st.map fun v => v.category).sum = W) (hf : rm.frames + 1 ≤ R.frames) (hlo : W + (m' + 11) + rm.locals ≤ R.locals) (hk : k + rm.cells ≤ R.cells) (hn : n + rm.slots ≤ R.slots) (hls : ls.length = ml)
    (G : ∀ h', P h' → Go wd K₀ l Z R y bytes ml ret n0 kc ks Q h' (k + rm.cells) (n + rm.slots) pc' ls st) : Go wd K₀ l Z R y bytes ml ret n0 kc ks Q h k n pc ls st₀ := by
  subst hst
  intro p e s0 s m args below meth c T L Bs C X hh N
  obtain ⟨hd, rfl⟩ := D
  have hZ := C.2.2.2.2.1
  obtain ⟨v, vm₁, ⟨B, Lb, kb, nb⟩, -, X', ⟨Lq, ⟨⟨hQ, hsz⟩, Ns⟩, e1, e2, e3⟩, st'⟩ := Jvm.LawKit.callS X C.1 (y := y') C.2.2.2.1 (mvT hZ w1) (mvT hZ w2) (mvT hZ w3) (mvT hZ w4) hy (backOf (W := W) (Q := fun v h' L => ((R0 P) v h' ∧ h.size ≤ h'.size) ∧ Fr n0 L) (hM []) hZ w4 w3 hf hlo) (g := mkF m pc ls.toArray (argsL.reverse ++ st)) rfl
    (by rw [C.2.2.1]; simpa using hls) (argsL := argsL) (rest := st) hlen rfl (by show 2 * 0 + _ ≤ W; rw [← hW]; omega) (hb C.2.1 hd) (fun _ _ => ⟨rfl, hh, hk, hn⟩)
  dsimp only [Pt.U, Pt.locs, Pt.cells, Pt.slots] at X' hQ hsz e1 e2 e3 st'
  subst e1 e2 e3
  obtain ⟨rfl, hP⟩ := hQ
  exact (G B.heap hP p e s0 s m args below meth c B _ (Bs.mono hsz) C X' rfl (N.app Ns)).pre st'
theorem go_callN0 {y' : MethodName} {b' : ByteArray} {m' : Nat} {r' : Option FieldType} {rm : Room} {idx W : Nat} {argsL : List Value} {P : Heap → Prop} {a : Addr} (D : Dc bytes pc (.invokespecial idx) 3 pc') (hi : y'.name = "<init>") (hr' : r' = none) (hM : Con false l Z y' b' m' r' rm (.ref a :: argsL).toArray h n0 (R0 P))
    (w1 : (Cond.methodLink y.cls idx y').before a0 Z = true) (w2 : (Cond.instanceMethod y').before a0 Z = true) (w3 : (Cond.initialized y'.cls).before a0 Z = true) (w4 : (Cond.code y' b' m' r').before a0 Z = true) (hy : y'.cls ≠ "java/lang/invoke/MethodHandle" ∧ y'.cls ≠ "java/lang/invoke/VarHandle")
    (hlen : ∀ sig, parseMethodDescriptor y'.desc = some sig → argsL.length = sig.parameters.length) {st₀ : List Value} (hst : st₀ = argsL.reverse ++ .ref a :: st) (hW : (st.map fun v => v.category).sum = W) (hf : rm.frames + 1 ≤ R.frames) (hlo : W + (m' + 11) + rm.locals ≤ R.locals) (hk : k + rm.cells ≤ R.cells) (hn : n + rm.slots ≤ R.slots) (hls : ls.length = ml)
    (G : ∀ h', P h' → Go wd K₀ l Z R y bytes ml ret n0 kc ks Q h' (k + rm.cells) (n + rm.slots) pc' ls st) : Go wd K₀ l Z R y bytes ml ret n0 kc ks Q h k n pc ls st₀ := by
  subst hst hr'
  intro p e s0 s m args below meth c T L Bs C X hh N
  obtain ⟨hd, rfl⟩ := D
  have hZ := C.2.2.2.2.1
  obtain ⟨v, vm₁, ⟨B, Lb, kb, nb⟩, -, X', ⟨Lq, ⟨⟨hQ, hsz⟩, Ns⟩, e1, e2, e3⟩, st'⟩ := X.specialBack C.1 (y := y') hi C.2.2.2.1 (mvT hZ w1) (mvT hZ w2) (mvT hZ w4) hy (backOf (W := W) (Q := fun v h' L => ((R0 P) v h' ∧ h.size ≤ h'.size) ∧ Fr n0 L) (hM []) hZ w4 w3 hf hlo) (g := mkF m pc ls.toArray (argsL.reverse ++ .ref a :: st)) rfl
    (by rw [C.2.2.1]; simpa using hls) (Steps.refl _) (a := a) (argsL := argsL) (rest := st) hlen rfl (by show 2 * 0 + _ ≤ W; rw [← hW]; omega) (hb C.2.1 hd) (fun _ _ => ⟨rfl, hh, hk, hn⟩)
  dsimp only [Pt.U, Pt.locs, Pt.cells, Pt.slots] at X' hQ hsz e1 e2 e3 st'
  subst e1 e2 e3
  obtain ⟨rfl, hP⟩ := hQ
  exact (G B.heap hP p e s0 s m args below meth c B _ (Bs.mono hsz) C X' rfl (N.app Ns)).pre (fun t q => st'.trans q)
theorem go_callV0 {y' : MethodName} {b' : ByteArray} {m' : Nat} {r' : Option FieldType} {rm : Room} {idx W : Nat} {argsL : List Value} {P : Heap → Prop} {x' : MethodName} {K : String} {a : Addr} (D : Dc bytes pc (.invokevirtual idx) 3 pc') (hM : Con false l Z y' b' m' r' rm (.ref a :: argsL).toArray h n0 (R0 P)) (E : Exa Z h a K)
    (w1 : (Cond.methodLink y.cls idx x').before a0 Z = true) (w5 : (Cond.declares x').before a0 Z = true) (nf : ∀ s : State, Z.Warmed39 s.vm → NotFace s x') (w6 : (Cond.selects K x' y').before a0 Z = true) (w2 : (Cond.instanceMethod y').before a0 Z = true) (w3 : (Cond.initialized y'.cls).before a0 Z = true) (w4 : (Cond.code y' b' m' r').before a0 Z = true)
    (hy : x'.cls ≠ "java/lang/invoke/MethodHandle" ∧ x'.cls ≠ "java/lang/invoke/VarHandle") (hlen : ∀ sig, parseMethodDescriptor x'.desc = some sig → argsL.length = sig.parameters.length) {st₀ : List Value} (hst : st₀ = argsL.reverse ++ .ref a :: st) (hW : (st.map fun v => v.category).sum = W) (hf : rm.frames + 1 ≤ R.frames) (hlo : W + (m' + 11) + rm.locals ≤ R.locals) (hk : k + rm.cells ≤ R.cells) (hn : n + rm.slots ≤ R.slots) (hls : ls.length = ml)
    (G : ∀ h', P h' → Go wd K₀ l Z R y bytes ml ret n0 kc ks Q h' (k + rm.cells) (n + rm.slots) pc' ls st) : Go wd K₀ l Z R y bytes ml ret n0 kc ks Q h k n pc ls st₀ := by
  subst hst
  intro p e s0 s m args below meth c T L Bs C X hh N
  obtain ⟨hd, rfl⟩ := D
  have hZ := C.2.2.2.2.1
  obtain ⟨cq, kq, qa, qb, qc⟩ := isOf (T := T) hZ hh E
  obtain ⟨v, vm₁, ⟨B, Lb, kb, nb⟩, -, X', ⟨Lq, ⟨⟨hQ, hsz⟩, Ns⟩, e1, e2, e3⟩, st'⟩ := X.virtualBack C.1 (y := x') (z := y') C.2.2.2.1 (mvT hZ w1) (mvT hZ w5) (nf s hZ) (mvT hZ w6) (mvT hZ w2) hy (backOf (W := W) (Q := fun v h' L => ((R0 P) v h' ∧ h.size ≤ h'.size) ∧ Fr n0 L) (hM []) hZ w4 w3 hf hlo) qa qc (g := mkF m pc ls.toArray (argsL.reverse ++ .ref a :: st)) rfl
    (by rw [C.2.2.1]; simpa using hls) (Steps.refl _) (argsL := argsL) (rest := st) hlen rfl (by show 2 * 0 + _ ≤ W; rw [← hW]; omega) (hb C.2.1 hd) (fun _ _ => ⟨rfl, hh, hk, hn⟩)
  dsimp only [Pt.U, Pt.locs, Pt.cells, Pt.slots] at X' hQ hsz e1 e2 e3 st'
  subst e1 e2 e3
  obtain ⟨rfl, hP⟩ := hQ
  exact (G B.heap hP p e s0 s m args below meth c B _ (Bs.mono hsz) C X' rfl (N.app Ns)).pre (fun t q => st'.trans q)
theorem go_callP0 {y' : MethodName} {b' : ByteArray} {m' : Nat} {r' : Option FieldType} {rm : Room} {idx W : Nat} {argsL : List Value} {P : Heap → Prop} {K : String} {a : Addr} (D : Dc bytes pc (.invokevirtual idx) 3 pc') (hM : Con false l Z y' b' m' r' rm (.ref a :: argsL).toArray h n0 (R0 P)) (E : Exa Z h a K)
    (w1 : (Cond.methodLink y.cls idx y').before a0 Z = true) (w2 : (Cond.instanceMethod y').before a0 Z = true) {kk : Nat} (wi : (Cond.instantiable y'.cls kk).before a0 Z = true) (w5 : (Cond.privateMethod y').before a0 Z = true) (w3 : (Cond.initialized y'.cls).before a0 Z = true) (w4 : (Cond.code y' b' m' r').before a0 Z = true) (hy : y'.cls ≠ "java/lang/invoke/MethodHandle" ∧ y'.cls ≠ "java/lang/invoke/VarHandle")
    (hlen : ∀ sig, parseMethodDescriptor y'.desc = some sig → argsL.length = sig.parameters.length) {st₀ : List Value} (hst : st₀ = argsL.reverse ++ .ref a :: st) (hW : (st.map fun v => v.category).sum = W) (hf : rm.frames + 1 ≤ R.frames) (hlo : W + (m' + 11) + rm.locals ≤ R.locals) (hk : k + rm.cells ≤ R.cells) (hn : n + rm.slots ≤ R.slots) (hls : ls.length = ml)
    (G : ∀ h', P h' → Go wd K₀ l Z R y bytes ml ret n0 kc ks Q h' (k + rm.cells) (n + rm.slots) pc' ls st) : Go wd K₀ l Z R y bytes ml ret n0 kc ks Q h k n pc ls st₀ := by
  subst hst
  intro p e s0 s m args below meth c T L Bs C X hh N
  obtain ⟨hd, rfl⟩ := D
  have hZ := C.2.2.2.2.1
  obtain ⟨cq, q1, q2⟩ := E.cell
  have wi' : (Cond.instantiable y'.cls kk).before args s = true := mvT hZ wi
  obtain ⟨c2, k2, i1, i2, -, i4, -⟩ := Cond.instantiable_spec wi'
  have hpa : s.PrivateAt y' := Cond.privateMethod_at (mvP hZ w5 (args := #[]))
  have w6 : (Cond.selects y'.cls y' y').before args s = true := selects_self_of_private i1 i2 (Bool.or_eq_false_iff.mp i4).1 hpa (mvT hZ w2) hy
  obtain ⟨v, vm₁, ⟨B, Lb, kb, nb⟩, -, X', ⟨Lq, ⟨⟨hQ, hsz⟩, Ns⟩, e1, e2, e3⟩, st'⟩ := X.privateBack C.1 (y := y') C.2.2.2.1 (mvT hZ w1) (mvT hZ w2) w6 hpa (mvT hZ w4) hy (backOf (W := W) (Q := fun v h' L => ((R0 P) v h' ∧ h.size ≤ h'.size) ∧ Fr n0 L) (hM []) hZ w4 w3 hf hlo) (g := mkF m pc ls.toArray (argsL.reverse ++ .ref a :: st)) rfl
    (by rw [C.2.2.1]; simpa using hls) (Steps.refl _) (a := a) (by rw [hh]; exact q1) q2 (argsL := argsL) (rest := st) hlen rfl (by show 2 * 0 + _ ≤ W; rw [← hW]; omega) (hb C.2.1 hd) (fun _ _ => ⟨rfl, hh, hk, hn⟩)
  dsimp only [Pt.U, Pt.locs, Pt.cells, Pt.slots] at X' hQ hsz e1 e2 e3 st'
  subst e1 e2 e3
  obtain ⟨rfl, hP⟩ := hQ
  exact (G B.heap hP p e s0 s m args below meth c B _ (Bs.mono hsz) C X' rfl (N.app Ns)).pre (fun t q => st'.trans q)
theorem Base.since {s0 s : State} {vm' : Vm} {h' : Heap} (B : Base true s0 s h) (q : s.Since vm' h'.size) (g : h.size ≤ h'.size) : Base true s0 (s.setVm vm') h' := by
  obtain ⟨vm0, k0, rfl, hS, hk⟩ := B
  exact ⟨vm', h'.size, rfl, hS.trans q (Nat.le_trans hk g), Nat.le_refl _⟩
theorem Ctx.since {p : Program} {s : State} {m : MethodId} {meth : Method} {c : Code} {vm' : Vm} {k' : Nat} (C : Ctx K₀ Z y bytes ml ret p s m meth c) (q : s.Since vm' k') : Ctx KT Z y bytes ml ret p (s.setVm vm') m meth c :=
  ⟨C.1, C.2.1, C.2.2.1, by rw [show (s.setVm vm').vm = vm' from rfl, q.1.alike.findClass]; exact C.2.2.2.1, State.Warmed39.trans C.2.2.2.2.1 q.1, C.2.2.2.2.2.1, C.2.2.2.2.2.2.1, C.2.2.2.2.2.2.2.1, trivial⟩
theorem go_ldcS {idx nn : Nat} {text : String} (D : Dc bytes pc (.ldc idx) 2 pc') (w : (Cond.stringLink y.cls idx text).before a0 Z = true) (wS : ∀ a ∈ Bundle.stringAtoms, a.before a0 Z = true) (hn : 4 * text.toList.length ≤ nn) (hbig : nn ≤ 536870912) (hc : k + 2 ≤ R.cells) (hl : n + (nn + 4) ≤ R.slots)
    (G : ∀ (a : Addr) h', Ext h h' → Go true KT l Z R y bytes ml ret n0 kc ks Q h' (k + 2) (n + (nn + 4)) pc' ls (.ref a :: st)) : Go true K₀ l Z R y bytes ml ret n0 kc ks Q h k n pc ls st := by
  intro p e s0 s m args below meth c T L Bs C X hh N
  obtain ⟨hd, rfl⟩ := D
  obtain ⟨vm0, k0, rfl, hS, hk⟩ := Bs
  obtain ⟨a, T', h', k1, X', e', E, hS', hk', hZ', hf', st'⟩ := ldcS X C.1 C.2.2.2.2.1 C.2.2.2.1 w wS hh hS hk (g := mkF m pc ls.toArray st) rfl (hb C.2.1 hd) hn hbig hc hl
  exact (G a h' E p e s0 _ m args below meth c T' L ⟨_, k1, rfl, hS', hk'⟩ ⟨C.1, C.2.1, C.2.2.1, hf', hZ', C.2.2.2.2.2.1, C.2.2.2.2.2.2.1, C.2.2.2.2.2.2.2.1, trivial⟩ X' e' N).pre st'
theorem go_K (G : Go true KT l Z R y bytes ml ret n0 kc ks Q h k n pc ls st) : Go true K₀ l Z R y bytes ml ret n0 kc ks Q h k n pc ls st := fun p e s0 s m args below meth c T L B C X hh N => G p e s0 s m args below meth c T L B ⟨C.1, C.2.1, C.2.2.1, C.2.2.2.1, C.2.2.2.2.1, C.2.2.2.2.2.1, C.2.2.2.2.2.2.1, C.2.2.2.2.2.2.2.1, trivial⟩ X hh N
theorem go_ldcV {idx nn : Nat} {text : String} {vs : List Value} {z : Int32} (D : Dc bytes pc (.ldc idx) 2 pc') (w : (Cond.stringLink y.cls idx text).before a0 Z = true) (wS : ∀ a ∈ Bundle.stringAtoms, a.before a0 Z = true) (hld : Jvm.Lit.constHeld Z y.cls idx) (hcw : Jvm.Lit.compactW.before a0 Z = true)
    (ht : (∀ c ∈ text.toList, c.toNat < 256) ∧ text.toList.map (fun c => Value.int (Jvm.Lit.byteI c.toNat.toUInt16)) = vs) (hz : ¬ z < 0) (hlv : z.toNatClampNeg = vs.length) (hn : 4 * text.toList.length ≤ nn) (hbig : nn ≤ 536870912) (hc : k + 2 ≤ R.cells) (hl : n + (nn + 4) ≤ R.slots) (hn0 : Z.heap.size = n0)
    (G : ∀ (a b : Addr) (kb : ClassId) h', Ext h h' → Exa Z h' a "java/lang/String" → Fld Z h' a "java/lang/String" "coder" "B" (.int 0) → Fld Z h' a "java/lang/String" "value" "[B" (.ref b) → Arv Z h' b kb .byte z vs (.int 0) → Go true KT l Z R y bytes ml ret n0 kc ks Q h' (k + 2) (n + (nn + 4)) pc' ls (.ref a :: st)) : Go true (fun s => s = Z) l Z R y bytes ml ret n0 kc ks Q h k n pc ls st := by
  intro p e s0 s m args below meth c T L Bs C X hh N
  obtain ⟨hd, rfl⟩ := D
  obtain ⟨vm0, k0, rfl, hS, hk⟩ := Bs
  have hZs : s0.setVm vm0 = Z := C.2.2.2.2.2.2.2.2
  subst hZs
  obtain ⟨a, T', h', k1, b, kb, X', e', E, hS', hk', hZ', hf', F1, F2, F3, F4, -, -, -, -, st'⟩ := ldcSVL (Z := s0.setVm vm0) (s := s0) (vm0 := vm0) (Ts := []) X C.1 C.2.2.2.2.1 C.2.2.2.1 w wS hh hS hk (hn0 ▸ N) (fun _ _ q => q) IB.start (by simp) hld hcw ht hz hlv (g := mkF m pc ls.toArray st) rfl (hb C.2.1 hd) hn hbig hc hl
  exact (G a b kb h' E F1 F2 F3 F4 p e s0 _ m args below meth c T' L ⟨_, k1, rfl, hS', hk'⟩ ⟨C.1, C.2.1, C.2.2.1, hf', hZ', C.2.2.2.2.2.1, C.2.2.2.2.2.2.1, C.2.2.2.2.2.2.2.1, trivial⟩ X' e' N).pre st'
theorem con_ofZ {as' : Array Value} (hp : plainFor y = true) (he : Jvm.Sym.laidSlots as'.toList ++ List.replicate (ml - (Jvm.Sym.laidSlots as'.toList).length) .unset = ls) (G : Go wd (fun s => s = Z) l Z R y bytes ml ret n0 R.cells R.slots Q Z.heap 0 0 0 ls []) (ws : List Cond) :
    MetFree l y (head1 (Cond.code y bytes ml ret :: ws) R) (fun a U => a = as' ∧ U = Z) (fun _ _ _ _ _ => True) (fun _ U o U' => ∃ v L, o = .returned v ∧ ((Q v U'.heap ∧ Z.heap.size ≤ U'.heap.size) ∧ Fr n0 L) ∧ EndK wd U o U' L R.cells R.slots) := by
  refine MetFree.of_bodySF hp hisR ?_
  intro p e s m args below meth c s₁ Bd hml hP hK
  obtain ⟨rfl, hZ⟩ := hP
  subst hZ
  have X0 : Stand p l e R s m args below meth c s₁ [] 0 0 := Stand.of_body Bd
  have e0 : s₁.heap = s.heap := by rw [Bd.state]; rfl
  obtain ⟨s₂, o, h1, h2, h3, v, L, e1, ⟨q1, q2⟩, q3⟩ := G p e s s m args below meth c s₁ [] (Base.start s rfl) ⟨Bd.exec, Bd.bytes, hml, findClass_of_methodNamed Bd.named, State.Warmed39.refl s, Bd.returns, Bd.notSynchronized, (name_of_methodNamed Bd.named Bd.method).1, rfl⟩ X0 e0 (Fr.nil n0)
  exact ⟨s₂, o, (XT.entry (Ls := ls.toArray) (by simpa using he)).trans h1, h2, h3, v, L, e1, ⟨⟨q1, q3.size⟩, q2⟩, q3⟩
theorem go_cast {idx : Nat} {C0 : String} {a : Addr} (D : Dc bytes pc (.checkcast idx) 3 pc') (w : (Cond.classLink y.cls idx C0).before a0 Z = true) (F : Ins Z h a C0 true) (G : Go wd K₀ l Z R y bytes ml ret n0 kc ks Q h k n pc' ls (.ref a :: st)) : Go wd K₀ l Z R y bytes ml ret n0 kc ks Q h k n pc ls (.ref a :: st) := by
  intro p e s0 s m args below meth c T L Bs C X hh N
  obtain ⟨hd, rfl⟩ := D
  obtain ⟨T', X', e', st'⟩ := castY X C.1 C.2.2.2.2.1 C.2.2.2.1 w hh F (g := mkF m pc ls.toArray (.ref a :: st)) rfl rfl (hb C.2.1 hd)
  exact (G p e s0 s m args below meth c T' L Bs C X' e' N).pre st'
theorem go_inst {idx : Nat} {C0 : String} {a : Addr} (D : Dc bytes pc (.instanceof idx) 3 pc') (w : (Cond.classLink y.cls idx C0).before a0 Z = true) (F : Ins Z h a C0 true) (G : Go wd K₀ l Z R y bytes ml ret n0 kc ks Q h k n pc' ls (.int 1 :: st)) : Go wd K₀ l Z R y bytes ml ret n0 kc ks Q h k n pc ls (.ref a :: st) := by
  intro p e s0 s m args below meth c T L Bs C X hh N
  obtain ⟨hd, rfl⟩ := D
  obtain ⟨T', X', e', st'⟩ := instY X C.1 C.2.2.2.2.1 C.2.2.2.1 w hh F (g := mkF m pc ls.toArray (.ref a :: st)) rfl rfl (hb C.2.1 hd)
  exact (G p e s0 s m args below meth c T' L Bs C X' e' N).pre st'
theorem go_wcallS1 {y' : MethodName} {b' : ByteArray} {m' : Nat} {r' : Option FieldType} {rm : Room} {idx W : Nat} {argsL : List Value} {P : Value → Heap → Prop} (D : Dc bytes pc (.invokestatic idx) 3 pc') (hM : Con true l Z y' b' m' r' rm argsL.toArray h n0 (R1 P))
    (w1 : (Cond.methodLink y.cls idx y').before a0 Z = true) (w2 : (Cond.static y').before a0 Z = true) (w3 : (Cond.initialized y'.cls).before a0 Z = true) (w4 : (Cond.code y' b' m' r').before a0 Z = true) (hy : y'.cls ≠ "java/lang/invoke/MethodHandle" ∧ y'.cls ≠ "java/lang/invoke/VarHandle")
    (hlen : ∀ sig, parseMethodDescriptor y'.desc = some sig → argsL.length = sig.parameters.length) {st₀ : List Value} (hst : st₀ = argsL.reverse ++ st) (hW : (st.map fun v => v.category).sum = W) (hf : rm.frames + 1 ≤ R.frames) (hlo : W + (m' + 11) + rm.locals ≤ R.locals) (hk : k + rm.cells ≤ R.cells) (hn : n + rm.slots ≤ R.slots) (hls : ls.length = ml)
    (G : ∀ w h', P w h' → Go true KT l Z R y bytes ml ret n0 kc ks Q h' (k + rm.cells) (n + rm.slots) pc' ls (w :: st)) : Go true K₀ l Z R y bytes ml ret n0 kc ks Q h k n pc ls st₀ := by
  subst hst
  intro p e s0 s m args below meth c T L Bs C X hh N
  obtain ⟨hd, rfl⟩ := D
  have hZ := C.2.2.2.2.1
  obtain ⟨v, vm₁, ⟨B, Lb, kb, nb⟩, -, X', hSi, -, ⟨Lq, ⟨⟨hQ, hsz⟩, Ns⟩, e1, e2, e3⟩, st'⟩ := callSS X C.1 (y := y') C.2.2.2.1 (mvT hZ w1) (mvT hZ w2) (mvT hZ w3) (mvT hZ w4) hy (backOfS (W := W) (Q := fun v h' L => ((R1 P) v h' ∧ h.size ≤ h'.size) ∧ Fr n0 L) (hM []) hZ w4 w3 hf hlo) (g := mkF m pc ls.toArray (argsL.reverse ++ st)) rfl
    (by rw [C.2.2.1]; simpa using hls) (argsL := argsL) (rest := st) hlen rfl (by show 2 * 0 + _ ≤ W; rw [← hW]; omega) (hb C.2.1 hd) (fun _ _ => ⟨rfl, hh, hk, hn⟩)
  dsimp only [Pt.U, Pt.locs, Pt.cells, Pt.slots] at X' hSi hQ hsz e1 e2 e3 st'
  subst e1 e2 e3
  obtain ⟨w, rfl, hP⟩ := hQ
  exact (G w B.heap hP p e s0 _ m args below meth c B _ (Bs.since hSi hsz) (C.since hSi) X' rfl (N.app Ns)).pre (fun t q => st'.trans q)
theorem go_wcallV1 {y' : MethodName} {b' : ByteArray} {m' : Nat} {r' : Option FieldType} {rm : Room} {idx W : Nat} {argsL : List Value} {P : Value → Heap → Prop} {x' : MethodName} {K : String} {a : Addr} (D : Dc bytes pc (.invokevirtual idx) 3 pc') (hM : Con true l Z y' b' m' r' rm (.ref a :: argsL).toArray h n0 (R1 P)) (E : Exa Z h a K)
    (w1 : (Cond.methodLink y.cls idx x').before a0 Z = true) (w5 : (Cond.declares x').before a0 Z = true) (nf : ∀ s : State, Z.Warmed39 s.vm → NotFace s x') (w6 : (Cond.selects K x' y').before a0 Z = true) (w2 : (Cond.instanceMethod y').before a0 Z = true) (w3 : (Cond.initialized y'.cls).before a0 Z = true) (w4 : (Cond.code y' b' m' r').before a0 Z = true)
    (hy : x'.cls ≠ "java/lang/invoke/MethodHandle" ∧ x'.cls ≠ "java/lang/invoke/VarHandle") (hlen : ∀ sig, parseMethodDescriptor x'.desc = some sig → argsL.length = sig.parameters.length) {st₀ : List Value} (hst : st₀ = argsL.reverse ++ .ref a :: st) (hW : (st.map fun v => v.category).sum = W) (hf : rm.frames + 1 ≤ R.frames) (hlo : W + (m' + 11) + rm.locals ≤ R.locals) (hk : k + rm.cells ≤ R.cells) (hn : n + rm.slots ≤ R.slots) (hls : ls.length = ml)
    (G : ∀ w h', P w h' → Go true KT l Z R y bytes ml ret n0 kc ks Q h' (k + rm.cells) (n + rm.slots) pc' ls (w :: st)) : Go true K₀ l Z R y bytes ml ret n0 kc ks Q h k n pc ls st₀ := by
  subst hst
  intro p e s0 s m args below meth c T L Bs C X hh N
  obtain ⟨hd, rfl⟩ := D
  have hZ := C.2.2.2.2.1
  obtain ⟨cq, kq, qa, qb, qc⟩ := isOf (T := T) hZ hh E
  obtain ⟨v, vm₁, ⟨B, Lb, kb, nb⟩, -, X', hSi, -, ⟨Lq, ⟨⟨hQ, hsz⟩, Ns⟩, e1, e2, e3⟩, st'⟩ := X.virtualBackS C.1 (y := x') (z := y') C.2.2.2.1 (mvT hZ w1) (mvT hZ w5) (nf s hZ) (mvT hZ w6) (mvT hZ w2) hy (backOfS (W := W) (Q := fun v h' L => ((R1 P) v h' ∧ h.size ≤ h'.size) ∧ Fr n0 L) (hM []) hZ w4 w3 hf hlo) qa qc (g := mkF m pc ls.toArray (argsL.reverse ++ .ref a :: st)) rfl
    (by rw [C.2.2.1]; simpa using hls) (Steps.refl _) (argsL := argsL) (rest := st) hlen rfl (by show 2 * 0 + _ ≤ W; rw [← hW]; omega) (hb C.2.1 hd) (fun _ _ => ⟨rfl, hh, hk, hn⟩)
  dsimp only [Pt.U, Pt.locs, Pt.cells, Pt.slots] at X' hSi hQ hsz e1 e2 e3 st'
  subst e1 e2 e3
  obtain ⟨w, rfl, hP⟩ := hQ
  exact (G w B.heap hP p e s0 _ m args below meth c B _ (Bs.since hSi hsz) (C.since hSi) X' rfl (N.app Ns)).pre (fun t q => st'.trans q)
theorem go_wcallP1 {y' : MethodName} {b' : ByteArray} {m' : Nat} {r' : Option FieldType} {rm : Room} {idx W : Nat} {argsL : List Value} {P : Value → Heap → Prop} {K : String} {a : Addr} (D : Dc bytes pc (.invokevirtual idx) 3 pc') (hM : Con true l Z y' b' m' r' rm (.ref a :: argsL).toArray h n0 (R1 P)) (E : Exa Z h a K)
    (w1 : (Cond.methodLink y.cls idx y').before a0 Z = true) (w2 : (Cond.instanceMethod y').before a0 Z = true) {kk : Nat} (wi : (Cond.instantiable y'.cls kk).before a0 Z = true) (w5 : (Cond.privateMethod y').before a0 Z = true) (w3 : (Cond.initialized y'.cls).before a0 Z = true) (w4 : (Cond.code y' b' m' r').before a0 Z = true) (hy : y'.cls ≠ "java/lang/invoke/MethodHandle" ∧ y'.cls ≠ "java/lang/invoke/VarHandle")
    (hlen : ∀ sig, parseMethodDescriptor y'.desc = some sig → argsL.length = sig.parameters.length) {st₀ : List Value} (hst : st₀ = argsL.reverse ++ .ref a :: st) (hW : (st.map fun v => v.category).sum = W) (hf : rm.frames + 1 ≤ R.frames) (hlo : W + (m' + 11) + rm.locals ≤ R.locals) (hk : k + rm.cells ≤ R.cells) (hn : n + rm.slots ≤ R.slots) (hls : ls.length = ml)
    (G : ∀ w h', P w h' → Go true KT l Z R y bytes ml ret n0 kc ks Q h' (k + rm.cells) (n + rm.slots) pc' ls (w :: st)) : Go true K₀ l Z R y bytes ml ret n0 kc ks Q h k n pc ls st₀ := by
  subst hst
  intro p e s0 s m args below meth c T L Bs C X hh N
  obtain ⟨hd, rfl⟩ := D
  have hZ := C.2.2.2.2.1
  obtain ⟨cq, q1, q2⟩ := E.cell
  have wi' : (Cond.instantiable y'.cls kk).before args s = true := mvT hZ wi
  obtain ⟨c2, k2, i1, i2, -, i4, -⟩ := Cond.instantiable_spec wi'
  have hpa : s.PrivateAt y' := Cond.privateMethod_at (mvP hZ w5 (args := #[]))
  have w6 : (Cond.selects y'.cls y' y').before args s = true := selects_self_of_private i1 i2 (Bool.or_eq_false_iff.mp i4).1 hpa (mvT hZ w2) hy
  obtain ⟨v, vm₁, ⟨B, Lb, kb, nb⟩, -, X', hSi, -, ⟨Lq, ⟨⟨hQ, hsz⟩, Ns⟩, e1, e2, e3⟩, st'⟩ := X.privateBackS C.1 (y := y') C.2.2.2.1 (mvT hZ w1) (mvT hZ w2) w6 hpa (mvT hZ w4) hy (backOfS (W := W) (Q := fun v h' L => ((R1 P) v h' ∧ h.size ≤ h'.size) ∧ Fr n0 L) (hM []) hZ w4 w3 hf hlo) (g := mkF m pc ls.toArray (argsL.reverse ++ .ref a :: st)) rfl
    (by rw [C.2.2.1]; simpa using hls) (Steps.refl _) (a := a) (by rw [hh]; exact q1) q2 (argsL := argsL) (rest := st) hlen rfl (by show 2 * 0 + _ ≤ W; rw [← hW]; omega) (hb C.2.1 hd) (fun _ _ => ⟨rfl, hh, hk, hn⟩)
  dsimp only [Pt.U, Pt.locs, Pt.cells, Pt.slots] at X' hSi hQ hsz e1 e2 e3 st'
  subst e1 e2 e3
  obtain ⟨w, rfl, hP⟩ := hQ
  exact (G w B.heap hP p e s0 _ m args below meth c B _ (Bs.since hSi hsz) (C.since hSi) X' rfl (N.app Ns)).pre (fun t q => st'.trans q)
theorem go_wcallS0 {y' : MethodName} {b' : ByteArray} {m' : Nat} {r' : Option FieldType} {rm : Room} {idx W : Nat} {argsL : List Value} {P : Heap → Prop} (D : Dc bytes pc (.invokestatic idx) 3 pc') (hM : Con true l Z y' b' m' r' rm argsL.toArray h n0 (R0 P))
    (w1 : (Cond.methodLink y.cls idx y').before a0 Z = true) (w2 : (Cond.static y').before a0 Z = true) (w3 : (Cond.initialized y'.cls).before a0 Z = true) (w4 : (Cond.code y' b' m' r').before a0 Z = true) (hy : y'.cls ≠ "java/lang/invoke/MethodHandle" ∧ y'.cls ≠ "java/lang/invoke/VarHandle")
    (hlen : ∀ sig, parseMethodDescriptor y'.desc = some sig → argsL.length = sig.parameters.length) {st₀ : List Value} (hst : st₀ = argsL.reverse ++ st) (hW : (st.map fun v => v.category).sum = W) (hf : rm.frames + 1 ≤ R.frames) (hlo : W + (m' + 11) + rm.locals ≤ R.locals) (hk : k + rm.cells ≤ R.cells) (hn : n + rm.slots ≤ R.slots) (hls : ls.length = ml)
    (G : ∀ h', P h' → Go true KT l Z R y bytes ml ret n0 kc ks Q h' (k + rm.cells) (n + rm.slots) pc' ls st) : Go true K₀ l Z R y bytes ml ret n0 kc ks Q h k n pc ls st₀ := by
  subst hst
  intro p e s0 s m args below meth c T L Bs C X hh N
  obtain ⟨hd, rfl⟩ := D
  have hZ := C.2.2.2.2.1
  obtain ⟨v, vm₁, ⟨B, Lb, kb, nb⟩, -, X', hSi, -, ⟨Lq, ⟨⟨hQ, hsz⟩, Ns⟩, e1, e2, e3⟩, st'⟩ := callSS X C.1 (y := y') C.2.2.2.1 (mvT hZ w1) (mvT hZ w2) (mvT hZ w3) (mvT hZ w4) hy (backOfS (W := W) (Q := fun v h' L => ((R0 P) v h' ∧ h.size ≤ h'.size) ∧ Fr n0 L) (hM []) hZ w4 w3 hf hlo) (g := mkF m pc ls.toArray (argsL.reverse ++ st)) rfl
    (by rw [C.2.2.1]; simpa using hls) (argsL := argsL) (rest := st) hlen rfl (by show 2 * 0 + _ ≤ W; rw [← hW]; omega) (hb C.2.1 hd) (fun _ _ => ⟨rfl, hh, hk, hn⟩)
  dsimp only [Pt.U, Pt.locs, Pt.cells, Pt.slots] at X' hSi hQ hsz e1 e2 e3 st'
  subst e1 e2 e3
  obtain ⟨rfl, hP⟩ := hQ
  exact (G B.heap hP p e s0 _ m args below meth c B _ (Bs.since hSi hsz) (C.since hSi) X' rfl (N.app Ns)).pre (fun t q => st'.trans q)
theorem go_wcallN0 {y' : MethodName} {b' : ByteArray} {m' : Nat} {r' : Option FieldType} {rm : Room} {idx W : Nat} {argsL : List Value} {P : Heap → Prop} {a : Addr} (D : Dc bytes pc (.invokespecial idx) 3 pc') (hi : y'.name = "<init>") (hr' : r' = none) (hM : Con true l Z y' b' m' r' rm (.ref a :: argsL).toArray h n0 (R0 P))
    (w1 : (Cond.methodLink y.cls idx y').before a0 Z = true) (w2 : (Cond.instanceMethod y').before a0 Z = true) (w3 : (Cond.initialized y'.cls).before a0 Z = true) (w4 : (Cond.code y' b' m' r').before a0 Z = true) (hy : y'.cls ≠ "java/lang/invoke/MethodHandle" ∧ y'.cls ≠ "java/lang/invoke/VarHandle")
    (hlen : ∀ sig, parseMethodDescriptor y'.desc = some sig → argsL.length = sig.parameters.length) {st₀ : List Value} (hst : st₀ = argsL.reverse ++ .ref a :: st) (hW : (st.map fun v => v.category).sum = W) (hf : rm.frames + 1 ≤ R.frames) (hlo : W + (m' + 11) + rm.locals ≤ R.locals) (hk : k + rm.cells ≤ R.cells) (hn : n + rm.slots ≤ R.slots) (hls : ls.length = ml)
    (G : ∀ h', P h' → Go true KT l Z R y bytes ml ret n0 kc ks Q h' (k + rm.cells) (n + rm.slots) pc' ls st) : Go true K₀ l Z R y bytes ml ret n0 kc ks Q h k n pc ls st₀ := by
  subst hst hr'
  intro p e s0 s m args below meth c T L Bs C X hh N
  obtain ⟨hd, rfl⟩ := D
  have hZ := C.2.2.2.2.1
  obtain ⟨v, vm₁, ⟨B, Lb, kb, nb⟩, -, X', hSi, -, ⟨Lq, ⟨⟨hQ, hsz⟩, Ns⟩, e1, e2, e3⟩, st'⟩ := X.specialBackS C.1 (y := y') hi C.2.2.2.1 (mvT hZ w1) (mvT hZ w2) (mvT hZ w4) hy (backOfS (W := W) (Q := fun v h' L => ((R0 P) v h' ∧ h.size ≤ h'.size) ∧ Fr n0 L) (hM []) hZ w4 w3 hf hlo) (g := mkF m pc ls.toArray (argsL.reverse ++ .ref a :: st)) rfl
    (by rw [C.2.2.1]; simpa using hls) (Steps.refl _) (a := a) (argsL := argsL) (rest := st) hlen rfl (by show 2 * 0 + _ ≤ W; rw [← hW]; omega) (hb C.2.1 hd) (fun _ _ => ⟨rfl, hh, hk, hn⟩)
  dsimp only [Pt.U, Pt.locs, Pt.cells, Pt.slots] at X' hSi hQ hsz e1 e2 e3 st'
  subst e1 e2 e3
  obtain ⟨rfl, hP⟩ := hQ
  exact (G B.heap hP p e s0 _ m args below meth c B _ (Bs.since hSi hsz) (C.since hSi) X' rfl (N.app Ns)).pre (fun t q => st'.trans q)
theorem go_wcallV0 {y' : MethodName} {b' : ByteArray} {m' : Nat} {r' : Option FieldType} {rm : Room} {idx W : Nat} {argsL : List Value} {P : Heap → Prop} {x' : MethodName} {K : String} {a : Addr} (D : Dc bytes pc (.invokevirtual idx) 3 pc') (hM : Con true l Z y' b' m' r' rm (.ref a :: argsL).toArray h n0 (R0 P)) (E : Exa Z h a K)
    (w1 : (Cond.methodLink y.cls idx x').before a0 Z = true) (w5 : (Cond.declares x').before a0 Z = true) (nf : ∀ s : State, Z.Warmed39 s.vm → NotFace s x') (w6 : (Cond.selects K x' y').before a0 Z = true) (w2 : (Cond.instanceMethod y').before a0 Z = true) (w3 : (Cond.initialized y'.cls).before a0 Z = true) (w4 : (Cond.code y' b' m' r').before a0 Z = true)
    (hy : x'.cls ≠ "java/lang/invoke/MethodHandle" ∧ x'.cls ≠ "java/lang/invoke/VarHandle") (hlen : ∀ sig, parseMethodDescriptor x'.desc = some sig → argsL.length = sig.parameters.length) {st₀ : List Value} (hst : st₀ = argsL.reverse ++ .ref a :: st) (hW : (st.map fun v => v.category).sum = W) (hf : rm.frames + 1 ≤ R.frames) (hlo : W + (m' + 11) + rm.locals ≤ R.locals) (hk : k + rm.cells ≤ R.cells) (hn : n + rm.slots ≤ R.slots) (hls : ls.length = ml)
    (G : ∀ h', P h' → Go true KT l Z R y bytes ml ret n0 kc ks Q h' (k + rm.cells) (n + rm.slots) pc' ls st) : Go true K₀ l Z R y bytes ml ret n0 kc ks Q h k n pc ls st₀ := by
  subst hst
  intro p e s0 s m args below meth c T L Bs C X hh N
  obtain ⟨hd, rfl⟩ := D
  have hZ := C.2.2.2.2.1
  obtain ⟨cq, kq, qa, qb, qc⟩ := isOf (T := T) hZ hh E
  obtain ⟨v, vm₁, ⟨B, Lb, kb, nb⟩, -, X', hSi, -, ⟨Lq, ⟨⟨hQ, hsz⟩, Ns⟩, e1, e2, e3⟩, st'⟩ := X.virtualBackS C.1 (y := x') (z := y') C.2.2.2.1 (mvT hZ w1) (mvT hZ w5) (nf s hZ) (mvT hZ w6) (mvT hZ w2) hy (backOfS (W := W) (Q := fun v h' L => ((R0 P) v h' ∧ h.size ≤ h'.size) ∧ Fr n0 L) (hM []) hZ w4 w3 hf hlo) qa qc (g := mkF m pc ls.toArray (argsL.reverse ++ .ref a :: st)) rfl
    (by rw [C.2.2.1]; simpa using hls) (Steps.refl _) (argsL := argsL) (rest := st) hlen rfl (by show 2 * 0 + _ ≤ W; rw [← hW]; omega) (hb C.2.1 hd) (fun _ _ => ⟨rfl, hh, hk, hn⟩)
  dsimp only [Pt.U, Pt.locs, Pt.cells, Pt.slots] at X' hSi hQ hsz e1 e2 e3 st'
  subst e1 e2 e3
  obtain ⟨rfl, hP⟩ := hQ
  exact (G B.heap hP p e s0 _ m args below meth c B _ (Bs.since hSi hsz) (C.since hSi) X' rfl (N.app Ns)).pre (fun t q => st'.trans q)
theorem go_wcallP0 {y' : MethodName} {b' : ByteArray} {m' : Nat} {r' : Option FieldType} {rm : Room} {idx W : Nat} {argsL : List Value} {P : Heap → Prop} {K : String} {a : Addr} (D : Dc bytes pc (.invokevirtual idx) 3 pc') (hM : Con true l Z y' b' m' r' rm (.ref a :: argsL).toArray h n0 (R0 P)) (E : Exa Z h a K)
    (w1 : (Cond.methodLink y.cls idx y').before a0 Z = true) (w2 : (Cond.instanceMethod y').before a0 Z = true) {kk : Nat} (wi : (Cond.instantiable y'.cls kk).before a0 Z = true) (w5 : (Cond.privateMethod y').before a0 Z = true) (w3 : (Cond.initialized y'.cls).before a0 Z = true) (w4 : (Cond.code y' b' m' r').before a0 Z = true) (hy : y'.cls ≠ "java/lang/invoke/MethodHandle" ∧ y'.cls ≠ "java/lang/invoke/VarHandle")
    (hlen : ∀ sig, parseMethodDescriptor y'.desc = some sig → argsL.length = sig.parameters.length) {st₀ : List Value} (hst : st₀ = argsL.reverse ++ .ref a :: st) (hW : (st.map fun v => v.category).sum = W) (hf : rm.frames + 1 ≤ R.frames) (hlo : W + (m' + 11) + rm.locals ≤ R.locals) (hk : k + rm.cells ≤ R.cells) (hn : n + rm.slots ≤ R.slots) (hls : ls.length = ml)
    (G : ∀ h', P h' → Go true KT l Z R y bytes ml ret n0 kc ks Q h' (k + rm.cells) (n + rm.slots) pc' ls st) : Go true K₀ l Z R y bytes ml ret n0 kc ks Q h k n pc ls st₀ := by
  subst hst
  intro p e s0 s m args below meth c T L Bs C X hh N
  obtain ⟨hd, rfl⟩ := D
  have hZ := C.2.2.2.2.1
  obtain ⟨cq, q1, q2⟩ := E.cell
  have wi' : (Cond.instantiable y'.cls kk).before args s = true := mvT hZ wi
  obtain ⟨c2, k2, i1, i2, -, i4, -⟩ := Cond.instantiable_spec wi'
  have hpa : s.PrivateAt y' := Cond.privateMethod_at (mvP hZ w5 (args := #[]))
  have w6 : (Cond.selects y'.cls y' y').before args s = true := selects_self_of_private i1 i2 (Bool.or_eq_false_iff.mp i4).1 hpa (mvT hZ w2) hy
  obtain ⟨v, vm₁, ⟨B, Lb, kb, nb⟩, -, X', hSi, -, ⟨Lq, ⟨⟨hQ, hsz⟩, Ns⟩, e1, e2, e3⟩, st'⟩ := X.privateBackS C.1 (y := y') C.2.2.2.1 (mvT hZ w1) (mvT hZ w2) w6 hpa (mvT hZ w4) hy (backOfS (W := W) (Q := fun v h' L => ((R0 P) v h' ∧ h.size ≤ h'.size) ∧ Fr n0 L) (hM []) hZ w4 w3 hf hlo) (g := mkF m pc ls.toArray (argsL.reverse ++ .ref a :: st)) rfl
    (by rw [C.2.2.1]; simpa using hls) (Steps.refl _) (a := a) (by rw [hh]; exact q1) q2 (argsL := argsL) (rest := st) hlen rfl (by show 2 * 0 + _ ≤ W; rw [← hW]; omega) (hb C.2.1 hd) (fun _ _ => ⟨rfl, hh, hk, hn⟩)
  dsimp only [Pt.U, Pt.locs, Pt.cells, Pt.slots] at X' hSi hQ hsz e1 e2 e3 st'
  subst e1 e2 e3
  obtain ⟨rfl, hP⟩ := hQ
  exact (G B.heap hP p e s0 _ m args below meth c B _ (Bs.since hSi hsz) (C.since hSi) X' rfl (N.app Ns)).pre (fun t q => st'.trans q)
theorem go_initO {idx W : Nat} {a : Addr} (D : Dc bytes pc (.invokespecial idx) 3 pc') (w1 : (Cond.methodLink y.cls idx Lib.objectInit).before a0 Z = true) (w2 : (Cond.instanceMethod Lib.objectInit).before a0 Z = true) (w3 : (Cond.code Lib.objectInit ⟨#[0xb1]⟩ 1 none).before a0 Z = true)
    (hls : ls.length = ml) (hf : 1 ≤ R.frames) (hW : (st.map fun v => v.category).sum = W) (hlo : W + 12 ≤ R.locals) (G : Go wd K₀ l Z R y bytes ml ret n0 kc ks Q h k n pc' ls st) : Go wd K₀ l Z R y bytes ml ret n0 kc ks Q h k n pc ls (.ref a :: st) := by
  intro p e s0 s m args below meth c T L Bs C X hh N
  obtain ⟨hd, rfl⟩ := D
  obtain ⟨T', X', e', st'⟩ := initO X C.1 C.2.2.2.2.1 C.2.2.2.1 w1 w2 w3 hh (g := mkF m pc ls.toArray (.ref a :: st)) rfl (by rw [C.2.2.1]; simpa using hls) rfl (hb C.2.1 hd) hf (W := W) (by show 2 * 0 + _ ≤ W; rw [← hW]; omega) hlo
  exact (G p e s0 s m args below meth c T' L Bs C X' e' N).pre st'
/-! ## 2. fields, objects, arrays, by the library's own facts -/
theorem go_getF {idx : Nat} {R0 O nm d host : String} {a : Addr} {v : Value} (D : Dc bytes pc (.getfield idx) 3 pc') (w : (Cond.fieldLink y.cls idx R0 nm d).before a0 Z = true ∨ (Cond.fieldLinkNest y.cls idx R0 nm d host).before a0 Z = true) (via : Via Z R0 O nm d) (F : Fld Z h a O nm d v) (G : Go wd K₀ l Z R y bytes ml ret n0 kc ks Q h k n pc' ls (v :: st)) : Go wd K₀ l Z R y bytes ml ret n0 kc ks Q h k n pc ls (.ref a :: st) := by
  intro p e s0 s m args below meth c T L Bs C X hh N
  obtain ⟨hd, rfl⟩ := D
  obtain ⟨T', X', e', st'⟩ := getF X C.1 C.2.2.2.2.1 C.2.2.2.1 w via hh F (g := mkF m pc ls.toArray (.ref a :: st)) rfl rfl (hb C.2.1 hd)
  exact (G p e s0 s m args below meth c T' L Bs C X' e' N).pre st'
theorem go_getS {idx : Nat} {R0 O nm d host : String} {v : Value} (D : Dc bytes pc (.getstatic idx) 3 pc') (w : (Cond.fieldLink y.cls idx R0 nm d).before a0 Z = true ∨ (Cond.fieldLinkNest y.cls idx R0 nm d host).before a0 Z = true) (via : Via Z R0 O nm d) (F : Sta Z h O nm d v) (G : Go wd K₀ l Z R y bytes ml ret n0 kc ks Q h k n pc' ls (v :: st)) : Go wd K₀ l Z R y bytes ml ret n0 kc ks Q h k n pc ls st := by
  intro p e s0 s m args below meth c T L Bs C X hh N
  obtain ⟨hd, rfl⟩ := D
  obtain ⟨T', X', e', st'⟩ := getS2 X C.1 C.2.2.2.2.1 C.2.2.2.1 w via hh F (g := mkF m pc ls.toArray st) rfl (hb C.2.1 hd)
  exact (G p e s0 s m args below meth c T' L Bs C X' e' N).pre st'
theorem go_putF {idx kk : Nat} {R0 O nm d host K : String} {ty : FieldType} {a : Addr} {v old : Value} (D : Dc bytes pc (.putfield idx) 3 pc') (w : (Cond.fieldLink y.cls idx R0 nm d).before a0 Z = true ∨ (Cond.fieldLinkNest y.cls idx R0 nm d host).before a0 Z = true) (via : Via Z R0 O nm d) (F : Fld Z h a O nm d old) (E : Exa Z h a K)
    (Lw : (Cond.lays K O nm d).before a0 Z = true ∨ ((Cond.laysFinal K O nm d).before a0 Z = true ∧ y.cls = O ∧ y.name = "<init>")) (wi : (Cond.instantiable K kk).before a0 Z = true) (hty : parseFieldDescriptor d = some ty) (hnr : narrow ty v = v) (hfi : fits ty v = true) (ha : n0 ≤ a)
    (G : ∀ h', Wr h h' a (Jvm.RoadKit.slotOf Z O nm d) v → Go wd K₀ l Z R y bytes ml ret n0 kc ks Q h' k n pc' ls st) : Go wd K₀ l Z R y bytes ml ret n0 kc ks Q h k n pc ls (v :: .ref a :: st) := by
  intro p e s0 s m args below meth c T L Bs C X hh N
  obtain ⟨hd, rfl⟩ := D
  obtain ⟨T', h', X', e', W', st'⟩ := putF X C.1 C.2.2.2.2.1 C.2.2.2.1 w via hh F E (Lw.imp id fun q => ⟨q.1, q.2.1, C.2.2.2.2.2.2.2.1.trans q.2.2⟩) wi hty hnr hfi (g := mkF m pc ls.toArray (v :: .ref a :: st)) rfl rfl (hb C.2.1 hd)
  exact (G h' W' p e s0 s m args below meth c T' _ (Bs.mono (Nat.le_of_eq W'.size.symm)) C X' e' (Fr.snoc X' N ha)).pre st'
theorem go_newO {idx sl : Nat} {K : String} (D : Dc bytes pc (.new idx) 3 pc') (w : (Cond.classLink y.cls idx K).before a0 Z = true) (wi : (Cond.instantiable K sl).before a0 Z = true) (wz : (Cond.initialized K).before a0 Z = true) (hk : k + 1 ≤ R.cells) (hn : n + sl ≤ R.slots)
    (G : ∀ h', Ext h h' → Exa Z h' h.size K → (∀ {O nm d : String} {ty : FieldType}, Laid Z a0 K O nm d → parseFieldDescriptor d = some ty → Fld Z h' h.size O nm d (defaultValue ty)) → Go wd K₀ l Z R y bytes ml ret n0 kc ks Q h' (k + 1) (n + sl) pc' ls (.ref h.size :: st)) : Go wd K₀ l Z R y bytes ml ret n0 kc ks Q h k n pc ls st := by
  intro p e s0 s m args below meth c T L Bs C X hh N
  obtain ⟨hd, rfl⟩ := D
  obtain ⟨T', h', X', e', E', A', F', -, st'⟩ := newO X C.1 C.2.2.2.2.1 C.2.2.2.1 w wi wz hh (g := mkF m pc ls.toArray st) rfl (hb C.2.1 hd) hk hn
  exact (G h' E' A' F' p e s0 s m args below meth c T' _ (Bs.mono E'.1) C X' e' N).pre st'
theorem go_newP {aty : ArrayType} {z : Int32} {ad : String} (D : Dc bytes pc (.newarray aty) 2 pc') (w : (Cond.arrayClass (newarray.typeOf aty)).before a0 Z = true) (hz : ¬ z < 0) (cap : Nat) (hcap : z.toNatClampNeg ≤ cap) (hb8 : cap * 8 ≤ 536870912) (hk : k + 1 ≤ R.cells) (hn : n + cap ≤ R.slots) (had : "[" ++ (newarray.typeOf aty).toString = ad)
    (G : ∀ h' cA, Ext h h' → Arr Z h' h.size (newA cA (newarray.typeOf aty) z) (newarray.typeOf aty) → Exa Z h' h.size ad → Go wd K₀ l Z R y bytes ml ret n0 kc ks Q h' (k + 1) (n + cap) pc' ls (.ref h.size :: st)) : Go wd K₀ l Z R y bytes ml ret n0 kc ks Q h k n pc ls (.int z :: st) := by
  intro p e s0 s m args below meth c T L Bs C X hh N
  obtain ⟨hd, rfl⟩ := D
  obtain ⟨T', h', cA, X', e', E', A', F', st'⟩ := newPE X C.1 C.2.2.2.2.1 w hh (g := mkF m pc ls.toArray (.int z :: st)) rfl (hb C.2.1 hd) rfl hz hcap hb8 hk hn had
  exact (G h' cA E' A' F' p e s0 s m args below meth c T' _ (Bs.mono E'.1) C X' e' N).pre st'
theorem go_newR {idx : Nat} {K : String} {z : Int32} {ad : String} (D : Dc bytes pc (.anewarray idx) 3 pc') (w1 : (Cond.classLink y.cls idx K).before a0 Z = true) (w2 : (Cond.arrayOver (.object K)).before a0 Z = true) (hz : ¬ z < 0) (cap : Nat) (hcap : z.toNatClampNeg ≤ cap) (hb8 : cap * 8 ≤ 536870912) (hk : k + 1 ≤ R.cells) (hn : n + cap ≤ R.slots) (had : "[" ++ (FieldType.object K).toString = ad)
    (G : ∀ h' cA, Ext h h' → Arr Z h' h.size (newA cA (.object K) z) (.object K) → Exa Z h' h.size ad → Ovr Z cA K → Go wd K₀ l Z R y bytes ml ret n0 kc ks Q h' (k + 1) (n + cap) pc' ls (.ref h.size :: st)) : Go wd K₀ l Z R y bytes ml ret n0 kc ks Q h k n pc ls (.int z :: st) := by
  intro p e s0 s m args below meth c T L Bs C X hh N
  obtain ⟨hd, rfl⟩ := D
  obtain ⟨T', h', cA, X', e', E', A', F', O', st'⟩ := newRE X C.1 C.2.2.2.2.1 C.2.2.2.1 w1 w2 hh (g := mkF m pc ls.toArray (.int z :: st)) rfl (hb C.2.1 hd) rfl hz hcap hb8 hk hn had
  exact (G h' cA E' A' F' O' p e s0 s m args below meth c T' _ (Bs.mono E'.1) C X' e' N).pre st'
theorem go_len {a : Addr} {cl : Cell} {ty : FieldType} {z : Int32} (D : Dc bytes pc .arraylength 1 pc') (A : Arr Z h a cl ty) (hz : cl.slots.size.toInt32 = z) (G : Go wd K₀ l Z R y bytes ml ret n0 kc ks Q h k n pc' ls (.int z :: st)) : Go wd K₀ l Z R y bytes ml ret n0 kc ks Q h k n pc ls (.ref a :: st) := by
  intro p e s0 s m args below meth c T L Bs C X hh N
  obtain ⟨hd, rfl⟩ := D
  subst hz
  exact (G p e s0 s m args below meth c T L Bs C X hh N).pre fun t q => X.arraylength C.1 (by rw [hh]; exact A.1) (State.isArrayOf_alike C.2.2.2.2.1.alike A.2.1) (g := mkF m pc ls.toArray (.ref a :: st)) rfl rfl (hb C.2.1 hd) _ q
theorem go_iaload {a : Addr} {cl : Cell} {j : Int32} {v : Value} (D : Dc bytes pc .iaload 1 pc') (A : Arr Z h a cl .int) (hj : ¬ (j < 0 ∨ cl.slots.size ≤ j.toNatClampNeg)) (hv : cl.slots[j.toNatClampNeg]? = some v) (G : Go wd K₀ l Z R y bytes ml ret n0 kc ks Q h k n pc' ls (v :: st)) : Go wd K₀ l Z R y bytes ml ret n0 kc ks Q h k n pc ls (.int j :: .ref a :: st) := by
  intro p e s0 s m args below meth c T L Bs C X hh N
  obtain ⟨hd, rfl⟩ := D
  exact (G p e s0 s m args below meth c T L Bs C X hh N).pre fun t q => X.iaload C.1 (j := j) (v := v) (by rw [hh]; exact A.1) (State.isArrayOf_alike C.2.2.2.2.1.alike A.2.1) A.2.2 hj hv (g := mkF m pc ls.toArray (.int j :: .ref a :: st)) rfl rfl (hb C.2.1 hd) _ q
theorem go_caload {a : Addr} {cl : Cell} {j : Int32} {v : Value} (D : Dc bytes pc .caload 1 pc') (A : Arr Z h a cl .char) (hj : ¬ (j < 0 ∨ cl.slots.size ≤ j.toNatClampNeg)) (hv : cl.slots[j.toNatClampNeg]? = some v) (G : Go wd K₀ l Z R y bytes ml ret n0 kc ks Q h k n pc' ls (v :: st)) : Go wd K₀ l Z R y bytes ml ret n0 kc ks Q h k n pc ls (.int j :: .ref a :: st) := by
  intro p e s0 s m args below meth c T L Bs C X hh N
  obtain ⟨hd, rfl⟩ := D
  exact (G p e s0 s m args below meth c T L Bs C X hh N).pre fun t q => X.caload C.1 (j := j) (v := v) (by rw [hh]; exact A.1) (State.isArrayOf_alike C.2.2.2.2.1.alike A.2.1) A.2.2 hj hv (g := mkF m pc ls.toArray (.int j :: .ref a :: st)) rfl rfl (hb C.2.1 hd) _ q
theorem go_baload {a : Addr} {cl : Cell} {j : Int32} {v : Value} (D : Dc bytes pc .baload 1 pc') (A : Arr Z h a cl .byte) (hj : ¬ (j < 0 ∨ cl.slots.size ≤ j.toNatClampNeg)) (hv : cl.slots[j.toNatClampNeg]? = some v) (G : Go wd K₀ l Z R y bytes ml ret n0 kc ks Q h k n pc' ls (v :: st)) : Go wd K₀ l Z R y bytes ml ret n0 kc ks Q h k n pc ls (.int j :: .ref a :: st) := by
  intro p e s0 s m args below meth c T L Bs C X hh N
  obtain ⟨hd, rfl⟩ := D
  exact (G p e s0 s m args below meth c T L Bs C X hh N).pre fun t q => X.baloadBytes C.1 (j := j) (v := v) (by rw [hh]; exact A.1) (State.isArrayOf_alike C.2.2.2.2.1.alike A.2.1) A.2.2 hj hv (g := mkF m pc ls.toArray (.int j :: .ref a :: st)) rfl rfl (hb C.2.1 hd) _ q
theorem go_laload {a : Addr} {cl : Cell} {j : Int32} {v : Value} (D : Dc bytes pc .laload 1 pc') (A : Arr Z h a cl .long) (hj : ¬ (j < 0 ∨ cl.slots.size ≤ j.toNatClampNeg)) (hv : cl.slots[j.toNatClampNeg]? = some v) (G : Go wd K₀ l Z R y bytes ml ret n0 kc ks Q h k n pc' ls (v :: st)) : Go wd K₀ l Z R y bytes ml ret n0 kc ks Q h k n pc ls (.int j :: .ref a :: st) := by
  intro p e s0 s m args below meth c T L Bs C X hh N
  obtain ⟨hd, rfl⟩ := D
  exact (G p e s0 s m args below meth c T L Bs C X hh N).pre fun t q => X.laload C.1 (j := j) (v := v) (by rw [hh]; exact A.1) (State.isArrayOf_alike C.2.2.2.2.1.alike A.2.1) A.2.2 hj hv (g := mkF m pc ls.toArray (.int j :: .ref a :: st)) rfl rfl (hb C.2.1 hd) _ q
theorem go_aaload {a : Addr} {cl : Cell} {ty : FieldType} {j : Int32} {v : Value} (D : Dc bytes pc .aaload 1 pc') (A : Arr Z h a cl ty) (hty : ty.isReference = true) (hj : ¬ (j < 0 ∨ cl.slots.size ≤ j.toNatClampNeg)) (hv : cl.slots[j.toNatClampNeg]? = some v) (G : Go wd K₀ l Z R y bytes ml ret n0 kc ks Q h k n pc' ls (v :: st)) : Go wd K₀ l Z R y bytes ml ret n0 kc ks Q h k n pc ls (.int j :: .ref a :: st) := by
  intro p e s0 s m args below meth c T L Bs C X hh N
  obtain ⟨hd, rfl⟩ := D
  exact (G p e s0 s m args below meth c T L Bs C X hh N).pre fun t q => X.aaload C.1 (j := j) (v := v) (by rw [hh]; exact A.1) (State.isArrayOf_alike C.2.2.2.2.1.alike A.2.1) hty A.2.2 hj hv (g := mkF m pc ls.toArray (.int j :: .ref a :: st)) rfl rfl (hb C.2.1 hd) _ q
theorem go_iastore {a : Addr} {cl : Cell} {j : Int32} {x : Int32} (D : Dc bytes pc .iastore 1 pc') (A : Arr Z h a cl .int) (hj : ¬ (j < 0 ∨ cl.slots.size ≤ j.toNatClampNeg)) (ha : n0 ≤ a) (G : ∀ h', Wr h h' a j.toNatClampNeg (.int x) → Go wd K₀ l Z R y bytes ml ret n0 kc ks Q h' k n pc' ls st) : Go wd K₀ l Z R y bytes ml ret n0 kc ks Q h k n pc ls (.int x :: .int j :: .ref a :: st) := by
  intro p e s0 s m args below meth c T L Bs C X hh N
  obtain ⟨hd, rfl⟩ := D
  obtain ⟨T', h', X', e', W', st'⟩ := stI X C.1 C.2.2.2.2.1 hh A hj (g := mkF m pc ls.toArray (.int x :: .int j :: .ref a :: st)) rfl rfl (hb C.2.1 hd)
  exact (G h' W' p e s0 s m args below meth c T' _ (Bs.mono (Nat.le_of_eq W'.size.symm)) C X' e' (Fr.snoc X' N ha)).pre st'
theorem go_lastore {a : Addr} {cl : Cell} {j : Int32} {x : Int64} (D : Dc bytes pc .lastore 1 pc') (A : Arr Z h a cl .long) (hj : ¬ (j < 0 ∨ cl.slots.size ≤ j.toNatClampNeg)) (ha : n0 ≤ a) (G : ∀ h', Wr h h' a j.toNatClampNeg (.long x) → Go wd K₀ l Z R y bytes ml ret n0 kc ks Q h' k n pc' ls st) : Go wd K₀ l Z R y bytes ml ret n0 kc ks Q h k n pc ls (.long x :: .int j :: .ref a :: st) := by
  intro p e s0 s m args below meth c T L Bs C X hh N
  obtain ⟨hd, rfl⟩ := D
  obtain ⟨T', h', X', e', W', st'⟩ := stJ X C.1 C.2.2.2.2.1 hh A hj (g := mkF m pc ls.toArray (.long x :: .int j :: .ref a :: st)) rfl rfl (hb C.2.1 hd)
  exact (G h' W' p e s0 s m args below meth c T' _ (Bs.mono (Nat.le_of_eq W'.size.symm)) C X' e' (Fr.snoc X' N ha)).pre st'
theorem go_castore {a : Addr} {cl : Cell} {j : Int32} {x : Int32} (D : Dc bytes pc .castore 1 pc') (A : Arr Z h a cl .char) (hj : ¬ (j < 0 ∨ cl.slots.size ≤ j.toNatClampNeg)) (ha : n0 ≤ a) (G : ∀ h', Wr h h' a j.toNatClampNeg (.int (nar .char x)) → Go wd K₀ l Z R y bytes ml ret n0 kc ks Q h' k n pc' ls st) : Go wd K₀ l Z R y bytes ml ret n0 kc ks Q h k n pc ls (.int x :: .int j :: .ref a :: st) := by
  intro p e s0 s m args below meth c T L Bs C X hh N
  obtain ⟨hd, rfl⟩ := D
  obtain ⟨T', h', X', e', W', st'⟩ := stC X C.1 C.2.2.2.2.1 hh A hj (g := mkF m pc ls.toArray (.int x :: .int j :: .ref a :: st)) rfl rfl (hb C.2.1 hd)
  exact (G h' W' p e s0 s m args below meth c T' _ (Bs.mono (Nat.le_of_eq W'.size.symm)) C X' e' (Fr.snoc X' N ha)).pre st'
theorem go_bastore {a : Addr} {cl : Cell} {j : Int32} {x : Int32} (D : Dc bytes pc .bastore 1 pc') (A : Arr Z h a cl .byte) (hj : ¬ (j < 0 ∨ cl.slots.size ≤ j.toNatClampNeg)) (ha : n0 ≤ a) (G : ∀ h', Wr h h' a j.toNatClampNeg (.int (nar .byte x)) → Go wd K₀ l Z R y bytes ml ret n0 kc ks Q h' k n pc' ls st) : Go wd K₀ l Z R y bytes ml ret n0 kc ks Q h k n pc ls (.int x :: .int j :: .ref a :: st) := by
  intro p e s0 s m args below meth c T L Bs C X hh N
  obtain ⟨hd, rfl⟩ := D
  obtain ⟨T', h', X', e', W', st'⟩ := stB X C.1 C.2.2.2.2.1 hh A hj (g := mkF m pc ls.toArray (.int x :: .int j :: .ref a :: st)) rfl rfl (hb C.2.1 hd)
  exact (G h' W' p e s0 s m args below meth c T' _ (Bs.mono (Nat.le_of_eq W'.size.symm)) C X' e' (Fr.snoc X' N ha)).pre st'
theorem go_zastore {a : Addr} {cl : Cell} {j : Int32} {x : Int32} (D : Dc bytes pc .bastore 1 pc') (A : Arr Z h a cl .boolean) (hj : ¬ (j < 0 ∨ cl.slots.size ≤ j.toNatClampNeg)) (ha : n0 ≤ a) (G : ∀ h', Wr h h' a j.toNatClampNeg (.int (nar .boolean x)) → Go wd K₀ l Z R y bytes ml ret n0 kc ks Q h' k n pc' ls st) : Go wd K₀ l Z R y bytes ml ret n0 kc ks Q h k n pc ls (.int x :: .int j :: .ref a :: st) := by
  intro p e s0 s m args below meth c T L Bs C X hh N
  obtain ⟨hd, rfl⟩ := D
  obtain ⟨T', h', X', e', W', st'⟩ := stZ X C.1 C.2.2.2.2.1 hh A hj (g := mkF m pc ls.toArray (.int x :: .int j :: .ref a :: st)) rfl rfl (hb C.2.1 hd)
  exact (G h' W' p e s0 s m args below meth c T' _ (Bs.mono (Nat.le_of_eq W'.size.symm)) C X' e' (Fr.snoc X' N ha)).pre st'
theorem go_aastore {a : Addr} {cl : Cell} {ty : FieldType} {j : Int32} {v : Value} (D : Dc bytes pc .aastore 1 pc') (A : Arr Z h a cl ty) (hj : ¬ (j < 0 ∨ cl.slots.size ≤ j.toNatClampNeg)) (hty : ty.isReference = true) (F : Sto Z h a v) (ha : n0 ≤ a) (G : ∀ h', Wr h h' a j.toNatClampNeg v → Go wd K₀ l Z R y bytes ml ret n0 kc ks Q h' k n pc' ls st) : Go wd K₀ l Z R y bytes ml ret n0 kc ks Q h k n pc ls (v :: .int j :: .ref a :: st) := by
  intro p e s0 s m args below meth c T L Bs C X hh N
  obtain ⟨hd, rfl⟩ := D
  obtain ⟨T', h', X', e', W', st'⟩ := stR X C.1 C.2.2.2.2.1 hh A hj hty F (g := mkF m pc ls.toArray (v :: .int j :: .ref a :: st)) rfl rfl (hb C.2.1 hd)
  exact (G h' W' p e s0 s m args below meth c T' _ (Bs.mono (Nat.le_of_eq W'.size.symm)) C X' e' (Fr.snoc X' N ha)).pre st'
end Walk
end Jvm.OwnGo
namespace Jvm.OwnGo
open Jvm Sem ClassFile Op Lib Jvm.Stand Jvm.Free Jvm.LawKit Jvm.RoadKit
/-! ## 3. the heap since the start, as a list of what lies where -/
abbrev FD := (String × String × String) × Value
abbrev Desc := (String × List FD) ⊕ (FieldType × String × List Value)
def slotF (Z : State) (f : FD) : Nat := Jvm.RoadKit.slotOf Z f.1.1 f.1.2.1 f.1.2.2
def Is (Z : State) (h : Heap) (a : Addr) : Desc → Prop
  | .inl (K, fs) => Exa Z h a K ∧ (fs.map (slotF Z)).Nodup ∧ ∀ f ∈ fs, Fld Z h a f.1.1 f.1.2.1 f.1.2.2 f.2
  | .inr (ty, ad, vs) => Exa Z h a ad ∧ ∃ c : Cell, Arr Z h a c ty ∧ c.slots = vs.toArray ∧ vs.length < 2 ^ 31 ∧ (∀ v ∈ vs, fits ty v = true) ∧ ∀ K, ty = .object K → Ovr Z c.cls K
def Hp (Z : State) (n0 : Nat) (h : Heap) (L : List (Addr × Desc)) : Prop := Old Z n0 h ∧ (L.map Prod.fst).Nodup ∧ ∀ x ∈ L, n0 ≤ x.1 ∧ Is Z h x.1 x.2
def LaysD (Z : State) (a0 : Array Value) (K : String) : List FD → Prop
  | [] => True
  | f :: r => (Laid Z a0 K f.1.1 f.1.2.1 f.1.2.2 ∧ ∃ t, parseFieldDescriptor f.1.2.2 = some t ∧ defaultValue t = f.2) ∧ LaysD Z a0 K r
def front {α : Type} (L : List α) (i : Nat) : List α := match L[i]? with | some x => x :: L.eraseIdx i | none => L
section Hp
variable {Z : State} {n0 : Nat} {h h' : Heap} {L : List (Addr × Desc)} {a b : Addr} {K ad O nm d : String} {fs : List FD} {vs : List Value} {ty : FieldType} {v old : Value} {i j sl : Nat} {a0 : Array Value}
theorem Is.ext {D : Desc} (E : Ext h h') (F : Is Z h a D) : Is Z h' a D := by
  rcases D with ⟨K, fs⟩ | ⟨ty, ad, vs⟩
  · obtain ⟨h1, h2, h3⟩ := F; exact ⟨h1.ext E, h2, fun f hf => (h3 f hf).ext E⟩
  · obtain ⟨h1, c, h2, r⟩ := F; exact ⟨h1.ext E, c, h2.ext E, r⟩
theorem Is.other {D : Desc} (W : Wr h h' b sl v) (ne : a ≠ b) (F : Is Z h a D) : Is Z h' a D := by
  rcases D with ⟨K, fs⟩ | ⟨ty, ad, vs⟩
  · obtain ⟨h1, h2, h3⟩ := F; exact ⟨h1.wr W, h2, fun f hf => (h3 f hf).other W (Or.inl ne)⟩
  · obtain ⟨h1, c, h2, r⟩ := F; exact ⟨h1.wr W, c, h2.other W ne, r⟩
theorem Is.exa {D : Desc} (F : Is Z h a D) : ∃ K, Exa Z h a K := by
  rcases D with ⟨K, fs⟩ | ⟨ty, ad, vs⟩
  · exact ⟨K, F.1⟩
  · exact ⟨ad, F.1⟩
theorem mem_upd {α : Type} {L : List α} {i : Nat} {x y : α} (hx : x ∈ lupd L i y) : x = y ∨ ∃ q, q ≠ i ∧ L[q]? = some x := by
  rw [upd_set] at hx
  obtain ⟨q, hq⟩ := List.mem_iff_getElem?.mp hx
  rw [List.getElem?_set] at hq
  split at hq
  · rename_i e
    split at hq
    · left; exact (Option.some.inj hq).symm
    · cases hq
  · rename_i e
    exact Or.inr ⟨q, fun u => e u.symm, hq⟩
theorem Hp.mem (hi : L[i]? = some (a, D)) : (a, D) ∈ L := List.mem_of_getElem? hi
theorem Hp.is {D : Desc} (P : Hp Z n0 h L) (hi : L[i]? = some (a, D)) : Is Z h a D := (P.2.2 _ (List.mem_of_getElem? hi)).2
theorem Hp.ge {D : Desc} (P : Hp Z n0 h L) (hi : L[i]? = some (a, D)) : n0 ≤ a := (P.2.2 _ (List.mem_of_getElem? hi)).1
theorem Hp.exa (P : Hp Z n0 h L) (hi : L[i]? = some (a, .inl (K, fs))) : Exa Z h a K := (P.is hi).1
theorem Hp.exaA (P : Hp Z n0 h L) (hi : L[i]? = some (a, .inr (ty, ad, vs))) : Exa Z h a ad := (P.is hi).1
theorem Hp.fld (P : Hp Z n0 h L) (hi : L[i]? = some (a, .inl (K, fs))) (hj : fs[j]? = some ((O, nm, d), v)) : Fld Z h a O nm d v := (P.is hi).2.2 _ (List.mem_of_getElem? hj)
theorem Hp.lt {D : Desc} (P : Hp Z n0 h L) (hx : (a, D) ∈ L) : a < h.size := by
  obtain ⟨K, E⟩ := (P.2.2 _ hx).2.exa; exact E.lt
theorem Hp.ne {D D' : Desc} (P : Hp Z n0 h L) (hi : L[i]? = some (a, D)) (hj : L[j]? = some (b, D')) (q : i ≠ j) : a ≠ b := fun e => q (by
  have hl : i < (L.map Prod.fst).length := by rw [List.length_map]; exact (List.getElem?_eq_some_iff.mp hi).1
  refine (List.getElem?_inj hl P.2.1).mp ?_
  rw [List.getElem?_map, List.getElem?_map, hi, hj]; simp [e])
theorem map_upd {α β : Type} {f : α → β} {L : List α} {i : Nat} {x y : α} (hi : L[i]? = some x) (e : f y = f x) : (lupd L i y).map f = L.map f := by
  rw [upd_set]
  apply List.ext_getElem?
  intro q
  rw [List.getElem?_map, List.getElem?_map, List.getElem?_set]
  split
  · rename_i u
    subst u
    obtain ⟨hl, -⟩ := List.getElem?_eq_some_iff.mp hi
    rw [if_pos hl, hi]; simp [e]
  · rfl
theorem Hp.wr {D D' : Desc} (P : Hp Z n0 h L) (hi : L[i]? = some (a, D)) (W : Wr h h' a sl v) (I : Is Z h' a D') : Hp Z n0 h' (lupd L i (a, D')) := by
  have ha := P.ge hi
  refine ⟨P.1.wr W ha, by rw [map_upd (f := Prod.fst) (y := (a, D')) hi rfl]; exact P.2.1, fun x hx => ?_⟩
  rcases mem_upd hx with rfl | ⟨q, hq, hx'⟩
  · exact ⟨ha, I⟩
  · obtain ⟨b, D2⟩ := x
    exact ⟨P.ge hx', (P.is hx').other W (P.ne hx' hi hq)⟩
theorem Hp.put (P : Hp Z n0 h L) (hi : L[i]? = some (a, .inl (K, fs))) (hj : fs[j]? = some ((O, nm, d), old)) (W : Wr h h' a (Jvm.RoadKit.slotOf Z O nm d) v) : Hp Z n0 h' (lupd L i (a, .inl (K, lupd fs j ((O, nm, d), v)))) := by
  obtain ⟨h1, h2, h3⟩ := P.is hi
  refine P.wr hi W ⟨h1.wr W, by rw [map_upd (f := slotF Z) (y := ((O, nm, d), v)) hj rfl]; exact h2, fun f hf => ?_⟩
  rcases mem_upd hf with rfl | ⟨q, hq, hf'⟩
  · exact (h3 _ (List.mem_of_getElem? hj)).same W
  · refine (h3 _ (List.mem_of_getElem? hf')).other W (Or.inr fun e => hq ?_)
    have hl : q < (fs.map (slotF Z)).length := by rw [List.length_map]; exact (List.getElem?_eq_some_iff.mp hf').1
    refine (List.getElem?_inj hl h2).mp ?_
    rw [List.getElem?_map, List.getElem?_map, hf', hj]; simp [slotF, e]
theorem Hp.aput (P : Hp Z n0 h L) (hi : L[i]? = some (a, .inr (ty, ad, vs))) (hv : fits ty v = true) (W : Wr h h' a j v) : Hp Z n0 h' (lupd L i (a, .inr (ty, ad, lupd vs j v))) := by
  obtain ⟨h1, c, h2, h3, h4, h5, h6⟩ := P.is hi
  refine P.wr hi W ⟨h1.wr W, c.setSlot j v, h2.same W, ?_, ?_, fun w hw => ?_, h6⟩
  · rw [upd_set]; show c.slots.setIfInBounds j v = _; rw [h3]; simp
  · rw [upd_set]; simpa using h4
  · rcases mem_upd hw with rfl | ⟨q, -, hq⟩
    · exact hv
    · exact h5 _ (List.mem_of_getElem? hq)
theorem Hp.grow {D : Desc} (P : Hp Z n0 h L) (E : Ext h h') (I : Is Z h' h.size D) : Hp Z n0 h' ((h.size, D) :: L) := by
  have hs : n0 ≤ h.size := by have := P.1.1; have := P.1.2.1; omega
  refine ⟨P.1.ext E, ?_, fun x hx => ?_⟩
  · rw [List.map_cons, List.nodup_cons]
    refine ⟨fun hm => ?_, P.2.1⟩
    obtain ⟨⟨b, D2⟩, hb, e⟩ := List.mem_map.mp hm
    have q := P.lt hb
    have e' : b = h.size := e
    rw [e'] at q
    exact Nat.lt_irrefl _ q
  · rcases List.mem_cons.mp hx with rfl | hx'
    · exact ⟨hs, I⟩
    · exact ⟨(P.2.2 _ hx').1, (P.2.2 _ hx').2.ext E⟩
theorem lays_mem : ∀ {fs : List FD}, LaysD Z a0 K fs → ∀ f ∈ fs, Laid Z a0 K f.1.1 f.1.2.1 f.1.2.2 ∧ ∃ t, parseFieldDescriptor f.1.2.2 = some t ∧ defaultValue t = f.2
  | [], _, _, hf => nomatch hf
  | _ :: _, H, f, hf => (List.mem_cons.mp hf).elim (fun e => e ▸ H.1) (lays_mem H.2 f)
theorem lays_nodup : ∀ {fs : List FD}, LaysD Z a0 K fs → (fs.map fun f => f.1.2.1).Nodup → (fs.map (slotF Z)).Nodup
  | [], _, _ => List.nodup_nil
  | f :: r, H, N => by
    rw [List.map_cons, List.nodup_cons] at N ⊢
    refine ⟨fun hm => ?_, lays_nodup H.2 N.2⟩
    obtain ⟨g, hg, e⟩ := List.mem_map.mp hm
    obtain ⟨Lg, t', ht', -⟩ := lays_mem H.2 g hg
    obtain ⟨Lf, t, ht, -⟩ := H.1
    exact slot_ne Lf Lg (fun q => N.1 (List.mem_map.mpr ⟨g, hg, q.symm⟩)) ht ht' e.symm
theorem Hp.new (P : Hp Z n0 h L) (E : Ext h h') (A : Exa Z h' h.size K) (F : ∀ {O nm d : String} {ty : FieldType}, Laid Z a0 K O nm d → parseFieldDescriptor d = some ty → Fld Z h' h.size O nm d (defaultValue ty)) (Ld : LaysD Z a0 K fs) (nd : (fs.map fun f => f.1.2.1).Nodup) : Hp Z n0 h' ((h.size, .inl (K, fs)) :: L) :=
  P.grow E ⟨A, lays_nodup Ld nd, fun f hf => by
    obtain ⟨Lf, t, ht, e⟩ := lays_mem Ld f hf
    rw [← e]; exact F Lf ht⟩
theorem Hp.newA {cA : ClassId} {z : Int32} (P : Hp Z n0 h L) (E : Ext h h') (A : Arr Z h' h.size (newA cA ty z) ty) (X : Exa Z h' h.size ad) (O : ∀ K, ty = .object K → Ovr Z cA K) (hvs : List.replicate z.toNatClampNeg (defaultValue ty) = vs) (hz : ¬ z < 0) : Hp Z n0 h' ((h.size, .inr (ty, ad, vs)) :: L) :=
  P.grow E ⟨X, _, A, by rw [← hvs]; simp [Jvm.RoadKit.newA], by rw [← hvs, List.length_replicate]; exact (back32 hz).2, fun w hw => by
    rw [← hvs] at hw; rw [List.eq_of_mem_replicate hw]; cases ty <;> rfl, O⟩
theorem Hp.perm {L' : List (Addr × Desc)} (P : Hp Z n0 h L) (q : L'.Perm L) : Hp Z n0 h L' := ⟨P.1, ((q.map Prod.fst).nodup_iff).mpr P.2.1, fun x hx => P.2.2 x (q.mem_iff.mp hx)⟩
theorem erase_perm {α : Type} : ∀ (L : List α) (i : Nat) (h : i < L.length), (L[i] :: L.eraseIdx i).Perm L
  | [], _, h => absurd h (Nat.not_lt_zero _)
  | _ :: _, 0, _ => List.Perm.refl _
  | a :: l, i + 1, h => by
    have hl : i < l.length := Nat.lt_of_succ_lt_succ h
    show (l[i] :: a :: l.eraseIdx i).Perm (a :: l)
    exact (List.Perm.swap _ _ _).trans ((erase_perm l i hl).cons a)
theorem front_perm {α : Type} (L : List α) (i : Nat) : (front L i).Perm L := by
  unfold front
  cases hx : L[i]? with
  | none => exact List.Perm.refl _
  | some x =>
    obtain ⟨hl, rfl⟩ := List.getElem?_eq_some_iff.mp hx
    exact erase_perm L i hl
theorem Hp.front (P : Hp Z n0 h L) (i : Nat) : Hp Z n0 h (front L i) := P.perm (front_perm L i)
theorem Hp.tail {x : Addr × Desc} (P : Hp Z n0 h (x :: L)) : Hp Z n0 h L := ⟨P.1, (List.nodup_cons.mp P.2.1).2, fun z hz => P.2.2 z (List.mem_cons_of_mem _ hz)⟩
theorem Hp.ext (P : Hp Z n0 h L) (E : Ext h h') : Hp Z n0 h' L := ⟨P.1.ext E, P.2.1, fun x hx => ⟨(P.2.2 _ hx).1, (P.2.2 _ hx).2.ext E⟩⟩
theorem Hp.nil (P : Hp Z n0 h L) : Hp Z n0 h [] := ⟨P.1, List.nodup_nil, fun z hz => nomatch hz⟩
theorem Hp.start (s : State) : Hp s s.heap.size s.heap [] := ⟨Old.start s, List.nodup_nil, fun z hz => nomatch hz⟩
theorem Hp.sto {y : Addr} {fs : List FD} (P : Hp Z n0 h L) (hi : L[i]? = some (a, .inr (.object K, ad, vs))) (hj : L[j]? = some (y, .inl (K, fs))) : Sto Z h a (.ref y) := by
  obtain ⟨-, c, h2, -, -, -, h6⟩ := P.is hi
  exact Sto.of h2 (h6 K rfl) (Ins.self (P.exa hj))
theorem Hp.stoI {y : Addr} (P : Hp Z n0 h L) (hi : L[i]? = some (a, .inr (.object K, ad, vs))) (I : Ins Z h y K true) : Sto Z h a (.ref y) := by
  obtain ⟨-, c, h2, -, -, -, h6⟩ := P.is hi
  exact Sto.of h2 (h6 K rfl) I
theorem inb {c : Cell} {j : Int32} (hc : c.slots = vs.toArray) (hj : ¬ j < 0) (hv : vs[j.toNatClampNeg]? = some v) : ¬ (j < 0 ∨ c.slots.size ≤ j.toNatClampNeg) := by
  have := (List.getElem?_eq_some_iff.mp hv).1
  rw [hc]; simp; exact ⟨by simpa using Int32.not_lt.mp hj, this⟩
theorem inb' {c : Cell} {j : Int32} (hc : c.slots = vs.toArray) (hj : ¬ j < 0) (hv : j.toNatClampNeg < vs.length) : ¬ (j < 0 ∨ c.slots.size ≤ j.toNatClampNeg) := by
  rw [hc]; simp; exact ⟨by simpa using Int32.not_lt.mp hj, hv⟩
end Hp
section WalkHp
variable {wd : Bool} {K₀ : State → Prop} {l : Launch} {Z : State} {R : Room} {y : MethodName} {bytes : ByteArray} {ml : Nat} {ret : Option FieldType} {n0 kc ks : Nat} {Q : Option Value → Heap → Prop} {h : Heap} {k n pc pc' tg : Nat} {ls : List Slot} {st : List Value} {a0 : Array Value} {L : List (Addr × Desc)} {i j : Nat} {K ad O nm d R0 host : String} {fs : List FD} {vs : List Value} {a : Addr} {ty : FieldType} {v old : Value}
theorem go_get {idx : Nat} (P : Hp Z n0 h L) (i j : Nat) (D : Dc bytes pc (.getfield idx) 3 pc') (hi : L[i]? = some (a, .inl (K, fs))) (hj : fs[j]? = some ((O, nm, d), v)) (w : (Cond.fieldLink y.cls idx O nm d).before a0 Z = true) (G : Go wd K₀ l Z R y bytes ml ret n0 kc ks Q h k n pc' ls (v :: st)) : Go wd K₀ l Z R y bytes ml ret n0 kc ks Q h k n pc ls (.ref a :: st) :=
  go_getF (host := "") D (Or.inl w) Via.refl (P.fld hi hj) G
theorem go_getN {idx : Nat} (P : Hp Z n0 h L) (i j : Nat) (D : Dc bytes pc (.getfield idx) 3 pc') (hi : L[i]? = some (a, .inl (K, fs))) (hj : fs[j]? = some ((O, nm, d), v)) (w : (Cond.fieldLinkNest y.cls idx O nm d host).before a0 Z = true) (G : Go wd K₀ l Z R y bytes ml ret n0 kc ks Q h k n pc' ls (v :: st)) : Go wd K₀ l Z R y bytes ml ret n0 kc ks Q h k n pc ls (.ref a :: st) :=
  go_getF (host := host) D (Or.inr w) Via.refl (P.fld hi hj) G
theorem go_put {idx kk : Nat} (P : Hp Z n0 h L) (i j : Nat) (ty : FieldType) (D : Dc bytes pc (.putfield idx) 3 pc') (hi : L[i]? = some (a, .inl (K, fs))) (hj : fs[j]? = some ((O, nm, d), old)) (w : (Cond.fieldLink y.cls idx O nm d).before a0 Z = true)
    (Lw : (Cond.lays K O nm d).before a0 Z = true ∨ ((Cond.laysFinal K O nm d).before a0 Z = true ∧ y.cls = O ∧ y.name = "<init>")) (wi : (Cond.instantiable K kk).before a0 Z = true) (hty : parseFieldDescriptor d = some ty) (hnr : narrow ty v = v) (hfi : fits ty v = true)
    (G : ∀ h', Hp Z n0 h' (lupd L i (a, .inl (K, lupd fs j ((O, nm, d), v)))) → Go wd K₀ l Z R y bytes ml ret n0 kc ks Q h' k n pc' ls st) : Go wd K₀ l Z R y bytes ml ret n0 kc ks Q h k n pc ls (v :: .ref a :: st) :=
  go_putF (host := "") D (Or.inl w) Via.refl (P.fld hi hj) (P.exa hi) Lw wi hty hnr hfi (P.ge hi) fun h' W => G h' (P.put hi hj W)
theorem go_new {idx sl : Nat} (P : Hp Z n0 h L) (fs : List FD) (D : Dc bytes pc (.new idx) 3 pc') (w : (Cond.classLink y.cls idx K).before a0 Z = true) (wi : (Cond.instantiable K sl).before a0 Z = true) (wz : (Cond.initialized K).before a0 Z = true) (Ld : LaysD Z a0 K fs) (nd : (fs.map fun f => f.1.2.1).Nodup) (hk : k + 1 ≤ R.cells) (hn : n + sl ≤ R.slots)
    (G : ∀ h' a, Hp Z n0 h' ((a, .inl (K, fs)) :: L) → Go wd K₀ l Z R y bytes ml ret n0 kc ks Q h' (k + 1) (n + sl) pc' ls (.ref a :: st)) : Go wd K₀ l Z R y bytes ml ret n0 kc ks Q h k n pc ls st :=
  go_newO D w wi wz hk hn fun h' E A F => G h' h.size (P.new E A F Ld nd)
theorem go_newarr {aty : ArrayType} {z : Int32} (P : Hp Z n0 h L) (ad : String) (vs : List Value) (cap : Nat) (D : Dc bytes pc (.newarray aty) 2 pc') (w : (Cond.arrayClass (newarray.typeOf aty)).before a0 Z = true) (hz : ¬ z < 0) (hcap : z.toNatClampNeg ≤ cap) (hb8 : cap * 8 ≤ 536870912) (had : "[" ++ (newarray.typeOf aty).toString = ad) (hty : newarray.typeOf aty = ty) (hvs : List.replicate z.toNatClampNeg (defaultValue ty) = vs) (hk : k + 1 ≤ R.cells) (hn : n + cap ≤ R.slots)
    (G : ∀ h' a, Hp Z n0 h' ((a, .inr (ty, ad, vs)) :: L) → Go wd K₀ l Z R y bytes ml ret n0 kc ks Q h' (k + 1) (n + cap) pc' ls (.ref a :: st)) : Go wd K₀ l Z R y bytes ml ret n0 kc ks Q h k n pc ls (.int z :: st) :=
  go_newP D w hz cap hcap hb8 hk hn had fun h' cA E A X => G h' h.size (P.newA E (hty ▸ A) X (fun K q => by subst hty; cases aty <;> cases q) hvs hz)
theorem go_newobjarr {idx : Nat} {z : Int32} (P : Hp Z n0 h L) (ad : String) (vs : List Value) (cap : Nat) (D : Dc bytes pc (.anewarray idx) 3 pc') (w1 : (Cond.classLink y.cls idx K).before a0 Z = true) (w2 : (Cond.arrayOver (.object K)).before a0 Z = true) (hz : ¬ z < 0) (hcap : z.toNatClampNeg ≤ cap) (hb8 : cap * 8 ≤ 536870912) (had : "[" ++ (FieldType.object K).toString = ad) (hvs : List.replicate z.toNatClampNeg Value.null = vs) (hk : k + 1 ≤ R.cells) (hn : n + cap ≤ R.slots)
    (G : ∀ h' a, Hp Z n0 h' ((a, .inr (.object K, ad, vs)) :: L) → Go wd K₀ l Z R y bytes ml ret n0 kc ks Q h' (k + 1) (n + cap) pc' ls (.ref a :: st)) : Go wd K₀ l Z R y bytes ml ret n0 kc ks Q h k n pc ls (.int z :: st) :=
  go_newR D w1 w2 hz cap hcap hb8 hk hn had fun h' cA E A X O => G h' h.size (P.newA E A X (fun K' q => by cases q; exact O) hvs hz)
theorem go_alen {z : Int32} (P : Hp Z n0 h L) (i : Nat) (D : Dc bytes pc .arraylength 1 pc') (hi : L[i]? = some (a, .inr (ty, ad, vs))) (hz : vs.length.toInt32 = z) (G : Go wd K₀ l Z R y bytes ml ret n0 kc ks Q h k n pc' ls (.int z :: st)) : Go wd K₀ l Z R y bytes ml ret n0 kc ks Q h k n pc ls (.ref a :: st) := by
  obtain ⟨-, c, h2, h3, -⟩ := P.is hi
  exact go_len D h2 (by rw [h3]; simpa using hz) G
theorem go_ialoadH {q : Int32} (P : Hp Z n0 h L) (i : Nat) (D : Dc bytes pc .iaload 1 pc') (hi : L[i]? = some (a, .inr (.int, ad, vs))) (hq : ¬ q < 0) (hv : vs[q.toNatClampNeg]? = some v) (G : Go wd K₀ l Z R y bytes ml ret n0 kc ks Q h k n pc' ls (v :: st)) : Go wd K₀ l Z R y bytes ml ret n0 kc ks Q h k n pc ls (.int q :: .ref a :: st) := by
  obtain ⟨-, c, h2, h3, -⟩ := P.is hi
  exact go_iaload D h2 (inb h3 hq hv) (by rw [h3]; simpa using hv) G
theorem go_caloadH {q : Int32} (P : Hp Z n0 h L) (i : Nat) (D : Dc bytes pc .caload 1 pc') (hi : L[i]? = some (a, .inr (.char, ad, vs))) (hq : ¬ q < 0) (hv : vs[q.toNatClampNeg]? = some v) (G : Go wd K₀ l Z R y bytes ml ret n0 kc ks Q h k n pc' ls (v :: st)) : Go wd K₀ l Z R y bytes ml ret n0 kc ks Q h k n pc ls (.int q :: .ref a :: st) := by
  obtain ⟨-, c, h2, h3, -⟩ := P.is hi
  exact go_caload D h2 (inb h3 hq hv) (by rw [h3]; simpa using hv) G
theorem go_baloadH {q : Int32} (P : Hp Z n0 h L) (i : Nat) (D : Dc bytes pc .baload 1 pc') (hi : L[i]? = some (a, .inr (.byte, ad, vs))) (hq : ¬ q < 0) (hv : vs[q.toNatClampNeg]? = some v) (G : Go wd K₀ l Z R y bytes ml ret n0 kc ks Q h k n pc' ls (v :: st)) : Go wd K₀ l Z R y bytes ml ret n0 kc ks Q h k n pc ls (.int q :: .ref a :: st) := by
  obtain ⟨-, c, h2, h3, -⟩ := P.is hi
  exact go_baload D h2 (inb h3 hq hv) (by rw [h3]; simpa using hv) G
theorem go_laloadH {q : Int32} (P : Hp Z n0 h L) (i : Nat) (D : Dc bytes pc .laload 1 pc') (hi : L[i]? = some (a, .inr (.long, ad, vs))) (hq : ¬ q < 0) (hv : vs[q.toNatClampNeg]? = some v) (G : Go wd K₀ l Z R y bytes ml ret n0 kc ks Q h k n pc' ls (v :: st)) : Go wd K₀ l Z R y bytes ml ret n0 kc ks Q h k n pc ls (.int q :: .ref a :: st) := by
  obtain ⟨-, c, h2, h3, -⟩ := P.is hi
  exact go_laload D h2 (inb h3 hq hv) (by rw [h3]; simpa using hv) G
theorem go_aaloadH {q : Int32} (P : Hp Z n0 h L) (i : Nat) (D : Dc bytes pc .aaload 1 pc') (hi : L[i]? = some (a, .inr (ty, ad, vs))) (hty : ty.isReference = true) (hq : ¬ q < 0) (hv : vs[q.toNatClampNeg]? = some v) (G : Go wd K₀ l Z R y bytes ml ret n0 kc ks Q h k n pc' ls (v :: st)) : Go wd K₀ l Z R y bytes ml ret n0 kc ks Q h k n pc ls (.int q :: .ref a :: st) := by
  obtain ⟨-, c, h2, h3, -⟩ := P.is hi
  exact go_aaload D h2 hty (inb h3 hq hv) (by rw [h3]; simpa using hv) G
theorem go_iastoreH {q : Int32} {x : Int32} (P : Hp Z n0 h L) (i : Nat) (D : Dc bytes pc .iastore 1 pc') (hi : L[i]? = some (a, .inr (.int, ad, vs))) (hq : ¬ q < 0) (hv : q.toNatClampNeg < vs.length) (G : ∀ h', Hp Z n0 h' (lupd L i (a, .inr (.int, ad, lupd vs q.toNatClampNeg (.int x)))) → Go wd K₀ l Z R y bytes ml ret n0 kc ks Q h' k n pc' ls st) : Go wd K₀ l Z R y bytes ml ret n0 kc ks Q h k n pc ls (.int x :: .int q :: .ref a :: st) := by
  obtain ⟨-, c, h2, h3, -⟩ := P.is hi
  exact go_iastore D h2 (inb' h3 hq hv) (P.ge hi) fun h' W => G h' (P.aput hi rfl W)
theorem go_lastoreH {q : Int32} {x : Int64} (P : Hp Z n0 h L) (i : Nat) (D : Dc bytes pc .lastore 1 pc') (hi : L[i]? = some (a, .inr (.long, ad, vs))) (hq : ¬ q < 0) (hv : q.toNatClampNeg < vs.length) (G : ∀ h', Hp Z n0 h' (lupd L i (a, .inr (.long, ad, lupd vs q.toNatClampNeg (.long x)))) → Go wd K₀ l Z R y bytes ml ret n0 kc ks Q h' k n pc' ls st) : Go wd K₀ l Z R y bytes ml ret n0 kc ks Q h k n pc ls (.long x :: .int q :: .ref a :: st) := by
  obtain ⟨-, c, h2, h3, -⟩ := P.is hi
  exact go_lastore D h2 (inb' h3 hq hv) (P.ge hi) fun h' W => G h' (P.aput hi rfl W)
theorem go_castoreH {q : Int32} {x : Int32} (P : Hp Z n0 h L) (i : Nat) (D : Dc bytes pc .castore 1 pc') (hi : L[i]? = some (a, .inr (.char, ad, vs))) (hq : ¬ q < 0) (hv : q.toNatClampNeg < vs.length) (G : ∀ h', Hp Z n0 h' (lupd L i (a, .inr (.char, ad, lupd vs q.toNatClampNeg (.int (nar .char x))))) → Go wd K₀ l Z R y bytes ml ret n0 kc ks Q h' k n pc' ls st) : Go wd K₀ l Z R y bytes ml ret n0 kc ks Q h k n pc ls (.int x :: .int q :: .ref a :: st) := by
  obtain ⟨-, c, h2, h3, -⟩ := P.is hi
  exact go_castore D h2 (inb' h3 hq hv) (P.ge hi) fun h' W => G h' (P.aput hi (fits_nar_char x) W)
theorem go_bastoreH {q : Int32} {x : Int32} (P : Hp Z n0 h L) (i : Nat) (D : Dc bytes pc .bastore 1 pc') (hi : L[i]? = some (a, .inr (.byte, ad, vs))) (hq : ¬ q < 0) (hv : q.toNatClampNeg < vs.length) (G : ∀ h', Hp Z n0 h' (lupd L i (a, .inr (.byte, ad, lupd vs q.toNatClampNeg (.int (nar .byte x))))) → Go wd K₀ l Z R y bytes ml ret n0 kc ks Q h' k n pc' ls st) : Go wd K₀ l Z R y bytes ml ret n0 kc ks Q h k n pc ls (.int x :: .int q :: .ref a :: st) := by
  obtain ⟨-, c, h2, h3, -⟩ := P.is hi
  exact go_bastore D h2 (inb' h3 hq hv) (P.ge hi) fun h' W => G h' (P.aput hi (fits_nar_byte x) W)
theorem go_zastoreH {q : Int32} {x : Int32} (P : Hp Z n0 h L) (i : Nat) (D : Dc bytes pc .bastore 1 pc') (hi : L[i]? = some (a, .inr (.boolean, ad, vs))) (hq : ¬ q < 0) (hv : q.toNatClampNeg < vs.length) (G : ∀ h', Hp Z n0 h' (lupd L i (a, .inr (.boolean, ad, lupd vs q.toNatClampNeg (.int (nar .boolean x))))) → Go wd K₀ l Z R y bytes ml ret n0 kc ks Q h' k n pc' ls st) : Go wd K₀ l Z R y bytes ml ret n0 kc ks Q h k n pc ls (.int x :: .int q :: .ref a :: st) := by
  obtain ⟨-, c, h2, h3, -⟩ := P.is hi
  exact go_zastore D h2 (inb' h3 hq hv) (P.ge hi) fun h' W => G h' (P.aput hi (fits_nar_bool x) W)
theorem go_clone {idx W : Nat} (P : Hp Z n0 h L) (i : Nat) (cap : Nat) (D : Dc bytes pc (.invokevirtual idx) 3 pc') (hi : L[i]? = some (a, .inr (ty, ad, vs)))
    (w1 : (Cond.methodLink y.cls idx ⟨ad, "clone", "()Ljava/lang/Object;"⟩).before a0 Z = true) (w2 : (Cond.sameMethod ad "java/lang/Object" "clone" "()Ljava/lang/Object;").before a0 Z = true) (w3 : (Cond.native ⟨"java/lang/Object", "clone", "()Ljava/lang/Object;"⟩).before a0 Z = true)
    (w4 : (Cond.instanceMethod ⟨"java/lang/Object", "clone", "()Ljava/lang/Object;"⟩).before a0 Z = true) (w5 : (Cond.selects ad ⟨ad, "clone", "()Ljava/lang/Object;"⟩ ⟨"java/lang/Object", "clone", "()Ljava/lang/Object;"⟩).before a0 Z = true) (w6 : (Cond.castable ad "java/lang/Cloneable").before a0 Z = true)
    (hlen : vs.length ≤ cap) (hls : ls.length = ml) (hf : 1 ≤ R.frames) (hW : (st.map fun v => v.category).sum = W) (hlo : W + 14 ≤ R.locals) (hk : k + 1 ≤ R.cells) (hn : n + cap ≤ R.slots)
    (G : ∀ h' b, Hp Z n0 h' ((b, .inr (ty, ad, vs)) :: L) → Go wd K₀ l Z R y bytes ml ret n0 kc ks Q h' (k + 1) (n + cap) pc' ls (.ref b :: st)) : Go wd K₀ l Z R y bytes ml ret n0 kc ks Q h k n pc ls (.ref a :: st) := by
  obtain ⟨E, cl, A, hs, hl31, hfit, hov⟩ := P.is hi
  intro p e s0 s m args below meth c T L' Bs C X hh N
  obtain ⟨hd, rfl⟩ := D
  have FC : FitC Z cl := fitC_of A fun q hq v hv => hfit v (by rw [hs] at hv; exact List.mem_of_getElem? (by simpa using hv))
  obtain ⟨T', h', X', e', ex, A', E', st'⟩ := cloneA X C.1 C.2.2.2.2.1 C.2.2.2.1 w1 w2 w3 w4 w5 w6 hh A E FC (g := mkF m pc ls.toArray (.ref a :: st)) rfl (by rw [C.2.2.1]; simpa using hls) rfl (hb C.2.1 hd) hf (W := W) (cap := cap) (by show 2 * 0 + _ ≤ W; rw [← hW]; omega) hlo (by rw [hs]; simpa using hlen) hk hn
  exact (G h' h.size (P.grow ex ⟨E', cloneOf cl, A', hs, hl31, hfit, hov⟩) p e s0 s m args below meth c T' L' (Bs.mono ex.1) C X' e' N).pre st'
def Dts (bytes : ByteArray) (pc : Nat) (x : Int32) (tg : Nat) : Prop := ∃ (d lo hi : Int) (offs : Array Int) (len : Nat) (o : Int), decode bytes pc = .ok (.tableswitch d lo hi offs, len) ∧ ¬ (x.toInt < lo ∨ x.toInt > hi) ∧ offs[(x.toInt - lo).toNat]? = some o ∧ 0 ≤ (pc : Int) + o ∧ ((pc : Int) + o).toNat = tg
def Dlk (bytes : ByteArray) (pc : Nat) (x : Int32) (tg : Nat) : Prop := ∃ (d : Int) (prs : Array (Int × Int)) (len : Nat), decode bytes pc = .ok (.lookupswitch d prs, len) ∧ (prs.toList.zip (prs.toList.drop 1)).all (fun (a, next) => a.1 < next.1) = true ∧ 0 ≤ (pc : Int) + lookupswitch.offset prs.toList d x.toInt ∧ ((pc : Int) + lookupswitch.offset prs.toList d x.toInt).toNat = tg
theorem lswX {tb : Tables} [Ours tb] {e : Env} {below : List Frame} {T target : State} {m : MethodId} {c : Code} {g : JFrame} (h : At T m c below) (hx : tb.exec = Jvm.exec) (hg : g.method = m) {d : Int} {prs : Array (Int × Int)} {len : Nat} {pc0 pc' : Nat} (hpc : g.pc = pc0) (hd : decode c.code g.pc = .ok (.lookupswitch d prs, len)) {i : Int32} {rest : List Value} (hs : g.stack = .int i :: rest)
    (hor : (prs.toList.zip (prs.toList.drop 1)).all (fun (a, next) => a.1 < next.1) = true) (ho : 0 ≤ (pc0 : Int) + lookupswitch.offset prs.toList d i.toInt) (hp : ((pc0 : Int) + lookupswitch.offset prs.toList d i.toInt).toNat = pc')
    (hr : Steps tb e below (T.setTop { g with pc := pc', stack := rest }) target) : Steps tb e below (T.setTop g) target := by
  subst hg hpc hp
  jvm_step h [h.top, hx, hd, hs, hor, ho, lookupswitch.wp_chain]
  exact ⟨by simpa using hor, hr⟩
theorem go_tsw {x : Int32} (D : Dts bytes pc x tg) (G : Go wd K₀ l Z R y bytes ml ret n0 kc ks Q h k n tg ls st) : Go wd K₀ l Z R y bytes ml ret n0 kc ks Q h k n pc ls (.int x :: st) := by
  obtain ⟨d, lo, hi, offs, len, o, hd, h1, h2, h3, h4⟩ := D
  exact go_pure G (fun C X t => XS.tswIn X.here C.1 (g := mkF _ pc ls.toArray (.int x :: st)) rfl (pc0 := pc) rfl (hb C.2.1 hd) rfl h1 h2 h3 h4)
theorem go_lsw {x : Int32} (D : Dlk bytes pc x tg) (G : Go wd K₀ l Z R y bytes ml ret n0 kc ks Q h k n tg ls st) : Go wd K₀ l Z R y bytes ml ret n0 kc ks Q h k n pc ls (.int x :: st) := by
  obtain ⟨d, prs, len, hd, h1, h3, h4⟩ := D
  exact go_pure G (fun C X t => lswX X.here C.1 (g := mkF _ pc ls.toArray (.int x :: st)) rfl (pc0 := pc) rfl (hb C.2.1 hd) rfl h1 h3 h4)
theorem Hp.insA {i : Nat} (P : Hp Z n0 h L) (hi : L[i]? = some (a, .inr (ty, ad, vs))) : Ins Z h a ad true := Ins.self (P.exaA hi)
theorem go_aastoreH {q : Int32} (P : Hp Z n0 h L) (i : Nat) (D : Dc bytes pc .aastore 1 pc') (hi : L[i]? = some (a, .inr (ty, ad, vs))) (hty : ty.isReference = true) (hf : fits ty v = true) (hq : ¬ q < 0) (hv : q.toNatClampNeg < vs.length) (F : Sto Z h a v) (G : ∀ h', Hp Z n0 h' (lupd L i (a, .inr (ty, ad, lupd vs q.toNatClampNeg v))) → Go wd K₀ l Z R y bytes ml ret n0 kc ks Q h' k n pc' ls st) : Go wd K₀ l Z R y bytes ml ret n0 kc ks Q h k n pc ls (v :: .int q :: .ref a :: st) := by
  obtain ⟨-, c, h2, h3, -⟩ := P.is hi
  exact go_aastore D h2 (inb' h3 hq hv) hty F (P.ge hi) fun h' W => G h' (P.aput hi hf W)
end WalkHp
end Jvm.OwnGo
namespace Jvm.Pilot.@@N@@
open Jvm Jvm.ClassFile Sem Op Lib Jvm.Free Jvm.Stand Jvm.LawKit Jvm.RoadKit Bundle Jvm.OwnGo Jvm.Pilot.@@N@@.Jvm.D
theorem t0 {Z : State} {a0 : Array Value} (hw : ∀ d ∈ tables_1, d.before a0 Z = true) : (Jvm.Cond.constant "com/example/satisfy/satisfy/reasoner/TrailTruncatePinLaw" (7 : Nat) (2147483647 : Int32)).before a0 Z = true := hw _ (List.mem_of_getElem? (i := 0) rfl)
theorem t1 {Z : State} {a0 : Array Value} (hw : ∀ d ∈ tables_1, d.before a0 Z = true) : (Jvm.Cond.constant "com/example/satisfy/satisfy/reasoner/TrailTruncatePinLaw" (8 : Nat) (1073741823 : Int32)).before a0 Z = true := hw _ (List.mem_of_getElem? (i := 1) rfl)
theorem t2 {Z : State} {a0 : Array Value} (hw : ∀ d ∈ tables_1, d.before a0 Z = true) : (Jvm.Cond.constant "com/example/satisfy/satisfy/reasoner/TrailTruncatePinLaw" (9 : Nat) (268435455 : Int32)).before a0 Z = true := hw _ (List.mem_of_getElem? (i := 2) rfl)
theorem t3 {Z : State} {a0 : Array Value} (hw : ∀ d ∈ tables_1, d.before a0 Z = true) : (Jvm.Cond.fieldLink "com/example/satisfy/satisfy/reasoner/TrailTruncatePinLaw" (10 : Nat) "com/example/satisfy/satisfy/reasoner/Reason" "NONE" "Lcom/example/satisfy/satisfy/reasoner/Reason;").before a0 Z = true := hw _ (List.mem_of_getElem? (i := 3) rfl)
theorem t4 {Z : State} {a0 : Array Value} (hw : ∀ d ∈ tables_1, d.before a0 Z = true) : (Jvm.Cond.initialized "com/example/satisfy/satisfy/reasoner/Reason").before a0 Z = true := hw _ (List.mem_of_getElem? (i := 4) rfl)
theorem t5 {Z : State} {a0 : Array Value} (hw : ∀ d ∈ tables_1, d.before a0 Z = true) : (Jvm.Cond.laysStatic "com/example/satisfy/satisfy/reasoner/Reason" "NONE" "Lcom/example/satisfy/satisfy/reasoner/Reason;").before a0 Z = true := hw _ (List.mem_of_getElem? (i := 5) rfl)
theorem t6 {Z : State} {a0 : Array Value} (hw : ∀ d ∈ tables_1, d.before a0 Z = true) : (Jvm.Cond.classLink "com/example/satisfy/satisfy/reasoner/TrailTruncatePinLaw" (16 : Nat) "com/example/satisfy/satisfy/reasoner/Trail").before a0 Z = true := hw _ (List.mem_of_getElem? (i := 6) rfl)
theorem t7 {Z : State} {a0 : Array Value} (hw : ∀ d ∈ tables_1, d.before a0 Z = true) : (Jvm.Cond.instantiable "com/example/satisfy/satisfy/reasoner/Trail" (4 : Nat)).before a0 Z = true := hw _ (List.mem_of_getElem? (i := 7) rfl)
theorem t8 {Z : State} {a0 : Array Value} (hw : ∀ d ∈ tables_1, d.before a0 Z = true) : (Jvm.Cond.initialized "com/example/satisfy/satisfy/reasoner/Trail").before a0 Z = true := hw _ (List.mem_of_getElem? (i := 8) rfl)
theorem t9 {Z : State} {a0 : Array Value} (hw : ∀ d ∈ tables_1, d.before a0 Z = true) : (Jvm.Cond.methodLink "com/example/satisfy/satisfy/reasoner/TrailTruncatePinLaw" (18 : Nat) ({ cls := "com/example/satisfy/satisfy/reasoner/Trail", name := "<init>", desc := "()V" } : Jvm.MethodName)).before a0 Z = true := hw _ (List.mem_of_getElem? (i := 9) rfl)
theorem t10 {Z : State} {a0 : Array Value} (hw : ∀ d ∈ tables_1, d.before a0 Z = true) : (Jvm.Cond.instanceMethod ({ cls := "com/example/satisfy/satisfy/reasoner/Trail", name := "<init>", desc := "()V" } : Jvm.MethodName)).before a0 Z = true := hw _ (List.mem_of_getElem? (i := 10) rfl)
theorem t11 {Z : State} {a0 : Array Value} (hw : ∀ d ∈ tables_1, d.before a0 Z = true) : (Jvm.Cond.code ({ cls := "com/example/satisfy/satisfy/reasoner/Trail", name := "<init>", desc := "()V" } : Jvm.MethodName) prog_91_method_1_code (1 : Nat) (Option.none : Option Jvm.ClassFile.FieldType)).before a0 Z = true := hw _ (List.mem_of_getElem? (i := 11) rfl)
theorem t12 {Z : State} {a0 : Array Value} (hw : ∀ d ∈ tables_1, d.before a0 Z = true) : (Jvm.Cond.methodLink "com/example/satisfy/satisfy/reasoner/Trail" (1 : Nat) ({ cls := "java/lang/Object", name := "<init>", desc := "()V" } : Jvm.MethodName)).before a0 Z = true := hw _ (List.mem_of_getElem? (i := 12) rfl)
theorem t13 {Z : State} {a0 : Array Value} (hw : ∀ d ∈ tables_1, d.before a0 Z = true) : (Jvm.Cond.instanceMethod ({ cls := "java/lang/Object", name := "<init>", desc := "()V" } : Jvm.MethodName)).before a0 Z = true := hw _ (List.mem_of_getElem? (i := 13) rfl)
theorem t14 {Z : State} {a0 : Array Value} (hw : ∀ d ∈ tables_1, d.before a0 Z = true) : (Jvm.Cond.code ({ cls := "java/lang/Object", name := "<init>", desc := "()V" } : Jvm.MethodName) object_method_1_code (1 : Nat) (Option.none : Option Jvm.ClassFile.FieldType)).before a0 Z = true := hw _ (List.mem_of_getElem? (i := 14) rfl)
theorem t15 {Z : State} {a0 : Array Value} (hw : ∀ d ∈ tables_1, d.before a0 Z = true) : (Jvm.Cond.arrayClass Jvm.ClassFile.FieldType.int).before a0 Z = true := hw _ (List.mem_of_getElem? (i := 15) rfl)
theorem t16 {Z : State} {a0 : Array Value} (hw : ∀ d ∈ tables_1, d.before a0 Z = true) : (Jvm.Cond.fieldLink "com/example/satisfy/satisfy/reasoner/Trail" (7 : Nat) "com/example/satisfy/satisfy/reasoner/Trail" "concepts" "[I").before a0 Z = true := hw _ (List.mem_of_getElem? (i := 16) rfl)
theorem t17 {Z : State} {a0 : Array Value} (hw : ∀ d ∈ tables_1, d.before a0 Z = true) : (Jvm.Cond.lays "com/example/satisfy/satisfy/reasoner/Trail" "com/example/satisfy/satisfy/reasoner/Trail" "concepts" "[I").before a0 Z = true := hw _ (List.mem_of_getElem? (i := 17) rfl)
theorem t18 {Z : State} {a0 : Array Value} (hw : ∀ d ∈ tables_1, d.before a0 Z = true) : (Jvm.Cond.classLink "com/example/satisfy/satisfy/reasoner/Trail" (13 : Nat) "com/example/satisfy/satisfy/reasoner/Reason").before a0 Z = true := hw _ (List.mem_of_getElem? (i := 18) rfl)
theorem t19 {Z : State} {a0 : Array Value} (hw : ∀ d ∈ tables_1, d.before a0 Z = true) : (Jvm.Cond.arrayOver (Jvm.ClassFile.FieldType.object "com/example/satisfy/satisfy/reasoner/Reason")).before a0 Z = true := hw _ (List.mem_of_getElem? (i := 19) rfl)
theorem t20 {Z : State} {a0 : Array Value} (hw : ∀ d ∈ tables_1, d.before a0 Z = true) : (Jvm.Cond.fieldLink "com/example/satisfy/satisfy/reasoner/Trail" (15 : Nat) "com/example/satisfy/satisfy/reasoner/Trail" "reasons" "[Lcom/example/satisfy/satisfy/reasoner/Reason;").before a0 Z = true := hw _ (List.mem_of_getElem? (i := 20) rfl)
theorem t21 {Z : State} {a0 : Array Value} (hw : ∀ d ∈ tables_1, d.before a0 Z = true) : (Jvm.Cond.lays "com/example/satisfy/satisfy/reasoner/Trail" "com/example/satisfy/satisfy/reasoner/Trail" "reasons" "[Lcom/example/satisfy/satisfy/reasoner/Reason;").before a0 Z = true := hw _ (List.mem_of_getElem? (i := 21) rfl)
theorem t22 {Z : State} {a0 : Array Value} (hw : ∀ d ∈ tables_1, d.before a0 Z = true) : (Jvm.Cond.classLink "com/example/satisfy/satisfy/reasoner/Trail" (19 : Nat) "com/example/satisfy/satisfy/reasoner/IntMap").before a0 Z = true := hw _ (List.mem_of_getElem? (i := 22) rfl)
theorem t23 {Z : State} {a0 : Array Value} (hw : ∀ d ∈ tables_1, d.before a0 Z = true) : (Jvm.Cond.instantiable "com/example/satisfy/satisfy/reasoner/IntMap" (4 : Nat)).before a0 Z = true := hw _ (List.mem_of_getElem? (i := 23) rfl)
theorem t24 {Z : State} {a0 : Array Value} (hw : ∀ d ∈ tables_1, d.before a0 Z = true) : (Jvm.Cond.initialized "com/example/satisfy/satisfy/reasoner/IntMap").before a0 Z = true := hw _ (List.mem_of_getElem? (i := 24) rfl)
theorem t25 {Z : State} {a0 : Array Value} (hw : ∀ d ∈ tables_1, d.before a0 Z = true) : (Jvm.Cond.methodLink "com/example/satisfy/satisfy/reasoner/Trail" (21 : Nat) ({ cls := "com/example/satisfy/satisfy/reasoner/IntMap", name := "<init>", desc := "()V" } : Jvm.MethodName)).before a0 Z = true := hw _ (List.mem_of_getElem? (i := 25) rfl)
theorem t26 {Z : State} {a0 : Array Value} (hw : ∀ d ∈ tables_1, d.before a0 Z = true) : (Jvm.Cond.instanceMethod ({ cls := "com/example/satisfy/satisfy/reasoner/IntMap", name := "<init>", desc := "()V" } : Jvm.MethodName)).before a0 Z = true := hw _ (List.mem_of_getElem? (i := 26) rfl)
theorem t27 {Z : State} {a0 : Array Value} (hw : ∀ d ∈ tables_1, d.before a0 Z = true) : (Jvm.Cond.code ({ cls := "com/example/satisfy/satisfy/reasoner/IntMap", name := "<init>", desc := "()V" } : Jvm.MethodName) prog_57_method_1_code (1 : Nat) (Option.none : Option Jvm.ClassFile.FieldType)).before a0 Z = true := hw _ (List.mem_of_getElem? (i := 27) rfl)
theorem t28 {Z : State} {a0 : Array Value} (hw : ∀ d ∈ tables_1, d.before a0 Z = true) : (Jvm.Cond.methodLink "com/example/satisfy/satisfy/reasoner/IntMap" (1 : Nat) ({ cls := "java/lang/Object", name := "<init>", desc := "()V" } : Jvm.MethodName)).before a0 Z = true := hw _ (List.mem_of_getElem? (i := 28) rfl)
theorem t29 {Z : State} {a0 : Array Value} (hw : ∀ d ∈ tables_1, d.before a0 Z = true) : (Jvm.Cond.methodLink "com/example/satisfy/satisfy/reasoner/IntMap" (7 : Nat) ({ cls := "com/example/satisfy/satisfy/reasoner/IntMap", name := "allocate", desc := "(I)V" } : Jvm.MethodName)).before a0 Z = true := hw _ (List.mem_of_getElem? (i := 29) rfl)
theorem t30 {Z : State} {a0 : Array Value} (hw : ∀ d ∈ tables_1, d.before a0 Z = true) : (Jvm.Cond.instanceMethod ({ cls := "com/example/satisfy/satisfy/reasoner/IntMap", name := "allocate", desc := "(I)V" } : Jvm.MethodName)).before a0 Z = true := hw _ (List.mem_of_getElem? (i := 30) rfl)
theorem t31 {Z : State} {a0 : Array Value} (hw : ∀ d ∈ tables_1, d.before a0 Z = true) : (Jvm.Cond.privateMethod ({ cls := "com/example/satisfy/satisfy/reasoner/IntMap", name := "allocate", desc := "(I)V" } : Jvm.MethodName)).before a0 Z = true := hw _ (List.mem_of_getElem? (i := 31) rfl)
theorem t32 {Z : State} {a0 : Array Value} (hw : ∀ d ∈ tables_1, d.before a0 Z = true) : (Jvm.Cond.code ({ cls := "com/example/satisfy/satisfy/reasoner/IntMap", name := "allocate", desc := "(I)V" } : Jvm.MethodName) prog_57_method_8_code (2 : Nat) (Option.none : Option Jvm.ClassFile.FieldType)).before a0 Z = true := hw _ (List.mem_of_getElem? (i := 32) rfl)
theorem t33 {Z : State} {a0 : Array Value} (hw : ∀ d ∈ tables_1, d.before a0 Z = true) : (Jvm.Cond.fieldLink "com/example/satisfy/satisfy/reasoner/IntMap" (35 : Nat) "com/example/satisfy/satisfy/reasoner/IntMap" "bits" "I").before a0 Z = true := hw _ (List.mem_of_getElem? (i := 33) rfl)
theorem t34 {Z : State} {a0 : Array Value} (hw : ∀ d ∈ tables_1, d.before a0 Z = true) : (Jvm.Cond.lays "com/example/satisfy/satisfy/reasoner/IntMap" "com/example/satisfy/satisfy/reasoner/IntMap" "bits" "I").before a0 Z = true := hw _ (List.mem_of_getElem? (i := 34) rfl)
theorem t35 {Z : State} {a0 : Array Value} (hw : ∀ d ∈ tables_1, d.before a0 Z = true) : (Jvm.Cond.fieldLink "com/example/satisfy/satisfy/reasoner/IntMap" (17 : Nat) "com/example/satisfy/satisfy/reasoner/IntMap" "keys" "[I").before a0 Z = true := hw _ (List.mem_of_getElem? (i := 35) rfl)
theorem t36 {Z : State} {a0 : Array Value} (hw : ∀ d ∈ tables_1, d.before a0 Z = true) : (Jvm.Cond.lays "com/example/satisfy/satisfy/reasoner/IntMap" "com/example/satisfy/satisfy/reasoner/IntMap" "keys" "[I").before a0 Z = true := hw _ (List.mem_of_getElem? (i := 36) rfl)
theorem t37 {Z : State} {a0 : Array Value} (hw : ∀ d ∈ tables_1, d.before a0 Z = true) : (Jvm.Cond.methodLink "com/example/satisfy/satisfy/reasoner/IntMap" (38 : Nat) ({ cls := "java/util/Arrays", name := "fill", desc := "([II)V" } : Jvm.MethodName)).before a0 Z = true := hw _ (List.mem_of_getElem? (i := 37) rfl)
theorem t38 {Z : State} {a0 : Array Value} (hw : ∀ d ∈ tables_1, d.before a0 Z = true) : (Jvm.Cond.static ({ cls := "java/util/Arrays", name := "fill", desc := "([II)V" } : Jvm.MethodName)).before a0 Z = true := hw _ (List.mem_of_getElem? (i := 38) rfl)
theorem t39 {Z : State} {a0 : Array Value} (hw : ∀ d ∈ tables_1, d.before a0 Z = true) : (Jvm.Cond.initialized "java/util/Arrays").before a0 Z = true := hw _ (List.mem_of_getElem? (i := 39) rfl)
theorem t40 {Z : State} {a0 : Array Value} (hw : ∀ d ∈ tables_1, d.before a0 Z = true) : (Jvm.Cond.code ({ cls := "java/util/Arrays", name := "fill", desc := "([II)V" } : Jvm.MethodName) jdk_65_method_103_code (4 : Nat) (Option.none : Option Jvm.ClassFile.FieldType)).before a0 Z = true := hw _ (List.mem_of_getElem? (i := 40) rfl)
theorem t41 {Z : State} {a0 : Array Value} (hw : ∀ d ∈ tables_1, d.before a0 Z = true) : (Jvm.Cond.fieldLink "com/example/satisfy/satisfy/reasoner/IntMap" (21 : Nat) "com/example/satisfy/satisfy/reasoner/IntMap" "values" "[I").before a0 Z = true := hw _ (List.mem_of_getElem? (i := 41) rfl)
theorem t42 {Z : State} {a0 : Array Value} (hw : ∀ d ∈ tables_1, d.before a0 Z = true) : (Jvm.Cond.lays "com/example/satisfy/satisfy/reasoner/IntMap" "com/example/satisfy/satisfy/reasoner/IntMap" "values" "[I").before a0 Z = true := hw _ (List.mem_of_getElem? (i := 42) rfl)
theorem t43 {Z : State} {a0 : Array Value} (hw : ∀ d ∈ tables_1, d.before a0 Z = true) : (Jvm.Cond.fieldLink "com/example/satisfy/satisfy/reasoner/Trail" (22 : Nat) "com/example/satisfy/satisfy/reasoner/Trail" "positions" "Lcom/example/satisfy/satisfy/reasoner/IntMap;").before a0 Z = true := hw _ (List.mem_of_getElem? (i := 43) rfl)
theorem t44 {Z : State} {a0 : Array Value} (hw : ∀ d ∈ tables_1, d.before a0 Z = true) : (Jvm.Cond.laysFinal "com/example/satisfy/satisfy/reasoner/Trail" "com/example/satisfy/satisfy/reasoner/Trail" "positions" "Lcom/example/satisfy/satisfy/reasoner/IntMap;").before a0 Z = true := hw _ (List.mem_of_getElem? (i := 44) rfl)
theorem t45 {Z : State} {a0 : Array Value} (hw : ∀ d ∈ tables_1, d.before a0 Z = true) : (Jvm.Cond.methodLink "com/example/satisfy/satisfy/reasoner/TrailTruncatePinLaw" (23 : Nat) ({ cls := "com/example/satisfy/satisfy/reasoner/Trail", name := "truncate", desc := "(I)V" } : Jvm.MethodName)).before a0 Z = true := hw _ (List.mem_of_getElem? (i := 45) rfl)
theorem t46 {Z : State} {a0 : Array Value} (hw : ∀ d ∈ tables_1, d.before a0 Z = true) : (Jvm.Cond.declares ({ cls := "com/example/satisfy/satisfy/reasoner/Trail", name := "truncate", desc := "(I)V" } : Jvm.MethodName)).before a0 Z = true := hw _ (List.mem_of_getElem? (i := 46) rfl)
theorem t47 {Z : State} {a0 : Array Value} (hw : ∀ d ∈ tables_1, d.before a0 Z = true) : (Jvm.Cond.instanceMethod ({ cls := "com/example/satisfy/satisfy/reasoner/Trail", name := "truncate", desc := "(I)V" } : Jvm.MethodName)).before a0 Z = true := hw _ (List.mem_of_getElem? (i := 47) rfl)
theorem t48 {Z : State} {a0 : Array Value} (hw : ∀ d ∈ tables_1, d.before a0 Z = true) : (Jvm.Cond.selects "com/example/satisfy/satisfy/reasoner/Trail" ({ cls := "com/example/satisfy/satisfy/reasoner/Trail", name := "truncate", desc := "(I)V" } : Jvm.MethodName) ({ cls := "com/example/satisfy/satisfy/reasoner/Trail", name := "truncate", desc := "(I)V" } : Jvm.MethodName)).before a0 Z = true := hw _ (List.mem_of_getElem? (i := 48) rfl)
theorem t49 {Z : State} {a0 : Array Value} (hw : ∀ d ∈ tables_1, d.before a0 Z = true) : (Jvm.Cond.code ({ cls := "com/example/satisfy/satisfy/reasoner/Trail", name := "truncate", desc := "(I)V" } : Jvm.MethodName) prog_91_method_8_code (2 : Nat) (Option.none : Option Jvm.ClassFile.FieldType)).before a0 Z = true := hw _ (List.mem_of_getElem? (i := 49) rfl)
theorem t50 {Z : State} {a0 : Array Value} (hw : ∀ d ∈ tables_1, d.before a0 Z = true) : (Jvm.Cond.fieldLink "com/example/satisfy/satisfy/reasoner/Trail" (26 : Nat) "com/example/satisfy/satisfy/reasoner/Trail" "size" "I").before a0 Z = true := hw _ (List.mem_of_getElem? (i := 50) rfl)
theorem t51 {Z : State} {a0 : Array Value} (hw : ∀ d ∈ tables_1, d.before a0 Z = true) : (Jvm.Cond.lays "com/example/satisfy/satisfy/reasoner/Trail" "com/example/satisfy/satisfy/reasoner/Trail" "size" "I").before a0 Z = true := hw _ (List.mem_of_getElem? (i := 51) rfl)
theorem t52 {Z : State} {a0 : Array Value} (hw : ∀ d ∈ tables_1, d.before a0 Z = true) : (Jvm.Cond.methodLink "com/example/satisfy/satisfy/reasoner/TrailTruncatePinLaw" (27 : Nat) ({ cls := "java/lang/Math", name := "min", desc := "(II)I" } : Jvm.MethodName)).before a0 Z = true := hw _ (List.mem_of_getElem? (i := 52) rfl)
theorem t53 {Z : State} {a0 : Array Value} (hw : ∀ d ∈ tables_1, d.before a0 Z = true) : (Jvm.Cond.static ({ cls := "java/lang/Math", name := "min", desc := "(II)I" } : Jvm.MethodName)).before a0 Z = true := hw _ (List.mem_of_getElem? (i := 53) rfl)
theorem t54 {Z : State} {a0 : Array Value} (hw : ∀ d ∈ tables_1, d.before a0 Z = true) : (Jvm.Cond.initialized "java/lang/Math").before a0 Z = true := hw _ (List.mem_of_getElem? (i := 54) rfl)
theorem t55 {Z : State} {a0 : Array Value} (hw : ∀ d ∈ tables_1, d.before a0 Z = true) : (Jvm.Cond.code ({ cls := "java/lang/Math", name := "min", desc := "(II)I" } : Jvm.MethodName) jdk_29_method_69_code (2 : Nat) (Option.some Jvm.ClassFile.FieldType.int)).before a0 Z = true := hw _ (List.mem_of_getElem? (i := 55) rfl)
theorem t56 {Z : State} {a0 : Array Value} (hw : ∀ d ∈ tables_1, d.before a0 Z = true) : (Jvm.Cond.methodLink "com/example/satisfy/satisfy/reasoner/TrailTruncatePinLaw" (33 : Nat) ({ cls := "com/example/satisfy/satisfy/reasoner/Trail", name := "size", desc := "()I" } : Jvm.MethodName)).before a0 Z = true := hw _ (List.mem_of_getElem? (i := 56) rfl)
theorem t57 {Z : State} {a0 : Array Value} (hw : ∀ d ∈ tables_1, d.before a0 Z = true) : (Jvm.Cond.declares ({ cls := "com/example/satisfy/satisfy/reasoner/Trail", name := "size", desc := "()I" } : Jvm.MethodName)).before a0 Z = true := hw _ (List.mem_of_getElem? (i := 57) rfl)
theorem t58 {Z : State} {a0 : Array Value} (hw : ∀ d ∈ tables_1, d.before a0 Z = true) : (Jvm.Cond.instanceMethod ({ cls := "com/example/satisfy/satisfy/reasoner/Trail", name := "size", desc := "()I" } : Jvm.MethodName)).before a0 Z = true := hw _ (List.mem_of_getElem? (i := 58) rfl)
theorem t59 {Z : State} {a0 : Array Value} (hw : ∀ d ∈ tables_1, d.before a0 Z = true) : (Jvm.Cond.selects "com/example/satisfy/satisfy/reasoner/Trail" ({ cls := "com/example/satisfy/satisfy/reasoner/Trail", name := "size", desc := "()I" } : Jvm.MethodName) ({ cls := "com/example/satisfy/satisfy/reasoner/Trail", name := "size", desc := "()I" } : Jvm.MethodName)).before a0 Z = true := hw _ (List.mem_of_getElem? (i := 59) rfl)
theorem t60 {Z : State} {a0 : Array Value} (hw : ∀ d ∈ tables_1, d.before a0 Z = true) : (Jvm.Cond.code ({ cls := "com/example/satisfy/satisfy/reasoner/Trail", name := "size", desc := "()I" } : Jvm.MethodName) prog_91_method_2_code (1 : Nat) (Option.some Jvm.ClassFile.FieldType.int)).before a0 Z = true := hw _ (List.mem_of_getElem? (i := 60) rfl)
theorem t61 {Z : State} {a0 : Array Value} (hw : ∀ d ∈ tables_1, d.before a0 Z = true) : (Jvm.Cond.methodLink "com/example/satisfy/satisfy/reasoner/TrailTruncatePinLaw" (37 : Nat) ({ cls := "com/example/satisfy/satisfy/reasoner/TrailTruncatePinLaw", name := "check", desc := "(Lcom/example/satisfy/satisfy/reasoner/Trail;IIIILcom/example/satisfy/satisfy/reasoner/Reason;)Z" } : Jvm.MethodName)).before a0 Z = true := hw _ (List.mem_of_getElem? (i := 61) rfl)
theorem t62 {Z : State} {a0 : Array Value} (hw : ∀ d ∈ tables_1, d.before a0 Z = true) : (Jvm.Cond.static ({ cls := "com/example/satisfy/satisfy/reasoner/TrailTruncatePinLaw", name := "check", desc := "(Lcom/example/satisfy/satisfy/reasoner/Trail;IIIILcom/example/satisfy/satisfy/reasoner/Reason;)Z" } : Jvm.MethodName)).before a0 Z = true := hw _ (List.mem_of_getElem? (i := 62) rfl)
theorem t63 {Z : State} {a0 : Array Value} (hw : ∀ d ∈ tables_1, d.before a0 Z = true) : (Jvm.Cond.initialized "com/example/satisfy/satisfy/reasoner/TrailTruncatePinLaw").before a0 Z = true := hw _ (List.mem_of_getElem? (i := 63) rfl)
theorem t64 {Z : State} {a0 : Array Value} (hw : ∀ d ∈ tables_1, d.before a0 Z = true) : (Jvm.Cond.code ({ cls := "com/example/satisfy/satisfy/reasoner/TrailTruncatePinLaw", name := "check", desc := "(Lcom/example/satisfy/satisfy/reasoner/Trail;IIIILcom/example/satisfy/satisfy/reasoner/Reason;)Z" } : Jvm.MethodName) method_3_code (7 : Nat) (Option.some Jvm.ClassFile.FieldType.boolean)).before a0 Z = true := hw _ (List.mem_of_getElem? (i := 64) rfl)
theorem t65 {Z : State} {a0 : Array Value} (hw : ∀ d ∈ tables_1, d.before a0 Z = true) : (Jvm.Cond.methodLink "com/example/satisfy/satisfy/reasoner/TrailTruncatePinLaw" (43 : Nat) ({ cls := "com/example/satisfy/satisfy/reasoner/Trail", name := "position", desc := "(I)I" } : Jvm.MethodName)).before a0 Z = true := hw _ (List.mem_of_getElem? (i := 65) rfl)
theorem t66 {Z : State} {a0 : Array Value} (hw : ∀ d ∈ tables_1, d.before a0 Z = true) : (Jvm.Cond.declares ({ cls := "com/example/satisfy/satisfy/reasoner/Trail", name := "position", desc := "(I)I" } : Jvm.MethodName)).before a0 Z = true := hw _ (List.mem_of_getElem? (i := 66) rfl)
theorem t67 {Z : State} {a0 : Array Value} (hw : ∀ d ∈ tables_1, d.before a0 Z = true) : (Jvm.Cond.instanceMethod ({ cls := "com/example/satisfy/satisfy/reasoner/Trail", name := "position", desc := "(I)I" } : Jvm.MethodName)).before a0 Z = true := hw _ (List.mem_of_getElem? (i := 67) rfl)
theorem t68 {Z : State} {a0 : Array Value} (hw : ∀ d ∈ tables_1, d.before a0 Z = true) : (Jvm.Cond.selects "com/example/satisfy/satisfy/reasoner/Trail" ({ cls := "com/example/satisfy/satisfy/reasoner/Trail", name := "position", desc := "(I)I" } : Jvm.MethodName) ({ cls := "com/example/satisfy/satisfy/reasoner/Trail", name := "position", desc := "(I)I" } : Jvm.MethodName)).before a0 Z = true := hw _ (List.mem_of_getElem? (i := 68) rfl)
theorem t69 {Z : State} {a0 : Array Value} (hw : ∀ d ∈ tables_1, d.before a0 Z = true) : (Jvm.Cond.code ({ cls := "com/example/satisfy/satisfy/reasoner/Trail", name := "position", desc := "(I)I" } : Jvm.MethodName) prog_91_method_6_code (2 : Nat) (Option.some Jvm.ClassFile.FieldType.int)).before a0 Z = true := hw _ (List.mem_of_getElem? (i := 69) rfl)
theorem t70 {Z : State} {a0 : Array Value} (hw : ∀ d ∈ tables_1, d.before a0 Z = true) : (Jvm.Cond.methodLink "com/example/satisfy/satisfy/reasoner/Trail" (30 : Nat) ({ cls := "com/example/satisfy/satisfy/reasoner/IntMap", name := "get", desc := "(I)I" } : Jvm.MethodName)).before a0 Z = true := hw _ (List.mem_of_getElem? (i := 70) rfl)
theorem t71 {Z : State} {a0 : Array Value} (hw : ∀ d ∈ tables_1, d.before a0 Z = true) : (Jvm.Cond.declares ({ cls := "com/example/satisfy/satisfy/reasoner/IntMap", name := "get", desc := "(I)I" } : Jvm.MethodName)).before a0 Z = true := hw _ (List.mem_of_getElem? (i := 71) rfl)
theorem t72 {Z : State} {a0 : Array Value} (hw : ∀ d ∈ tables_1, d.before a0 Z = true) : (Jvm.Cond.instanceMethod ({ cls := "com/example/satisfy/satisfy/reasoner/IntMap", name := "get", desc := "(I)I" } : Jvm.MethodName)).before a0 Z = true := hw _ (List.mem_of_getElem? (i := 72) rfl)
theorem t73 {Z : State} {a0 : Array Value} (hw : ∀ d ∈ tables_1, d.before a0 Z = true) : (Jvm.Cond.selects "com/example/satisfy/satisfy/reasoner/IntMap" ({ cls := "com/example/satisfy/satisfy/reasoner/IntMap", name := "get", desc := "(I)I" } : Jvm.MethodName) ({ cls := "com/example/satisfy/satisfy/reasoner/IntMap", name := "get", desc := "(I)I" } : Jvm.MethodName)).before a0 Z = true := hw _ (List.mem_of_getElem? (i := 73) rfl)
theorem t74 {Z : State} {a0 : Array Value} (hw : ∀ d ∈ tables_1, d.before a0 Z = true) : (Jvm.Cond.code ({ cls := "com/example/satisfy/satisfy/reasoner/IntMap", name := "get", desc := "(I)I" } : Jvm.MethodName) prog_57_method_2_code (3 : Nat) (Option.some Jvm.ClassFile.FieldType.int)).before a0 Z = true := hw _ (List.mem_of_getElem? (i := 74) rfl)
theorem t75 {Z : State} {a0 : Array Value} (hw : ∀ d ∈ tables_1, d.before a0 Z = true) : (Jvm.Cond.methodLink "com/example/satisfy/satisfy/reasoner/IntMap" (13 : Nat) ({ cls := "com/example/satisfy/satisfy/reasoner/IntMap", name := "slotOf", desc := "(I)I" } : Jvm.MethodName)).before a0 Z = true := hw _ (List.mem_of_getElem? (i := 75) rfl)
theorem t76 {Z : State} {a0 : Array Value} (hw : ∀ d ∈ tables_1, d.before a0 Z = true) : (Jvm.Cond.instanceMethod ({ cls := "com/example/satisfy/satisfy/reasoner/IntMap", name := "slotOf", desc := "(I)I" } : Jvm.MethodName)).before a0 Z = true := hw _ (List.mem_of_getElem? (i := 76) rfl)
theorem t77 {Z : State} {a0 : Array Value} (hw : ∀ d ∈ tables_1, d.before a0 Z = true) : (Jvm.Cond.privateMethod ({ cls := "com/example/satisfy/satisfy/reasoner/IntMap", name := "slotOf", desc := "(I)I" } : Jvm.MethodName)).before a0 Z = true := hw _ (List.mem_of_getElem? (i := 77) rfl)
theorem t78 {Z : State} {a0 : Array Value} (hw : ∀ d ∈ tables_1, d.before a0 Z = true) : (Jvm.Cond.code ({ cls := "com/example/satisfy/satisfy/reasoner/IntMap", name := "slotOf", desc := "(I)I" } : Jvm.MethodName) prog_57_method_5_code (4 : Nat) (Option.some Jvm.ClassFile.FieldType.int)).before a0 Z = true := hw _ (List.mem_of_getElem? (i := 78) rfl)
theorem t79 {Z : State} {a0 : Array Value} (hw : ∀ d ∈ tables_1, d.before a0 Z = true) : (Jvm.Cond.methodLink "com/example/satisfy/satisfy/reasoner/IntMap" (31 : Nat) ({ cls := "com/example/satisfy/satisfy/reasoner/IntMap", name := "hash", desc := "(I)I" } : Jvm.MethodName)).before a0 Z = true := hw _ (List.mem_of_getElem? (i := 79) rfl)
theorem t80 {Z : State} {a0 : Array Value} (hw : ∀ d ∈ tables_1, d.before a0 Z = true) : (Jvm.Cond.instanceMethod ({ cls := "com/example/satisfy/satisfy/reasoner/IntMap", name := "hash", desc := "(I)I" } : Jvm.MethodName)).before a0 Z = true := hw _ (List.mem_of_getElem? (i := 80) rfl)
theorem t81 {Z : State} {a0 : Array Value} (hw : ∀ d ∈ tables_1, d.before a0 Z = true) : (Jvm.Cond.privateMethod ({ cls := "com/example/satisfy/satisfy/reasoner/IntMap", name := "hash", desc := "(I)I" } : Jvm.MethodName)).before a0 Z = true := hw _ (List.mem_of_getElem? (i := 81) rfl)
theorem t82 {Z : State} {a0 : Array Value} (hw : ∀ d ∈ tables_1, d.before a0 Z = true) : (Jvm.Cond.code ({ cls := "com/example/satisfy/satisfy/reasoner/IntMap", name := "hash", desc := "(I)I" } : Jvm.MethodName) prog_57_method_6_code (2 : Nat) (Option.some Jvm.ClassFile.FieldType.int)).before a0 Z = true := hw _ (List.mem_of_getElem? (i := 82) rfl)
theorem t83 {Z : State} {a0 : Array Value} (hw : ∀ d ∈ tables_1, d.before a0 Z = true) : (Jvm.Cond.constant "com/example/satisfy/satisfy/reasoner/IntMap" (34 : Nat) (-1640531527 : Int32)).before a0 Z = true := hw _ (List.mem_of_getElem? (i := 83) rfl)
theorem t84 {Z : State} {a0 : Array Value} (hw : ∀ d ∈ tables_1, d.before a0 Z = true) : (Jvm.Cond.methodLink "com/example/satisfy/satisfy/reasoner/TrailTruncatePinLaw" (19 : Nat) ({ cls := "com/example/satisfy/satisfy/reasoner/Trail", name := "add", desc := "(ILcom/example/satisfy/satisfy/reasoner/Reason;)V" } : Jvm.MethodName)).before a0 Z = true := hw _ (List.mem_of_getElem? (i := 84) rfl)
theorem t85 {Z : State} {a0 : Array Value} (hw : ∀ d ∈ tables_1, d.before a0 Z = true) : (Jvm.Cond.declares ({ cls := "com/example/satisfy/satisfy/reasoner/Trail", name := "add", desc := "(ILcom/example/satisfy/satisfy/reasoner/Reason;)V" } : Jvm.MethodName)).before a0 Z = true := hw _ (List.mem_of_getElem? (i := 85) rfl)
theorem t86 {Z : State} {a0 : Array Value} (hw : ∀ d ∈ tables_1, d.before a0 Z = true) : (Jvm.Cond.instanceMethod ({ cls := "com/example/satisfy/satisfy/reasoner/Trail", name := "add", desc := "(ILcom/example/satisfy/satisfy/reasoner/Reason;)V" } : Jvm.MethodName)).before a0 Z = true := hw _ (List.mem_of_getElem? (i := 86) rfl)
theorem t87 {Z : State} {a0 : Array Value} (hw : ∀ d ∈ tables_1, d.before a0 Z = true) : (Jvm.Cond.selects "com/example/satisfy/satisfy/reasoner/Trail" ({ cls := "com/example/satisfy/satisfy/reasoner/Trail", name := "add", desc := "(ILcom/example/satisfy/satisfy/reasoner/Reason;)V" } : Jvm.MethodName) ({ cls := "com/example/satisfy/satisfy/reasoner/Trail", name := "add", desc := "(ILcom/example/satisfy/satisfy/reasoner/Reason;)V" } : Jvm.MethodName)).before a0 Z = true := hw _ (List.mem_of_getElem? (i := 87) rfl)
theorem t88 {Z : State} {a0 : Array Value} (hw : ∀ d ∈ tables_1, d.before a0 Z = true) : (Jvm.Cond.code ({ cls := "com/example/satisfy/satisfy/reasoner/Trail", name := "add", desc := "(ILcom/example/satisfy/satisfy/reasoner/Reason;)V" } : Jvm.MethodName) prog_91_method_7_code (3 : Nat) (Option.none : Option Jvm.ClassFile.FieldType)).before a0 Z = true := hw _ (List.mem_of_getElem? (i := 88) rfl)
theorem t90 {Z : State} {a0 : Array Value} (hw : ∀ d ∈ tables_1, d.before a0 Z = true) : (Jvm.Cond.methodLink "com/example/satisfy/satisfy/reasoner/Trail" (44 : Nat) ({ cls := "com/example/satisfy/satisfy/reasoner/IntMap", name := "put", desc := "(II)V" } : Jvm.MethodName)).before a0 Z = true := hw _ (List.mem_of_getElem? (i := 90) rfl)
theorem t91 {Z : State} {a0 : Array Value} (hw : ∀ d ∈ tables_1, d.before a0 Z = true) : (Jvm.Cond.declares ({ cls := "com/example/satisfy/satisfy/reasoner/IntMap", name := "put", desc := "(II)V" } : Jvm.MethodName)).before a0 Z = true := hw _ (List.mem_of_getElem? (i := 91) rfl)
theorem t92 {Z : State} {a0 : Array Value} (hw : ∀ d ∈ tables_1, d.before a0 Z = true) : (Jvm.Cond.instanceMethod ({ cls := "com/example/satisfy/satisfy/reasoner/IntMap", name := "put", desc := "(II)V" } : Jvm.MethodName)).before a0 Z = true := hw _ (List.mem_of_getElem? (i := 92) rfl)
theorem t93 {Z : State} {a0 : Array Value} (hw : ∀ d ∈ tables_1, d.before a0 Z = true) : (Jvm.Cond.selects "com/example/satisfy/satisfy/reasoner/IntMap" ({ cls := "com/example/satisfy/satisfy/reasoner/IntMap", name := "put", desc := "(II)V" } : Jvm.MethodName) ({ cls := "com/example/satisfy/satisfy/reasoner/IntMap", name := "put", desc := "(II)V" } : Jvm.MethodName)).before a0 Z = true := hw _ (List.mem_of_getElem? (i := 93) rfl)
theorem t94 {Z : State} {a0 : Array Value} (hw : ∀ d ∈ tables_1, d.before a0 Z = true) : (Jvm.Cond.code ({ cls := "com/example/satisfy/satisfy/reasoner/IntMap", name := "put", desc := "(II)V" } : Jvm.MethodName) prog_57_method_3_code (4 : Nat) (Option.none : Option Jvm.ClassFile.FieldType)).before a0 Z = true := hw _ (List.mem_of_getElem? (i := 94) rfl)
theorem t95 {Z : State} {a0 : Array Value} (hw : ∀ d ∈ tables_1, d.before a0 Z = true) : (Jvm.Cond.fieldLink "com/example/satisfy/satisfy/reasoner/IntMap" (24 : Nat) "com/example/satisfy/satisfy/reasoner/IntMap" "size" "I").before a0 Z = true := hw _ (List.mem_of_getElem? (i := 95) rfl)
theorem t96 {Z : State} {a0 : Array Value} (hw : ∀ d ∈ tables_1, d.before a0 Z = true) : (Jvm.Cond.lays "com/example/satisfy/satisfy/reasoner/IntMap" "com/example/satisfy/satisfy/reasoner/IntMap" "size" "I").before a0 Z = true := hw _ (List.mem_of_getElem? (i := 96) rfl)
theorem t97 {Z : State} {a0 : Array Value} (hw : ∀ d ∈ tables_1, d.before a0 Z = true) : (Jvm.Cond.methodLink "com/example/satisfy/satisfy/reasoner/IntMap" (28 : Nat) ({ cls := "com/example/satisfy/satisfy/reasoner/IntMap", name := "grow", desc := "()V" } : Jvm.MethodName)).before a0 Z = true := hw _ (List.mem_of_getElem? (i := 97) rfl)
theorem t98 {Z : State} {a0 : Array Value} (hw : ∀ d ∈ tables_1, d.before a0 Z = true) : (Jvm.Cond.instanceMethod ({ cls := "com/example/satisfy/satisfy/reasoner/IntMap", name := "grow", desc := "()V" } : Jvm.MethodName)).before a0 Z = true := hw _ (List.mem_of_getElem? (i := 98) rfl)
theorem t99 {Z : State} {a0 : Array Value} (hw : ∀ d ∈ tables_1, d.before a0 Z = true) : (Jvm.Cond.privateMethod ({ cls := "com/example/satisfy/satisfy/reasoner/IntMap", name := "grow", desc := "()V" } : Jvm.MethodName)).before a0 Z = true := hw _ (List.mem_of_getElem? (i := 99) rfl)
theorem t100 {Z : State} {a0 : Array Value} (hw : ∀ d ∈ tables_1, d.before a0 Z = true) : (Jvm.Cond.code ({ cls := "com/example/satisfy/satisfy/reasoner/IntMap", name := "grow", desc := "()V" } : Jvm.MethodName) prog_57_method_7_code (5 : Nat) (Option.none : Option Jvm.ClassFile.FieldType)).before a0 Z = true := hw _ (List.mem_of_getElem? (i := 100) rfl)
theorem t101 {Z : State} {a0 : Array Value} (hw : ∀ d ∈ tables_1, d.before a0 Z = true) : (Jvm.Cond.methodLink "com/example/satisfy/satisfy/reasoner/TrailTruncatePinLaw" (47 : Nat) ({ cls := "com/example/satisfy/satisfy/reasoner/Trail", name := "concept", desc := "(I)I" } : Jvm.MethodName)).before a0 Z = true := hw _ (List.mem_of_getElem? (i := 101) rfl)
theorem t102 {Z : State} {a0 : Array Value} (hw : ∀ d ∈ tables_1, d.before a0 Z = true) : (Jvm.Cond.declares ({ cls := "com/example/satisfy/satisfy/reasoner/Trail", name := "concept", desc := "(I)I" } : Jvm.MethodName)).before a0 Z = true := hw _ (List.mem_of_getElem? (i := 102) rfl)
theorem t103 {Z : State} {a0 : Array Value} (hw : ∀ d ∈ tables_1, d.before a0 Z = true) : (Jvm.Cond.instanceMethod ({ cls := "com/example/satisfy/satisfy/reasoner/Trail", name := "concept", desc := "(I)I" } : Jvm.MethodName)).before a0 Z = true := hw _ (List.mem_of_getElem? (i := 103) rfl)
theorem t104 {Z : State} {a0 : Array Value} (hw : ∀ d ∈ tables_1, d.before a0 Z = true) : (Jvm.Cond.selects "com/example/satisfy/satisfy/reasoner/Trail" ({ cls := "com/example/satisfy/satisfy/reasoner/Trail", name := "concept", desc := "(I)I" } : Jvm.MethodName) ({ cls := "com/example/satisfy/satisfy/reasoner/Trail", name := "concept", desc := "(I)I" } : Jvm.MethodName)).before a0 Z = true := hw _ (List.mem_of_getElem? (i := 104) rfl)
theorem t105 {Z : State} {a0 : Array Value} (hw : ∀ d ∈ tables_1, d.before a0 Z = true) : (Jvm.Cond.code ({ cls := "com/example/satisfy/satisfy/reasoner/Trail", name := "concept", desc := "(I)I" } : Jvm.MethodName) prog_91_method_3_code (2 : Nat) (Option.some Jvm.ClassFile.FieldType.int)).before a0 Z = true := hw _ (List.mem_of_getElem? (i := 105) rfl)
theorem t106 {Z : State} {a0 : Array Value} (hw : ∀ d ∈ tables_1, d.before a0 Z = true) : (Jvm.Cond.methodLink "com/example/satisfy/satisfy/reasoner/TrailTruncatePinLaw" (50 : Nat) ({ cls := "com/example/satisfy/satisfy/reasoner/Trail", name := "reason", desc := "(I)Lcom/example/satisfy/satisfy/reasoner/Reason;" } : Jvm.MethodName)).before a0 Z = true := hw _ (List.mem_of_getElem? (i := 106) rfl)
theorem t107 {Z : State} {a0 : Array Value} (hw : ∀ d ∈ tables_1, d.before a0 Z = true) : (Jvm.Cond.declares ({ cls := "com/example/satisfy/satisfy/reasoner/Trail", name := "reason", desc := "(I)Lcom/example/satisfy/satisfy/reasoner/Reason;" } : Jvm.MethodName)).before a0 Z = true := hw _ (List.mem_of_getElem? (i := 107) rfl)
theorem t108 {Z : State} {a0 : Array Value} (hw : ∀ d ∈ tables_1, d.before a0 Z = true) : (Jvm.Cond.instanceMethod ({ cls := "com/example/satisfy/satisfy/reasoner/Trail", name := "reason", desc := "(I)Lcom/example/satisfy/satisfy/reasoner/Reason;" } : Jvm.MethodName)).before a0 Z = true := hw _ (List.mem_of_getElem? (i := 108) rfl)
theorem t109 {Z : State} {a0 : Array Value} (hw : ∀ d ∈ tables_1, d.before a0 Z = true) : (Jvm.Cond.selects "com/example/satisfy/satisfy/reasoner/Trail" ({ cls := "com/example/satisfy/satisfy/reasoner/Trail", name := "reason", desc := "(I)Lcom/example/satisfy/satisfy/reasoner/Reason;" } : Jvm.MethodName) ({ cls := "com/example/satisfy/satisfy/reasoner/Trail", name := "reason", desc := "(I)Lcom/example/satisfy/satisfy/reasoner/Reason;" } : Jvm.MethodName)).before a0 Z = true := hw _ (List.mem_of_getElem? (i := 109) rfl)
theorem t110 {Z : State} {a0 : Array Value} (hw : ∀ d ∈ tables_1, d.before a0 Z = true) : (Jvm.Cond.code ({ cls := "com/example/satisfy/satisfy/reasoner/Trail", name := "reason", desc := "(I)Lcom/example/satisfy/satisfy/reasoner/Reason;" } : Jvm.MethodName) prog_91_method_4_code (2 : Nat) (Option.some (Jvm.ClassFile.FieldType.object "com/example/satisfy/satisfy/reasoner/Reason"))).before a0 Z = true := hw _ (List.mem_of_getElem? (i := 110) rfl)
theorem t111 {Z : State} {a0 : Array Value} (hw : ∀ d ∈ tables_1, d.before a0 Z = true) : (Jvm.Cond.methodLink "com/example/satisfy/satisfy/reasoner/Trail" (48 : Nat) ({ cls := "com/example/satisfy/satisfy/reasoner/IntMap", name := "remove", desc := "(I)V" } : Jvm.MethodName)).before a0 Z = true := hw _ (List.mem_of_getElem? (i := 111) rfl)
theorem t112 {Z : State} {a0 : Array Value} (hw : ∀ d ∈ tables_1, d.before a0 Z = true) : (Jvm.Cond.declares ({ cls := "com/example/satisfy/satisfy/reasoner/IntMap", name := "remove", desc := "(I)V" } : Jvm.MethodName)).before a0 Z = true := hw _ (List.mem_of_getElem? (i := 112) rfl)
theorem t113 {Z : State} {a0 : Array Value} (hw : ∀ d ∈ tables_1, d.before a0 Z = true) : (Jvm.Cond.instanceMethod ({ cls := "com/example/satisfy/satisfy/reasoner/IntMap", name := "remove", desc := "(I)V" } : Jvm.MethodName)).before a0 Z = true := hw _ (List.mem_of_getElem? (i := 113) rfl)
theorem t114 {Z : State} {a0 : Array Value} (hw : ∀ d ∈ tables_1, d.before a0 Z = true) : (Jvm.Cond.selects "com/example/satisfy/satisfy/reasoner/IntMap" ({ cls := "com/example/satisfy/satisfy/reasoner/IntMap", name := "remove", desc := "(I)V" } : Jvm.MethodName) ({ cls := "com/example/satisfy/satisfy/reasoner/IntMap", name := "remove", desc := "(I)V" } : Jvm.MethodName)).before a0 Z = true := hw _ (List.mem_of_getElem? (i := 114) rfl)
theorem t115 {Z : State} {a0 : Array Value} (hw : ∀ d ∈ tables_1, d.before a0 Z = true) : (Jvm.Cond.code ({ cls := "com/example/satisfy/satisfy/reasoner/IntMap", name := "remove", desc := "(I)V" } : Jvm.MethodName) prog_57_method_4_code (6 : Nat) (Option.none : Option Jvm.ClassFile.FieldType)).before a0 Z = true := hw _ (List.mem_of_getElem? (i := 115) rfl)
theorem pd0 : parseMethodDescriptor "(I)I" = some ⟨[.int], some .int⟩ := by decide +kernel
theorem pd1 : parseMethodDescriptor "([II)V" = some ⟨[(.array .int), .int], none⟩ := by decide +kernel
theorem pd2 : parseMethodDescriptor "(I)V" = some ⟨[.int], none⟩ := by decide +kernel
theorem pd3 : parseMethodDescriptor "()V" = some ⟨[], none⟩ := by decide +kernel
theorem pd4 : parseMethodDescriptor "(II)V" = some ⟨[.int, .int], none⟩ := by decide +kernel
theorem pd5 : parseMethodDescriptor "(I)Lcom/example/satisfy/satisfy/reasoner/Reason;" = some ⟨[.int], some (.object "com/example/satisfy/satisfy/reasoner/Reason")⟩ := by decide +kernel
theorem pd6 : parseMethodDescriptor "(II)I" = some ⟨[.int, .int], some .int⟩ := by decide +kernel
theorem pd7 : parseMethodDescriptor "()I" = some ⟨[], some .int⟩ := by decide +kernel
theorem pd8 : parseMethodDescriptor "(Lcom/example/satisfy/satisfy/reasoner/Trail;IIIILcom/example/satisfy/satisfy/reasoner/Reason;)Z" = some ⟨[(.object "com/example/satisfy/satisfy/reasoner/Trail"), .int, .int, .int, .int, (.object "com/example/satisfy/satisfy/reasoner/Reason")], some .boolean⟩ := by decide +kernel
theorem pd9 : parseMethodDescriptor "(ILcom/example/satisfy/satisfy/reasoner/Reason;)V" = some ⟨[.int, (.object "com/example/satisfy/satisfy/reasoner/Reason")], none⟩ := by decide +kernel
theorem pn0 : plainName "com/example/satisfy/satisfy/reasoner/IntMap" = true := by first | (simp [plainName, overriddenIn]; done) | decide +kernel
theorem pn1 : plainName "java/util/Arrays" = true := by first | (simp [plainName, overriddenIn]; done) | decide +kernel
theorem pn2 : plainName "com/example/satisfy/satisfy/reasoner/Trail" = true := by first | (simp [plainName, overriddenIn]; done) | decide +kernel
theorem pn3 : plainName "com/example/satisfy/satisfy/reasoner/TrailTruncatePinLaw" = true := by first | (simp [plainName, overriddenIn]; done) | decide +kernel
theorem c13_0 : Dil prog_57_method_6_code 0 1 1 := Or.inr ⟨1, (by decide +kernel), rfl, rfl⟩
theorem c13_1 : Dc prog_57_method_6_code 1 (.ldc 34) 2 3 := ⟨(by decide +kernel), rfl⟩
theorem c13_3 : Dc prog_57_method_6_code 3 .imul 1 4 := ⟨(by decide +kernel), rfl⟩
theorem c13_4 : Dp prog_57_method_6_code 4 32 6 := Or.inr (Or.inl ⟨32, (by decide +kernel), by decide, rfl⟩)
theorem c13_6 : Dal prog_57_method_6_code 6 0 7 := Or.inr ⟨0, (by decide +kernel), rfl, rfl⟩
theorem c13_7 : Dc prog_57_method_6_code 7 (.getfield 35) 3 10 := ⟨(by decide +kernel), rfl⟩
theorem c13_10 : Dc prog_57_method_6_code 10 .isub 1 11 := ⟨(by decide +kernel), rfl⟩
theorem c13_11 : Dc prog_57_method_6_code 11 .iushr 1 12 := ⟨(by decide +kernel), rfl⟩
theorem c13_12 : Dc prog_57_method_6_code 12 .ireturn 1 13 := ⟨(by decide +kernel), rfl⟩
theorem c12_0 : Dal prog_57_method_5_code 0 0 1 := Or.inr ⟨0, (by decide +kernel), rfl, rfl⟩
theorem c12_1 : Dc prog_57_method_5_code 1 (.getfield 17) 3 4 := ⟨(by decide +kernel), rfl⟩
theorem c12_4 : Dc prog_57_method_5_code 4 .arraylength 1 5 := ⟨(by decide +kernel), rfl⟩
theorem c12_5 : Dp prog_57_method_5_code 5 1 6 := Or.inl ⟨1, (by decide +kernel), by decide, rfl⟩
theorem c12_6 : Dc prog_57_method_5_code 6 .isub 1 7 := ⟨(by decide +kernel), rfl⟩
theorem c12_7 : Dis prog_57_method_5_code 7 2 8 := Or.inr ⟨2, (by decide +kernel), rfl, rfl⟩
theorem c12_8 : Dal prog_57_method_5_code 8 0 9 := Or.inr ⟨0, (by decide +kernel), rfl, rfl⟩
theorem c12_9 : Dil prog_57_method_5_code 9 1 10 := Or.inr ⟨1, (by decide +kernel), rfl, rfl⟩
theorem c12_10 : Dc prog_57_method_5_code 10 (.invokevirtual 31) 3 13 := ⟨(by decide +kernel), rfl⟩
theorem c12_13 : Dis prog_57_method_5_code 13 3 14 := Or.inr ⟨3, (by decide +kernel), rfl, rfl⟩
theorem c12_14 : Dal prog_57_method_5_code 14 0 15 := Or.inr ⟨0, (by decide +kernel), rfl, rfl⟩
theorem c12_15 : Dc prog_57_method_5_code 15 (.getfield 17) 3 18 := ⟨(by decide +kernel), rfl⟩
theorem c12_18 : Dil prog_57_method_5_code 18 3 19 := Or.inr ⟨3, (by decide +kernel), rfl, rfl⟩
theorem c12_19 : Dc prog_57_method_5_code 19 .iaload 1 20 := ⟨(by decide +kernel), rfl⟩
theorem c12_20 : Dp prog_57_method_5_code 20 (-1) 21 := Or.inl ⟨(-1), (by decide +kernel), by decide, rfl⟩
theorem c12_21 : Db prog_57_method_5_code 21 (.if_icmp .eq) 24 43 := ⟨22, (by decide +kernel), rfl, by decide, by decide⟩
theorem c12_24 : Dal prog_57_method_5_code 24 0 25 := Or.inr ⟨0, (by decide +kernel), rfl, rfl⟩
theorem c12_25 : Dc prog_57_method_5_code 25 (.getfield 17) 3 28 := ⟨(by decide +kernel), rfl⟩
theorem c12_28 : Dil prog_57_method_5_code 28 3 29 := Or.inr ⟨3, (by decide +kernel), rfl, rfl⟩
theorem c12_29 : Dc prog_57_method_5_code 29 .iaload 1 30 := ⟨(by decide +kernel), rfl⟩
theorem c12_30 : Dil prog_57_method_5_code 30 1 31 := Or.inr ⟨1, (by decide +kernel), rfl, rfl⟩
theorem c12_31 : Db prog_57_method_5_code 31 (.if_icmp .eq) 34 43 := ⟨12, (by decide +kernel), rfl, by decide, by decide⟩
theorem c12_34 : Dil prog_57_method_5_code 34 3 35 := Or.inr ⟨3, (by decide +kernel), rfl, rfl⟩
theorem c12_35 : Dp prog_57_method_5_code 35 1 36 := Or.inl ⟨1, (by decide +kernel), by decide, rfl⟩
theorem c12_36 : Dc prog_57_method_5_code 36 .iadd 1 37 := ⟨(by decide +kernel), rfl⟩
theorem c12_37 : Dil prog_57_method_5_code 37 2 38 := Or.inr ⟨2, (by decide +kernel), rfl, rfl⟩
theorem c12_38 : Dc prog_57_method_5_code 38 .iand 1 39 := ⟨(by decide +kernel), rfl⟩
theorem c12_39 : Dis prog_57_method_5_code 39 3 40 := Or.inr ⟨3, (by decide +kernel), rfl, rfl⟩
theorem c12_40 : Db prog_57_method_5_code 40 .goto 43 14 := ⟨(-26), (by decide +kernel), rfl, by decide, by decide⟩
theorem c12_43 : Dil prog_57_method_5_code 43 3 44 := Or.inr ⟨3, (by decide +kernel), rfl, rfl⟩
theorem c12_44 : Dc prog_57_method_5_code 44 .ireturn 1 45 := ⟨(by decide +kernel), rfl⟩
theorem c11_0 : Dal prog_57_method_2_code 0 0 1 := Or.inr ⟨0, (by decide +kernel), rfl, rfl⟩
theorem c11_1 : Dil prog_57_method_2_code 1 1 2 := Or.inr ⟨1, (by decide +kernel), rfl, rfl⟩
theorem c11_2 : Dc prog_57_method_2_code 2 (.invokevirtual 13) 3 5 := ⟨(by decide +kernel), rfl⟩
theorem c11_5 : Dis prog_57_method_2_code 5 2 6 := Or.inr ⟨2, (by decide +kernel), rfl, rfl⟩
theorem c11_6 : Dal prog_57_method_2_code 6 0 7 := Or.inr ⟨0, (by decide +kernel), rfl, rfl⟩
theorem c11_7 : Dc prog_57_method_2_code 7 (.getfield 17) 3 10 := ⟨(by decide +kernel), rfl⟩
theorem c11_10 : Dil prog_57_method_2_code 10 2 11 := Or.inr ⟨2, (by decide +kernel), rfl, rfl⟩
theorem c11_11 : Dc prog_57_method_2_code 11 .iaload 1 12 := ⟨(by decide +kernel), rfl⟩
theorem c11_12 : Dp prog_57_method_2_code 12 (-1) 13 := Or.inl ⟨(-1), (by decide +kernel), by decide, rfl⟩
theorem c11_13 : Db prog_57_method_2_code 13 (.if_icmp .ne) 16 20 := ⟨7, (by decide +kernel), rfl, by decide, by decide⟩
theorem c11_16 : Dp prog_57_method_2_code 16 (-1) 17 := Or.inl ⟨(-1), (by decide +kernel), by decide, rfl⟩
theorem c11_17 : Db prog_57_method_2_code 17 .goto 20 26 := ⟨9, (by decide +kernel), rfl, by decide, by decide⟩
theorem c11_20 : Dal prog_57_method_2_code 20 0 21 := Or.inr ⟨0, (by decide +kernel), rfl, rfl⟩
theorem c11_21 : Dc prog_57_method_2_code 21 (.getfield 21) 3 24 := ⟨(by decide +kernel), rfl⟩
theorem c11_24 : Dil prog_57_method_2_code 24 2 25 := Or.inr ⟨2, (by decide +kernel), rfl, rfl⟩
theorem c11_25 : Dc prog_57_method_2_code 25 .iaload 1 26 := ⟨(by decide +kernel), rfl⟩
theorem c11_26 : Dc prog_57_method_2_code 26 .ireturn 1 27 := ⟨(by decide +kernel), rfl⟩
theorem c5_0 : Dp jdk_65_method_103_code 0 0 1 := Or.inl ⟨0, (by decide +kernel), by decide, rfl⟩
theorem c5_1 : Dis jdk_65_method_103_code 1 2 2 := Or.inr ⟨2, (by decide +kernel), rfl, rfl⟩
theorem c5_2 : Dal jdk_65_method_103_code 2 0 3 := Or.inr ⟨0, (by decide +kernel), rfl, rfl⟩
theorem c5_3 : Dc jdk_65_method_103_code 3 .arraylength 1 4 := ⟨(by decide +kernel), rfl⟩
theorem c5_4 : Dis jdk_65_method_103_code 4 3 5 := Or.inr ⟨3, (by decide +kernel), rfl, rfl⟩
theorem c5_5 : Dil jdk_65_method_103_code 5 2 6 := Or.inr ⟨2, (by decide +kernel), rfl, rfl⟩
theorem c5_6 : Dil jdk_65_method_103_code 6 3 7 := Or.inr ⟨3, (by decide +kernel), rfl, rfl⟩
theorem c5_7 : Db jdk_65_method_103_code 7 (.if_icmp .ge) 10 20 := ⟨13, (by decide +kernel), rfl, by decide, by decide⟩
theorem c5_10 : Dal jdk_65_method_103_code 10 0 11 := Or.inr ⟨0, (by decide +kernel), rfl, rfl⟩
theorem c5_11 : Dil jdk_65_method_103_code 11 2 12 := Or.inr ⟨2, (by decide +kernel), rfl, rfl⟩
theorem c5_12 : Dil jdk_65_method_103_code 12 1 13 := Or.inr ⟨1, (by decide +kernel), rfl, rfl⟩
theorem c5_13 : Dc jdk_65_method_103_code 13 .iastore 1 14 := ⟨(by decide +kernel), rfl⟩
theorem c5_14 : Dinc jdk_65_method_103_code 14 2 1 17 := ⟨1, (by decide +kernel), by decide, rfl⟩
theorem c5_17 : Db jdk_65_method_103_code 17 .goto 20 5 := ⟨(-12), (by decide +kernel), rfl, by decide, by decide⟩
theorem c5_20 : Dc jdk_65_method_103_code 20 .return_ 1 21 := ⟨(by decide +kernel), rfl⟩
theorem c4_0 : Dal prog_57_method_8_code 0 0 1 := Or.inr ⟨0, (by decide +kernel), rfl, rfl⟩
theorem c4_1 : Dil prog_57_method_8_code 1 1 2 := Or.inr ⟨1, (by decide +kernel), rfl, rfl⟩
theorem c4_2 : Dc prog_57_method_8_code 2 (.putfield 35) 3 5 := ⟨(by decide +kernel), rfl⟩
theorem c4_5 : Dal prog_57_method_8_code 5 0 6 := Or.inr ⟨0, (by decide +kernel), rfl, rfl⟩
theorem c4_6 : Dp prog_57_method_8_code 6 1 7 := Or.inl ⟨1, (by decide +kernel), by decide, rfl⟩
theorem c4_7 : Dil prog_57_method_8_code 7 1 8 := Or.inr ⟨1, (by decide +kernel), rfl, rfl⟩
theorem c4_8 : Dc prog_57_method_8_code 8 .ishl 1 9 := ⟨(by decide +kernel), rfl⟩
theorem c4_9 : Dc prog_57_method_8_code 9 (.newarray .int) 2 11 := ⟨(by decide +kernel), rfl⟩
theorem c4_11 : Dc prog_57_method_8_code 11 (.putfield 17) 3 14 := ⟨(by decide +kernel), rfl⟩
theorem c4_14 : Dal prog_57_method_8_code 14 0 15 := Or.inr ⟨0, (by decide +kernel), rfl, rfl⟩
theorem c4_15 : Dc prog_57_method_8_code 15 (.getfield 17) 3 18 := ⟨(by decide +kernel), rfl⟩
theorem c4_18 : Dp prog_57_method_8_code 18 (-1) 19 := Or.inl ⟨(-1), (by decide +kernel), by decide, rfl⟩
theorem c4_19 : Dc prog_57_method_8_code 19 (.invokestatic 38) 3 22 := ⟨(by decide +kernel), rfl⟩
theorem c4_22 : Dal prog_57_method_8_code 22 0 23 := Or.inr ⟨0, (by decide +kernel), rfl, rfl⟩
theorem c4_23 : Dp prog_57_method_8_code 23 1 24 := Or.inl ⟨1, (by decide +kernel), by decide, rfl⟩
theorem c4_24 : Dil prog_57_method_8_code 24 1 25 := Or.inr ⟨1, (by decide +kernel), rfl, rfl⟩
theorem c4_25 : Dc prog_57_method_8_code 25 .ishl 1 26 := ⟨(by decide +kernel), rfl⟩
theorem c4_26 : Dc prog_57_method_8_code 26 (.newarray .int) 2 28 := ⟨(by decide +kernel), rfl⟩
theorem c4_28 : Dc prog_57_method_8_code 28 (.putfield 21) 3 31 := ⟨(by decide +kernel), rfl⟩
theorem c4_31 : Dc prog_57_method_8_code 31 .return_ 1 32 := ⟨(by decide +kernel), rfl⟩
theorem c3_0 : Dal prog_57_method_1_code 0 0 1 := Or.inr ⟨0, (by decide +kernel), rfl, rfl⟩
theorem c3_1 : Dc prog_57_method_1_code 1 (.invokespecial 1) 3 4 := ⟨(by decide +kernel), rfl⟩
theorem c3_4 : Dal prog_57_method_1_code 4 0 5 := Or.inr ⟨0, (by decide +kernel), rfl, rfl⟩
theorem c3_5 : Dp prog_57_method_1_code 5 1 6 := Or.inl ⟨1, (by decide +kernel), by decide, rfl⟩
theorem c3_6 : Dc prog_57_method_1_code 6 (.invokevirtual 7) 3 9 := ⟨(by decide +kernel), rfl⟩
theorem c3_9 : Dc prog_57_method_1_code 9 .return_ 1 10 := ⟨(by decide +kernel), rfl⟩
theorem c16_0 : Dal prog_57_method_7_code 0 0 1 := Or.inr ⟨0, (by decide +kernel), rfl, rfl⟩
theorem c16_1 : Dc prog_57_method_7_code 1 (.getfield 17) 3 4 := ⟨(by decide +kernel), rfl⟩
theorem c16_4 : Das prog_57_method_7_code 4 1 5 := Or.inr ⟨1, (by decide +kernel), rfl, rfl⟩
theorem c16_5 : Dal prog_57_method_7_code 5 0 6 := Or.inr ⟨0, (by decide +kernel), rfl, rfl⟩
theorem c16_6 : Dc prog_57_method_7_code 6 (.getfield 21) 3 9 := ⟨(by decide +kernel), rfl⟩
theorem c16_9 : Das prog_57_method_7_code 9 2 10 := Or.inr ⟨2, (by decide +kernel), rfl, rfl⟩
theorem c16_10 : Dal prog_57_method_7_code 10 0 11 := Or.inr ⟨0, (by decide +kernel), rfl, rfl⟩
theorem c16_11 : Dal prog_57_method_7_code 11 0 12 := Or.inr ⟨0, (by decide +kernel), rfl, rfl⟩
theorem c16_12 : Dc prog_57_method_7_code 12 (.getfield 35) 3 15 := ⟨(by decide +kernel), rfl⟩
theorem c16_15 : Dp prog_57_method_7_code 15 1 16 := Or.inl ⟨1, (by decide +kernel), by decide, rfl⟩
theorem c16_16 : Dc prog_57_method_7_code 16 .iadd 1 17 := ⟨(by decide +kernel), rfl⟩
theorem c16_17 : Dc prog_57_method_7_code 17 (.invokevirtual 7) 3 20 := ⟨(by decide +kernel), rfl⟩
theorem c16_20 : Dp prog_57_method_7_code 20 0 21 := Or.inl ⟨0, (by decide +kernel), by decide, rfl⟩
theorem c16_21 : Dis prog_57_method_7_code 21 3 22 := Or.inr ⟨3, (by decide +kernel), rfl, rfl⟩
theorem c16_22 : Dil prog_57_method_7_code 22 3 23 := Or.inr ⟨3, (by decide +kernel), rfl, rfl⟩
theorem c16_23 : Dal prog_57_method_7_code 23 1 24 := Or.inr ⟨1, (by decide +kernel), rfl, rfl⟩
theorem c16_24 : Dc prog_57_method_7_code 24 .arraylength 1 25 := ⟨(by decide +kernel), rfl⟩
theorem c16_25 : Db prog_57_method_7_code 25 (.if_icmp .ge) 28 70 := ⟨45, (by decide +kernel), rfl, by decide, by decide⟩
theorem c16_28 : Dal prog_57_method_7_code 28 1 29 := Or.inr ⟨1, (by decide +kernel), rfl, rfl⟩
theorem c16_29 : Dil prog_57_method_7_code 29 3 30 := Or.inr ⟨3, (by decide +kernel), rfl, rfl⟩
theorem c16_30 : Dc prog_57_method_7_code 30 .iaload 1 31 := ⟨(by decide +kernel), rfl⟩
theorem c16_31 : Dp prog_57_method_7_code 31 (-1) 32 := Or.inl ⟨(-1), (by decide +kernel), by decide, rfl⟩
theorem c16_32 : Db prog_57_method_7_code 32 (.if_icmp .eq) 35 64 := ⟨32, (by decide +kernel), rfl, by decide, by decide⟩
theorem c16_35 : Dal prog_57_method_7_code 35 0 36 := Or.inr ⟨0, (by decide +kernel), rfl, rfl⟩
theorem c16_36 : Dal prog_57_method_7_code 36 1 37 := Or.inr ⟨1, (by decide +kernel), rfl, rfl⟩
theorem c16_37 : Dil prog_57_method_7_code 37 3 38 := Or.inr ⟨3, (by decide +kernel), rfl, rfl⟩
theorem c16_38 : Dc prog_57_method_7_code 38 .iaload 1 39 := ⟨(by decide +kernel), rfl⟩
theorem c16_39 : Dc prog_57_method_7_code 39 (.invokevirtual 13) 3 42 := ⟨(by decide +kernel), rfl⟩
theorem c16_42 : Dis prog_57_method_7_code 42 4 44 := Or.inl ⟨(by decide +kernel), rfl⟩
theorem c16_44 : Dal prog_57_method_7_code 44 0 45 := Or.inr ⟨0, (by decide +kernel), rfl, rfl⟩
theorem c16_45 : Dc prog_57_method_7_code 45 (.getfield 17) 3 48 := ⟨(by decide +kernel), rfl⟩
theorem c16_48 : Dil prog_57_method_7_code 48 4 50 := Or.inl ⟨(by decide +kernel), rfl⟩
theorem c16_50 : Dal prog_57_method_7_code 50 1 51 := Or.inr ⟨1, (by decide +kernel), rfl, rfl⟩
theorem c16_51 : Dil prog_57_method_7_code 51 3 52 := Or.inr ⟨3, (by decide +kernel), rfl, rfl⟩
theorem c16_52 : Dc prog_57_method_7_code 52 .iaload 1 53 := ⟨(by decide +kernel), rfl⟩
theorem c16_53 : Dc prog_57_method_7_code 53 .iastore 1 54 := ⟨(by decide +kernel), rfl⟩
theorem c16_54 : Dal prog_57_method_7_code 54 0 55 := Or.inr ⟨0, (by decide +kernel), rfl, rfl⟩
theorem c16_55 : Dc prog_57_method_7_code 55 (.getfield 21) 3 58 := ⟨(by decide +kernel), rfl⟩
theorem c16_58 : Dil prog_57_method_7_code 58 4 60 := Or.inl ⟨(by decide +kernel), rfl⟩
theorem c16_60 : Dal prog_57_method_7_code 60 2 61 := Or.inr ⟨2, (by decide +kernel), rfl, rfl⟩
theorem c16_61 : Dil prog_57_method_7_code 61 3 62 := Or.inr ⟨3, (by decide +kernel), rfl, rfl⟩
theorem c16_62 : Dc prog_57_method_7_code 62 .iaload 1 63 := ⟨(by decide +kernel), rfl⟩
theorem c16_63 : Dc prog_57_method_7_code 63 .iastore 1 64 := ⟨(by decide +kernel), rfl⟩
theorem c16_64 : Dinc prog_57_method_7_code 64 3 1 67 := ⟨1, (by decide +kernel), by decide, rfl⟩
theorem c16_67 : Db prog_57_method_7_code 67 .goto 70 22 := ⟨(-45), (by decide +kernel), rfl, by decide, by decide⟩
theorem c16_70 : Dc prog_57_method_7_code 70 .return_ 1 71 := ⟨(by decide +kernel), rfl⟩
theorem c15_0 : Dal prog_57_method_3_code 0 0 1 := Or.inr ⟨0, (by decide +kernel), rfl, rfl⟩
theorem c15_1 : Dil prog_57_method_3_code 1 1 2 := Or.inr ⟨1, (by decide +kernel), rfl, rfl⟩
theorem c15_2 : Dc prog_57_method_3_code 2 (.invokevirtual 13) 3 5 := ⟨(by decide +kernel), rfl⟩
theorem c15_5 : Dis prog_57_method_3_code 5 3 6 := Or.inr ⟨3, (by decide +kernel), rfl, rfl⟩
theorem c15_6 : Dal prog_57_method_3_code 6 0 7 := Or.inr ⟨0, (by decide +kernel), rfl, rfl⟩
theorem c15_7 : Dc prog_57_method_3_code 7 (.getfield 17) 3 10 := ⟨(by decide +kernel), rfl⟩
theorem c15_10 : Dil prog_57_method_3_code 10 3 11 := Or.inr ⟨3, (by decide +kernel), rfl, rfl⟩
theorem c15_11 : Dc prog_57_method_3_code 11 .iaload 1 12 := ⟨(by decide +kernel), rfl⟩
theorem c15_12 : Dp prog_57_method_3_code 12 (-1) 13 := Or.inl ⟨(-1), (by decide +kernel), by decide, rfl⟩
theorem c15_13 : Db prog_57_method_3_code 13 (.if_icmp .ne) 16 59 := ⟨46, (by decide +kernel), rfl, by decide, by decide⟩
theorem c15_16 : Dal prog_57_method_3_code 16 0 17 := Or.inr ⟨0, (by decide +kernel), rfl, rfl⟩
theorem c15_17 : Dc prog_57_method_3_code 17 (.getfield 24) 3 20 := ⟨(by decide +kernel), rfl⟩
theorem c15_20 : Dp prog_57_method_3_code 20 1 21 := Or.inl ⟨1, (by decide +kernel), by decide, rfl⟩
theorem c15_21 : Dc prog_57_method_3_code 21 .iadd 1 22 := ⟨(by decide +kernel), rfl⟩
theorem c15_22 : Dp prog_57_method_3_code 22 2 23 := Or.inl ⟨2, (by decide +kernel), by decide, rfl⟩
theorem c15_23 : Dc prog_57_method_3_code 23 .imul 1 24 := ⟨(by decide +kernel), rfl⟩
theorem c15_24 : Dal prog_57_method_3_code 24 0 25 := Or.inr ⟨0, (by decide +kernel), rfl, rfl⟩
theorem c15_25 : Dc prog_57_method_3_code 25 (.getfield 17) 3 28 := ⟨(by decide +kernel), rfl⟩
theorem c15_28 : Dc prog_57_method_3_code 28 .arraylength 1 29 := ⟨(by decide +kernel), rfl⟩
theorem c15_29 : Db prog_57_method_3_code 29 (.if_icmp .le) 32 42 := ⟨13, (by decide +kernel), rfl, by decide, by decide⟩
theorem c15_32 : Dal prog_57_method_3_code 32 0 33 := Or.inr ⟨0, (by decide +kernel), rfl, rfl⟩
theorem c15_33 : Dc prog_57_method_3_code 33 (.invokevirtual 28) 3 36 := ⟨(by decide +kernel), rfl⟩
theorem c15_36 : Dal prog_57_method_3_code 36 0 37 := Or.inr ⟨0, (by decide +kernel), rfl, rfl⟩
theorem c15_37 : Dil prog_57_method_3_code 37 1 38 := Or.inr ⟨1, (by decide +kernel), rfl, rfl⟩
theorem c15_38 : Dc prog_57_method_3_code 38 (.invokevirtual 13) 3 41 := ⟨(by decide +kernel), rfl⟩
theorem c15_41 : Dis prog_57_method_3_code 41 3 42 := Or.inr ⟨3, (by decide +kernel), rfl, rfl⟩
theorem c15_42 : Dal prog_57_method_3_code 42 0 43 := Or.inr ⟨0, (by decide +kernel), rfl, rfl⟩
theorem c15_43 : Dc prog_57_method_3_code 43 (.getfield 17) 3 46 := ⟨(by decide +kernel), rfl⟩
theorem c15_46 : Dil prog_57_method_3_code 46 3 47 := Or.inr ⟨3, (by decide +kernel), rfl, rfl⟩
theorem c15_47 : Dil prog_57_method_3_code 47 1 48 := Or.inr ⟨1, (by decide +kernel), rfl, rfl⟩
theorem c15_48 : Dc prog_57_method_3_code 48 .iastore 1 49 := ⟨(by decide +kernel), rfl⟩
theorem c15_49 : Dal prog_57_method_3_code 49 0 50 := Or.inr ⟨0, (by decide +kernel), rfl, rfl⟩
theorem c15_50 : Dc prog_57_method_3_code 50 .dup 1 51 := ⟨(by decide +kernel), rfl⟩
theorem c15_51 : Dc prog_57_method_3_code 51 (.getfield 24) 3 54 := ⟨(by decide +kernel), rfl⟩
theorem c15_54 : Dp prog_57_method_3_code 54 1 55 := Or.inl ⟨1, (by decide +kernel), by decide, rfl⟩
theorem c15_55 : Dc prog_57_method_3_code 55 .iadd 1 56 := ⟨(by decide +kernel), rfl⟩
theorem c15_56 : Dc prog_57_method_3_code 56 (.putfield 24) 3 59 := ⟨(by decide +kernel), rfl⟩
theorem c15_59 : Dal prog_57_method_3_code 59 0 60 := Or.inr ⟨0, (by decide +kernel), rfl, rfl⟩
theorem c15_60 : Dc prog_57_method_3_code 60 (.getfield 21) 3 63 := ⟨(by decide +kernel), rfl⟩
theorem c15_63 : Dil prog_57_method_3_code 63 3 64 := Or.inr ⟨3, (by decide +kernel), rfl, rfl⟩
theorem c15_64 : Dil prog_57_method_3_code 64 2 65 := Or.inr ⟨2, (by decide +kernel), rfl, rfl⟩
theorem c15_65 : Dc prog_57_method_3_code 65 .iastore 1 66 := ⟨(by decide +kernel), rfl⟩
theorem c15_66 : Dc prog_57_method_3_code 66 .return_ 1 67 := ⟨(by decide +kernel), rfl⟩
theorem c19_0 : Dal prog_57_method_4_code 0 0 1 := Or.inr ⟨0, (by decide +kernel), rfl, rfl⟩
theorem c19_1 : Dil prog_57_method_4_code 1 1 2 := Or.inr ⟨1, (by decide +kernel), rfl, rfl⟩
theorem c19_2 : Dc prog_57_method_4_code 2 (.invokevirtual 13) 3 5 := ⟨(by decide +kernel), rfl⟩
theorem c19_5 : Dis prog_57_method_4_code 5 2 6 := Or.inr ⟨2, (by decide +kernel), rfl, rfl⟩
theorem c19_6 : Dal prog_57_method_4_code 6 0 7 := Or.inr ⟨0, (by decide +kernel), rfl, rfl⟩
theorem c19_7 : Dc prog_57_method_4_code 7 (.getfield 17) 3 10 := ⟨(by decide +kernel), rfl⟩
theorem c19_10 : Dil prog_57_method_4_code 10 2 11 := Or.inr ⟨2, (by decide +kernel), rfl, rfl⟩
theorem c19_11 : Dc prog_57_method_4_code 11 .iaload 1 12 := ⟨(by decide +kernel), rfl⟩
theorem c19_12 : Dp prog_57_method_4_code 12 (-1) 13 := Or.inl ⟨(-1), (by decide +kernel), by decide, rfl⟩
theorem c19_13 : Db prog_57_method_4_code 13 (.if_icmp .ne) 16 17 := ⟨4, (by decide +kernel), rfl, by decide, by decide⟩
theorem c19_16 : Dc prog_57_method_4_code 16 .return_ 1 17 := ⟨(by decide +kernel), rfl⟩
theorem c19_17 : Dal prog_57_method_4_code 17 0 18 := Or.inr ⟨0, (by decide +kernel), rfl, rfl⟩
theorem c19_18 : Dc prog_57_method_4_code 18 .dup 1 19 := ⟨(by decide +kernel), rfl⟩
theorem c19_19 : Dc prog_57_method_4_code 19 (.getfield 24) 3 22 := ⟨(by decide +kernel), rfl⟩
theorem c19_22 : Dp prog_57_method_4_code 22 1 23 := Or.inl ⟨1, (by decide +kernel), by decide, rfl⟩
theorem c19_23 : Dc prog_57_method_4_code 23 .isub 1 24 := ⟨(by decide +kernel), rfl⟩
theorem c19_24 : Dc prog_57_method_4_code 24 (.putfield 24) 3 27 := ⟨(by decide +kernel), rfl⟩
theorem c19_27 : Dal prog_57_method_4_code 27 0 28 := Or.inr ⟨0, (by decide +kernel), rfl, rfl⟩
theorem c19_28 : Dc prog_57_method_4_code 28 (.getfield 17) 3 31 := ⟨(by decide +kernel), rfl⟩
theorem c19_31 : Dc prog_57_method_4_code 31 .arraylength 1 32 := ⟨(by decide +kernel), rfl⟩
theorem c19_32 : Dp prog_57_method_4_code 32 1 33 := Or.inl ⟨1, (by decide +kernel), by decide, rfl⟩
theorem c19_33 : Dc prog_57_method_4_code 33 .isub 1 34 := ⟨(by decide +kernel), rfl⟩
theorem c19_34 : Dis prog_57_method_4_code 34 3 35 := Or.inr ⟨3, (by decide +kernel), rfl, rfl⟩
theorem c19_35 : Dil prog_57_method_4_code 35 2 36 := Or.inr ⟨2, (by decide +kernel), rfl, rfl⟩
theorem c19_36 : Dp prog_57_method_4_code 36 1 37 := Or.inl ⟨1, (by decide +kernel), by decide, rfl⟩
theorem c19_37 : Dc prog_57_method_4_code 37 .iadd 1 38 := ⟨(by decide +kernel), rfl⟩
theorem c19_38 : Dil prog_57_method_4_code 38 3 39 := Or.inr ⟨3, (by decide +kernel), rfl, rfl⟩
theorem c19_39 : Dc prog_57_method_4_code 39 .iand 1 40 := ⟨(by decide +kernel), rfl⟩
theorem c19_40 : Dis prog_57_method_4_code 40 4 42 := Or.inl ⟨(by decide +kernel), rfl⟩
theorem c19_42 : Dal prog_57_method_4_code 42 0 43 := Or.inr ⟨0, (by decide +kernel), rfl, rfl⟩
theorem c19_43 : Dc prog_57_method_4_code 43 (.getfield 17) 3 46 := ⟨(by decide +kernel), rfl⟩
theorem c19_46 : Dil prog_57_method_4_code 46 4 48 := Or.inl ⟨(by decide +kernel), rfl⟩
theorem c19_48 : Dc prog_57_method_4_code 48 .iaload 1 49 := ⟨(by decide +kernel), rfl⟩
theorem c19_49 : Dp prog_57_method_4_code 49 (-1) 50 := Or.inl ⟨(-1), (by decide +kernel), by decide, rfl⟩
theorem c19_50 : Db prog_57_method_4_code 50 (.if_icmp .eq) 53 122 := ⟨72, (by decide +kernel), rfl, by decide, by decide⟩
theorem c19_53 : Dal prog_57_method_4_code 53 0 54 := Or.inr ⟨0, (by decide +kernel), rfl, rfl⟩
theorem c19_54 : Dal prog_57_method_4_code 54 0 55 := Or.inr ⟨0, (by decide +kernel), rfl, rfl⟩
theorem c19_55 : Dc prog_57_method_4_code 55 (.getfield 17) 3 58 := ⟨(by decide +kernel), rfl⟩
theorem c19_58 : Dil prog_57_method_4_code 58 4 60 := Or.inl ⟨(by decide +kernel), rfl⟩
theorem c19_60 : Dc prog_57_method_4_code 60 .iaload 1 61 := ⟨(by decide +kernel), rfl⟩
theorem c19_61 : Dc prog_57_method_4_code 61 (.invokevirtual 31) 3 64 := ⟨(by decide +kernel), rfl⟩
theorem c19_64 : Dis prog_57_method_4_code 64 5 66 := Or.inl ⟨(by decide +kernel), rfl⟩
theorem c19_66 : Dil prog_57_method_4_code 66 4 68 := Or.inl ⟨(by decide +kernel), rfl⟩
theorem c19_68 : Dil prog_57_method_4_code 68 5 70 := Or.inl ⟨(by decide +kernel), rfl⟩
theorem c19_70 : Dc prog_57_method_4_code 70 .isub 1 71 := ⟨(by decide +kernel), rfl⟩
theorem c19_71 : Dil prog_57_method_4_code 71 3 72 := Or.inr ⟨3, (by decide +kernel), rfl, rfl⟩
theorem c19_72 : Dc prog_57_method_4_code 72 .iand 1 73 := ⟨(by decide +kernel), rfl⟩
theorem c19_73 : Dil prog_57_method_4_code 73 4 75 := Or.inl ⟨(by decide +kernel), rfl⟩
theorem c19_75 : Dil prog_57_method_4_code 75 2 76 := Or.inr ⟨2, (by decide +kernel), rfl, rfl⟩
theorem c19_76 : Dc prog_57_method_4_code 76 .isub 1 77 := ⟨(by decide +kernel), rfl⟩
theorem c19_77 : Dil prog_57_method_4_code 77 3 78 := Or.inr ⟨3, (by decide +kernel), rfl, rfl⟩
theorem c19_78 : Dc prog_57_method_4_code 78 .iand 1 79 := ⟨(by decide +kernel), rfl⟩
theorem c19_79 : Db prog_57_method_4_code 79 (.if_icmp .lt) 82 111 := ⟨32, (by decide +kernel), rfl, by decide, by decide⟩
theorem c19_82 : Dal prog_57_method_4_code 82 0 83 := Or.inr ⟨0, (by decide +kernel), rfl, rfl⟩
theorem c19_83 : Dc prog_57_method_4_code 83 (.getfield 17) 3 86 := ⟨(by decide +kernel), rfl⟩
theorem c19_86 : Dil prog_57_method_4_code 86 2 87 := Or.inr ⟨2, (by decide +kernel), rfl, rfl⟩
theorem c19_87 : Dal prog_57_method_4_code 87 0 88 := Or.inr ⟨0, (by decide +kernel), rfl, rfl⟩
theorem c19_88 : Dc prog_57_method_4_code 88 (.getfield 17) 3 91 := ⟨(by decide +kernel), rfl⟩
theorem c19_91 : Dil prog_57_method_4_code 91 4 93 := Or.inl ⟨(by decide +kernel), rfl⟩
theorem c19_93 : Dc prog_57_method_4_code 93 .iaload 1 94 := ⟨(by decide +kernel), rfl⟩
theorem c19_94 : Dc prog_57_method_4_code 94 .iastore 1 95 := ⟨(by decide +kernel), rfl⟩
theorem c19_95 : Dal prog_57_method_4_code 95 0 96 := Or.inr ⟨0, (by decide +kernel), rfl, rfl⟩
theorem c19_96 : Dc prog_57_method_4_code 96 (.getfield 21) 3 99 := ⟨(by decide +kernel), rfl⟩
theorem c19_99 : Dil prog_57_method_4_code 99 2 100 := Or.inr ⟨2, (by decide +kernel), rfl, rfl⟩
theorem c19_100 : Dal prog_57_method_4_code 100 0 101 := Or.inr ⟨0, (by decide +kernel), rfl, rfl⟩
theorem c19_101 : Dc prog_57_method_4_code 101 (.getfield 21) 3 104 := ⟨(by decide +kernel), rfl⟩
theorem c19_104 : Dil prog_57_method_4_code 104 4 106 := Or.inl ⟨(by decide +kernel), rfl⟩
theorem c19_106 : Dc prog_57_method_4_code 106 .iaload 1 107 := ⟨(by decide +kernel), rfl⟩
theorem c19_107 : Dc prog_57_method_4_code 107 .iastore 1 108 := ⟨(by decide +kernel), rfl⟩
theorem c19_108 : Dil prog_57_method_4_code 108 4 110 := Or.inl ⟨(by decide +kernel), rfl⟩
theorem c19_110 : Dis prog_57_method_4_code 110 2 111 := Or.inr ⟨2, (by decide +kernel), rfl, rfl⟩
theorem c19_111 : Dil prog_57_method_4_code 111 4 113 := Or.inl ⟨(by decide +kernel), rfl⟩
theorem c19_113 : Dp prog_57_method_4_code 113 1 114 := Or.inl ⟨1, (by decide +kernel), by decide, rfl⟩
theorem c19_114 : Dc prog_57_method_4_code 114 .iadd 1 115 := ⟨(by decide +kernel), rfl⟩
theorem c19_115 : Dil prog_57_method_4_code 115 3 116 := Or.inr ⟨3, (by decide +kernel), rfl, rfl⟩
theorem c19_116 : Dc prog_57_method_4_code 116 .iand 1 117 := ⟨(by decide +kernel), rfl⟩
theorem c19_117 : Dis prog_57_method_4_code 117 4 119 := Or.inl ⟨(by decide +kernel), rfl⟩
theorem c19_119 : Db prog_57_method_4_code 119 .goto 122 42 := ⟨(-77), (by decide +kernel), rfl, by decide, by decide⟩
theorem c19_122 : Dal prog_57_method_4_code 122 0 123 := Or.inr ⟨0, (by decide +kernel), rfl, rfl⟩
theorem c19_123 : Dc prog_57_method_4_code 123 (.getfield 17) 3 126 := ⟨(by decide +kernel), rfl⟩
theorem c19_126 : Dil prog_57_method_4_code 126 2 127 := Or.inr ⟨2, (by decide +kernel), rfl, rfl⟩
theorem c19_127 : Dp prog_57_method_4_code 127 (-1) 128 := Or.inl ⟨(-1), (by decide +kernel), by decide, rfl⟩
theorem c19_128 : Dc prog_57_method_4_code 128 .iastore 1 129 := ⟨(by decide +kernel), rfl⟩
theorem c19_129 : Dc prog_57_method_4_code 129 .return_ 1 130 := ⟨(by decide +kernel), rfl⟩
theorem c1_0 : Dal prog_91_method_1_code 0 0 1 := Or.inr ⟨0, (by decide +kernel), rfl, rfl⟩
theorem c1_1 : Dc prog_91_method_1_code 1 (.invokespecial 1) 3 4 := ⟨(by decide +kernel), rfl⟩
theorem c1_4 : Dal prog_91_method_1_code 4 0 5 := Or.inr ⟨0, (by decide +kernel), rfl, rfl⟩
theorem c1_5 : Dp prog_91_method_1_code 5 8 7 := Or.inr (Or.inl ⟨8, (by decide +kernel), by decide, rfl⟩)
theorem c1_7 : Dc prog_91_method_1_code 7 (.newarray .int) 2 9 := ⟨(by decide +kernel), rfl⟩
theorem c1_9 : Dc prog_91_method_1_code 9 (.putfield 7) 3 12 := ⟨(by decide +kernel), rfl⟩
theorem c1_12 : Dal prog_91_method_1_code 12 0 13 := Or.inr ⟨0, (by decide +kernel), rfl, rfl⟩
theorem c1_13 : Dp prog_91_method_1_code 13 8 15 := Or.inr (Or.inl ⟨8, (by decide +kernel), by decide, rfl⟩)
theorem c1_15 : Dc prog_91_method_1_code 15 (.anewarray 13) 3 18 := ⟨(by decide +kernel), rfl⟩
theorem c1_18 : Dc prog_91_method_1_code 18 (.putfield 15) 3 21 := ⟨(by decide +kernel), rfl⟩
theorem c1_21 : Dal prog_91_method_1_code 21 0 22 := Or.inr ⟨0, (by decide +kernel), rfl, rfl⟩
theorem c1_22 : Dc prog_91_method_1_code 22 (.new 19) 3 25 := ⟨(by decide +kernel), rfl⟩
theorem c1_25 : Dc prog_91_method_1_code 25 .dup 1 26 := ⟨(by decide +kernel), rfl⟩
theorem c1_26 : Dc prog_91_method_1_code 26 (.invokespecial 21) 3 29 := ⟨(by decide +kernel), rfl⟩
theorem c1_29 : Dc prog_91_method_1_code 29 (.putfield 22) 3 32 := ⟨(by decide +kernel), rfl⟩
theorem c1_32 : Dc prog_91_method_1_code 32 .return_ 1 33 := ⟨(by decide +kernel), rfl⟩
theorem c14_0 : Dal prog_91_method_7_code 0 0 1 := Or.inr ⟨0, (by decide +kernel), rfl, rfl⟩
theorem c14_1 : Dc prog_91_method_7_code 1 (.getfield 26) 3 4 := ⟨(by decide +kernel), rfl⟩
theorem c14_4 : Dal prog_91_method_7_code 4 0 5 := Or.inr ⟨0, (by decide +kernel), rfl, rfl⟩
theorem c14_5 : Dc prog_91_method_7_code 5 (.getfield 7) 3 8 := ⟨(by decide +kernel), rfl⟩
theorem c14_8 : Dc prog_91_method_7_code 8 .arraylength 1 9 := ⟨(by decide +kernel), rfl⟩
theorem c14_9 : Db prog_91_method_7_code 9 (.if_icmp .ne) 12 49 := ⟨40, (by decide +kernel), rfl, by decide, by decide⟩
theorem c14_12 : Dal prog_91_method_7_code 12 0 13 := Or.inr ⟨0, (by decide +kernel), rfl, rfl⟩
theorem c14_13 : Dal prog_91_method_7_code 13 0 14 := Or.inr ⟨0, (by decide +kernel), rfl, rfl⟩
theorem c14_14 : Dc prog_91_method_7_code 14 (.getfield 7) 3 17 := ⟨(by decide +kernel), rfl⟩
theorem c14_17 : Dal prog_91_method_7_code 17 0 18 := Or.inr ⟨0, (by decide +kernel), rfl, rfl⟩
theorem c14_18 : Dc prog_91_method_7_code 18 (.getfield 26) 3 21 := ⟨(by decide +kernel), rfl⟩
theorem c14_21 : Dp prog_91_method_7_code 21 2 22 := Or.inl ⟨2, (by decide +kernel), by decide, rfl⟩
theorem c14_22 : Dc prog_91_method_7_code 22 .imul 1 23 := ⟨(by decide +kernel), rfl⟩
theorem c14_23 : Dc prog_91_method_7_code 23 (.invokestatic 34) 3 26 := ⟨(by decide +kernel), rfl⟩
theorem c14_26 : Dc prog_91_method_7_code 26 (.putfield 7) 3 29 := ⟨(by decide +kernel), rfl⟩
theorem c14_29 : Dal prog_91_method_7_code 29 0 30 := Or.inr ⟨0, (by decide +kernel), rfl, rfl⟩
theorem c14_30 : Dal prog_91_method_7_code 30 0 31 := Or.inr ⟨0, (by decide +kernel), rfl, rfl⟩
theorem c14_31 : Dc prog_91_method_7_code 31 (.getfield 15) 3 34 := ⟨(by decide +kernel), rfl⟩
theorem c14_34 : Dal prog_91_method_7_code 34 0 35 := Or.inr ⟨0, (by decide +kernel), rfl, rfl⟩
theorem c14_35 : Dc prog_91_method_7_code 35 (.getfield 26) 3 38 := ⟨(by decide +kernel), rfl⟩
theorem c14_38 : Dp prog_91_method_7_code 38 2 39 := Or.inl ⟨2, (by decide +kernel), by decide, rfl⟩
theorem c14_39 : Dc prog_91_method_7_code 39 .imul 1 40 := ⟨(by decide +kernel), rfl⟩
theorem c14_40 : Dc prog_91_method_7_code 40 (.invokestatic 40) 3 43 := ⟨(by decide +kernel), rfl⟩
theorem c14_43 : Dc prog_91_method_7_code 43 (.checkcast 43) 3 46 := ⟨(by decide +kernel), rfl⟩
theorem c14_46 : Dc prog_91_method_7_code 46 (.putfield 15) 3 49 := ⟨(by decide +kernel), rfl⟩
theorem c14_49 : Dal prog_91_method_7_code 49 0 50 := Or.inr ⟨0, (by decide +kernel), rfl, rfl⟩
theorem c14_50 : Dc prog_91_method_7_code 50 (.getfield 7) 3 53 := ⟨(by decide +kernel), rfl⟩
theorem c14_53 : Dal prog_91_method_7_code 53 0 54 := Or.inr ⟨0, (by decide +kernel), rfl, rfl⟩
theorem c14_54 : Dc prog_91_method_7_code 54 (.getfield 26) 3 57 := ⟨(by decide +kernel), rfl⟩
theorem c14_57 : Dil prog_91_method_7_code 57 1 58 := Or.inr ⟨1, (by decide +kernel), rfl, rfl⟩
theorem c14_58 : Dc prog_91_method_7_code 58 .iastore 1 59 := ⟨(by decide +kernel), rfl⟩
theorem c14_59 : Dal prog_91_method_7_code 59 0 60 := Or.inr ⟨0, (by decide +kernel), rfl, rfl⟩
theorem c14_60 : Dc prog_91_method_7_code 60 (.getfield 15) 3 63 := ⟨(by decide +kernel), rfl⟩
theorem c14_63 : Dal prog_91_method_7_code 63 0 64 := Or.inr ⟨0, (by decide +kernel), rfl, rfl⟩
theorem c14_64 : Dc prog_91_method_7_code 64 (.getfield 26) 3 67 := ⟨(by decide +kernel), rfl⟩
theorem c14_67 : Dal prog_91_method_7_code 67 2 68 := Or.inr ⟨2, (by decide +kernel), rfl, rfl⟩
theorem c14_68 : Dc prog_91_method_7_code 68 .aastore 1 69 := ⟨(by decide +kernel), rfl⟩
theorem c14_69 : Dal prog_91_method_7_code 69 0 70 := Or.inr ⟨0, (by decide +kernel), rfl, rfl⟩
theorem c14_70 : Dc prog_91_method_7_code 70 (.getfield 22) 3 73 := ⟨(by decide +kernel), rfl⟩
theorem c14_73 : Dil prog_91_method_7_code 73 1 74 := Or.inr ⟨1, (by decide +kernel), rfl, rfl⟩
theorem c14_74 : Dal prog_91_method_7_code 74 0 75 := Or.inr ⟨0, (by decide +kernel), rfl, rfl⟩
theorem c14_75 : Dc prog_91_method_7_code 75 (.getfield 26) 3 78 := ⟨(by decide +kernel), rfl⟩
theorem c14_78 : Dc prog_91_method_7_code 78 (.invokevirtual 44) 3 81 := ⟨(by decide +kernel), rfl⟩
theorem c14_81 : Dal prog_91_method_7_code 81 0 82 := Or.inr ⟨0, (by decide +kernel), rfl, rfl⟩
theorem c14_82 : Dc prog_91_method_7_code 82 .dup 1 83 := ⟨(by decide +kernel), rfl⟩
theorem c14_83 : Dc prog_91_method_7_code 83 (.getfield 26) 3 86 := ⟨(by decide +kernel), rfl⟩
theorem c14_86 : Dp prog_91_method_7_code 86 1 87 := Or.inl ⟨1, (by decide +kernel), by decide, rfl⟩
theorem c14_87 : Dc prog_91_method_7_code 87 .iadd 1 88 := ⟨(by decide +kernel), rfl⟩
theorem c14_88 : Dc prog_91_method_7_code 88 (.putfield 26) 3 91 := ⟨(by decide +kernel), rfl⟩
theorem c14_91 : Dc prog_91_method_7_code 91 .return_ 1 92 := ⟨(by decide +kernel), rfl⟩
theorem c6_0 : Dal prog_91_method_8_code 0 0 1 := Or.inr ⟨0, (by decide +kernel), rfl, rfl⟩
theorem c6_1 : Dc prog_91_method_8_code 1 (.getfield 26) 3 4 := ⟨(by decide +kernel), rfl⟩
theorem c6_4 : Dil prog_91_method_8_code 4 1 5 := Or.inr ⟨1, (by decide +kernel), rfl, rfl⟩
theorem c6_5 : Db prog_91_method_8_code 5 (.if_icmp .le) 8 47 := ⟨42, (by decide +kernel), rfl, by decide, by decide⟩
theorem c6_8 : Dal prog_91_method_8_code 8 0 9 := Or.inr ⟨0, (by decide +kernel), rfl, rfl⟩
theorem c6_9 : Dc prog_91_method_8_code 9 .dup 1 10 := ⟨(by decide +kernel), rfl⟩
theorem c6_10 : Dc prog_91_method_8_code 10 (.getfield 26) 3 13 := ⟨(by decide +kernel), rfl⟩
theorem c6_13 : Dp prog_91_method_8_code 13 1 14 := Or.inl ⟨1, (by decide +kernel), by decide, rfl⟩
theorem c6_14 : Dc prog_91_method_8_code 14 .isub 1 15 := ⟨(by decide +kernel), rfl⟩
theorem c6_15 : Dc prog_91_method_8_code 15 (.putfield 26) 3 18 := ⟨(by decide +kernel), rfl⟩
theorem c6_18 : Dal prog_91_method_8_code 18 0 19 := Or.inr ⟨0, (by decide +kernel), rfl, rfl⟩
theorem c6_19 : Dc prog_91_method_8_code 19 (.getfield 22) 3 22 := ⟨(by decide +kernel), rfl⟩
theorem c6_22 : Dal prog_91_method_8_code 22 0 23 := Or.inr ⟨0, (by decide +kernel), rfl, rfl⟩
theorem c6_23 : Dc prog_91_method_8_code 23 (.getfield 7) 3 26 := ⟨(by decide +kernel), rfl⟩
theorem c6_26 : Dal prog_91_method_8_code 26 0 27 := Or.inr ⟨0, (by decide +kernel), rfl, rfl⟩
theorem c6_27 : Dc prog_91_method_8_code 27 (.getfield 26) 3 30 := ⟨(by decide +kernel), rfl⟩
theorem c6_30 : Dc prog_91_method_8_code 30 .iaload 1 31 := ⟨(by decide +kernel), rfl⟩
theorem c6_31 : Dc prog_91_method_8_code 31 (.invokevirtual 48) 3 34 := ⟨(by decide +kernel), rfl⟩
theorem c6_34 : Dal prog_91_method_8_code 34 0 35 := Or.inr ⟨0, (by decide +kernel), rfl, rfl⟩
theorem c6_35 : Dc prog_91_method_8_code 35 (.getfield 15) 3 38 := ⟨(by decide +kernel), rfl⟩
theorem c6_38 : Dal prog_91_method_8_code 38 0 39 := Or.inr ⟨0, (by decide +kernel), rfl, rfl⟩
theorem c6_39 : Dc prog_91_method_8_code 39 (.getfield 26) 3 42 := ⟨(by decide +kernel), rfl⟩
theorem c6_42 : Dc prog_91_method_8_code 42 .aconst_null 1 43 := ⟨(by decide +kernel), rfl⟩
theorem c6_43 : Dc prog_91_method_8_code 43 .aastore 1 44 := ⟨(by decide +kernel), rfl⟩
theorem c6_44 : Db prog_91_method_8_code 44 .goto 47 0 := ⟨(-44), (by decide +kernel), rfl, by decide, by decide⟩
theorem c6_47 : Dc prog_91_method_8_code 47 .return_ 1 48 := ⟨(by decide +kernel), rfl⟩
theorem c10_0 : Dal prog_91_method_6_code 0 0 1 := Or.inr ⟨0, (by decide +kernel), rfl, rfl⟩
theorem c10_1 : Dc prog_91_method_6_code 1 (.getfield 22) 3 4 := ⟨(by decide +kernel), rfl⟩
theorem c10_4 : Dil prog_91_method_6_code 4 1 5 := Or.inr ⟨1, (by decide +kernel), rfl, rfl⟩
theorem c10_5 : Dc prog_91_method_6_code 5 (.invokevirtual 30) 3 8 := ⟨(by decide +kernel), rfl⟩
theorem c10_8 : Dc prog_91_method_6_code 8 .ireturn 1 9 := ⟨(by decide +kernel), rfl⟩
theorem c17_0 : Dal prog_91_method_3_code 0 0 1 := Or.inr ⟨0, (by decide +kernel), rfl, rfl⟩
theorem c17_1 : Dc prog_91_method_3_code 1 (.getfield 7) 3 4 := ⟨(by decide +kernel), rfl⟩
theorem c17_4 : Dil prog_91_method_3_code 4 1 5 := Or.inr ⟨1, (by decide +kernel), rfl, rfl⟩
theorem c17_5 : Dc prog_91_method_3_code 5 .iaload 1 6 := ⟨(by decide +kernel), rfl⟩
theorem c17_6 : Dc prog_91_method_3_code 6 .ireturn 1 7 := ⟨(by decide +kernel), rfl⟩
theorem c18_0 : Dal prog_91_method_4_code 0 0 1 := Or.inr ⟨0, (by decide +kernel), rfl, rfl⟩
theorem c18_1 : Dc prog_91_method_4_code 1 (.getfield 15) 3 4 := ⟨(by decide +kernel), rfl⟩
theorem c18_4 : Dil prog_91_method_4_code 4 1 5 := Or.inr ⟨1, (by decide +kernel), rfl, rfl⟩
theorem c18_5 : Dc prog_91_method_4_code 5 .aaload 1 6 := ⟨(by decide +kernel), rfl⟩
theorem c18_6 : Dc prog_91_method_4_code 6 .areturn 1 7 := ⟨(by decide +kernel), rfl⟩
theorem c8_0 : Dal prog_91_method_2_code 0 0 1 := Or.inr ⟨0, (by decide +kernel), rfl, rfl⟩
theorem c8_1 : Dc prog_91_method_2_code 1 (.getfield 26) 3 4 := ⟨(by decide +kernel), rfl⟩
theorem c8_4 : Dc prog_91_method_2_code 4 .ireturn 1 5 := ⟨(by decide +kernel), rfl⟩
theorem c9_0 : Dil method_3_code 0 1 1 := Or.inr ⟨1, (by decide +kernel), rfl, rfl⟩
theorem c9_1 : Dil method_3_code 1 4 3 := Or.inl ⟨(by decide +kernel), rfl⟩
theorem c9_3 : Db method_3_code 3 (.if_icmp .ge) 6 10 := ⟨7, (by decide +kernel), rfl, by decide, by decide⟩
theorem c9_6 : Dil method_3_code 6 1 7 := Or.inr ⟨1, (by decide +kernel), rfl, rfl⟩
theorem c9_7 : Db method_3_code 7 .goto 10 11 := ⟨4, (by decide +kernel), rfl, by decide, by decide⟩
theorem c9_10 : Dp method_3_code 10 (-1) 11 := Or.inl ⟨(-1), (by decide +kernel), by decide, rfl⟩
theorem c9_11 : Dis method_3_code 11 6 13 := Or.inl ⟨(by decide +kernel), rfl⟩
theorem c9_13 : Dal method_3_code 13 0 14 := Or.inr ⟨0, (by decide +kernel), rfl, rfl⟩
theorem c9_14 : Dil method_3_code 14 2 15 := Or.inr ⟨2, (by decide +kernel), rfl, rfl⟩
theorem c9_15 : Dc method_3_code 15 (.invokevirtual 43) 3 18 := ⟨(by decide +kernel), rfl⟩
theorem c9_18 : Dil method_3_code 18 6 20 := Or.inl ⟨(by decide +kernel), rfl⟩
theorem c9_20 : Db method_3_code 20 (.if_icmp .eq) 23 25 := ⟨5, (by decide +kernel), rfl, by decide, by decide⟩
theorem c9_23 : Dp method_3_code 23 0 24 := Or.inl ⟨0, (by decide +kernel), by decide, rfl⟩
theorem c9_24 : Dc method_3_code 24 .ireturn 1 25 := ⟨(by decide +kernel), rfl⟩
theorem c9_25 : Dil method_3_code 25 1 26 := Or.inr ⟨1, (by decide +kernel), rfl, rfl⟩
theorem c9_26 : Dil method_3_code 26 4 28 := Or.inl ⟨(by decide +kernel), rfl⟩
theorem c9_28 : Db method_3_code 28 (.if_icmp .ge) 31 56 := ⟨28, (by decide +kernel), rfl, by decide, by decide⟩
theorem c9_31 : Dal method_3_code 31 0 32 := Or.inr ⟨0, (by decide +kernel), rfl, rfl⟩
theorem c9_32 : Dil method_3_code 32 1 33 := Or.inr ⟨1, (by decide +kernel), rfl, rfl⟩
theorem c9_33 : Dc method_3_code 33 (.invokevirtual 47) 3 36 := ⟨(by decide +kernel), rfl⟩
theorem c9_36 : Dil method_3_code 36 2 37 := Or.inr ⟨2, (by decide +kernel), rfl, rfl⟩
theorem c9_37 : Db method_3_code 37 (.if_icmp .ne) 40 54 := ⟨17, (by decide +kernel), rfl, by decide, by decide⟩
theorem c9_40 : Dal method_3_code 40 0 41 := Or.inr ⟨0, (by decide +kernel), rfl, rfl⟩
theorem c9_41 : Dil method_3_code 41 1 42 := Or.inr ⟨1, (by decide +kernel), rfl, rfl⟩
theorem c9_42 : Dc method_3_code 42 (.invokevirtual 50) 3 45 := ⟨(by decide +kernel), rfl⟩
theorem c9_45 : Dal method_3_code 45 5 47 := Or.inl ⟨(by decide +kernel), rfl⟩
theorem c9_47 : Db method_3_code 47 (.if_acmp .ne) 50 54 := ⟨7, (by decide +kernel), rfl, by decide, by decide⟩
theorem c9_50 : Dp method_3_code 50 1 51 := Or.inl ⟨1, (by decide +kernel), by decide, rfl⟩
theorem c9_51 : Db method_3_code 51 .goto 54 55 := ⟨4, (by decide +kernel), rfl, by decide, by decide⟩
theorem c9_54 : Dp method_3_code 54 0 55 := Or.inl ⟨0, (by decide +kernel), by decide, rfl⟩
theorem c9_55 : Dc method_3_code 55 .ireturn 1 56 := ⟨(by decide +kernel), rfl⟩
theorem c9_56 : Dil method_3_code 56 1 57 := Or.inr ⟨1, (by decide +kernel), rfl, rfl⟩
theorem c9_57 : Dil method_3_code 57 3 58 := Or.inr ⟨3, (by decide +kernel), rfl, rfl⟩
theorem c9_58 : Db method_3_code 58 (.if_icmp .ge) 61 75 := ⟨17, (by decide +kernel), rfl, by decide, by decide⟩
theorem c9_61 : Dal method_3_code 61 0 62 := Or.inr ⟨0, (by decide +kernel), rfl, rfl⟩
theorem c9_62 : Dil method_3_code 62 1 63 := Or.inr ⟨1, (by decide +kernel), rfl, rfl⟩
theorem c9_63 : Dc method_3_code 63 (.invokevirtual 50) 3 66 := ⟨(by decide +kernel), rfl⟩
theorem c9_66 : Db method_3_code 66 .ifnonnull 69 73 := ⟨7, (by decide +kernel), rfl, by decide, by decide⟩
theorem c9_69 : Dp method_3_code 69 1 70 := Or.inl ⟨1, (by decide +kernel), by decide, rfl⟩
theorem c9_70 : Db method_3_code 70 .goto 73 74 := ⟨4, (by decide +kernel), rfl, by decide, by decide⟩
theorem c9_73 : Dp method_3_code 73 0 74 := Or.inl ⟨0, (by decide +kernel), by decide, rfl⟩
theorem c9_74 : Dc method_3_code 74 .ireturn 1 75 := ⟨(by decide +kernel), rfl⟩
theorem c9_75 : Dp method_3_code 75 1 76 := Or.inl ⟨1, (by decide +kernel), by decide, rfl⟩
theorem c9_76 : Dc method_3_code 76 .ireturn 1 77 := ⟨(by decide +kernel), rfl⟩
theorem c7_0 : Dil jdk_29_method_69_code 0 0 1 := Or.inr ⟨0, (by decide +kernel), rfl, rfl⟩
theorem c7_1 : Dil jdk_29_method_69_code 1 1 2 := Or.inr ⟨1, (by decide +kernel), rfl, rfl⟩
theorem c7_2 : Db jdk_29_method_69_code 2 (.if_icmp .gt) 5 9 := ⟨7, (by decide +kernel), rfl, by decide, by decide⟩
theorem c7_5 : Dil jdk_29_method_69_code 5 0 6 := Or.inr ⟨0, (by decide +kernel), rfl, rfl⟩
theorem c7_6 : Db jdk_29_method_69_code 6 .goto 9 10 := ⟨4, (by decide +kernel), rfl, by decide, by decide⟩
theorem c7_9 : Dil jdk_29_method_69_code 9 1 10 := Or.inr ⟨1, (by decide +kernel), rfl, rfl⟩
theorem c7_10 : Dc jdk_29_method_69_code 10 .ireturn 1 11 := ⟨(by decide +kernel), rfl⟩
theorem c0_0 : Dil code 0 0 1 := Or.inr ⟨0, at_0, rfl, rfl⟩
theorem c0_1 : Dc code 1 (.ldc 7) 2 3 := ⟨at_1, rfl⟩
theorem c0_3 : Dc code 3 .iand 1 4 := ⟨at_3, rfl⟩
theorem c0_4 : Dp code 4 5 5 := Or.inl ⟨5, at_4, by decide, rfl⟩
theorem c0_5 : Dc code 5 .irem 1 6 := ⟨at_5, rfl⟩
theorem c0_6 : Dis code 6 6 8 := Or.inl ⟨at_6, rfl⟩
theorem c0_8 : Dil code 8 1 9 := Or.inr ⟨1, at_8, rfl, rfl⟩
theorem c0_9 : Db code 9 (.ifCond .ge) 12 19 := ⟨10, at_9, rfl, by decide, by decide⟩
theorem c0_12 : Dil code 12 1 13 := Or.inr ⟨1, at_12, rfl, rfl⟩
theorem c0_13 : Dc code 13 (.ldc 7) 2 15 := ⟨at_13, rfl⟩
theorem c0_15 : Dc code 15 .iand 1 16 := ⟨at_15, rfl⟩
theorem c0_16 : Db code 16 .goto 19 23 := ⟨7, at_16, rfl, by decide, by decide⟩
theorem c0_19 : Dil code 19 1 20 := Or.inr ⟨1, at_19, rfl, rfl⟩
theorem c0_20 : Dp code 20 6 22 := Or.inr (Or.inl ⟨6, at_20, by decide, rfl⟩)
theorem c0_22 : Dc code 22 .irem 1 23 := ⟨at_22, rfl⟩
theorem c0_23 : Dis code 23 7 25 := Or.inl ⟨at_23, rfl⟩
theorem c0_25 : Dil code 25 2 26 := Or.inr ⟨2, at_25, rfl, rfl⟩
theorem c0_26 : Dc code 26 (.ldc 8) 2 28 := ⟨at_26, rfl⟩
theorem c0_28 : Dc code 28 .iand 1 29 := ⟨at_28, rfl⟩
theorem c0_29 : Dis code 29 8 31 := Or.inl ⟨at_29, rfl⟩
theorem c0_31 : Dil code 31 8 33 := Or.inl ⟨at_31, rfl⟩
theorem c0_33 : Dp code 33 1 34 := Or.inl ⟨1, at_33, by decide, rfl⟩
theorem c0_34 : Dc code 34 .iadd 1 35 := ⟨at_34, rfl⟩
theorem c0_35 : Dil code 35 3 36 := Or.inr ⟨3, at_35, rfl, rfl⟩
theorem c0_36 : Dc code 36 (.ldc 9) 2 38 := ⟨at_36, rfl⟩
theorem c0_38 : Dc code 38 .iand 1 39 := ⟨at_38, rfl⟩
theorem c0_39 : Dc code 39 .iadd 1 40 := ⟨at_39, rfl⟩
theorem c0_40 : Dis code 40 9 42 := Or.inl ⟨at_40, rfl⟩
theorem c0_42 : Dil code 42 9 44 := Or.inl ⟨at_42, rfl⟩
theorem c0_44 : Dp code 44 1 45 := Or.inl ⟨1, at_44, by decide, rfl⟩
theorem c0_45 : Dc code 45 .iadd 1 46 := ⟨at_45, rfl⟩
theorem c0_46 : Dil code 46 4 48 := Or.inl ⟨at_46, rfl⟩
theorem c0_48 : Dc code 48 (.ldc 9) 2 50 := ⟨at_48, rfl⟩
theorem c0_50 : Dc code 50 .iand 1 51 := ⟨at_50, rfl⟩
theorem c0_51 : Dc code 51 .iadd 1 52 := ⟨at_51, rfl⟩
theorem c0_52 : Dis code 52 10 54 := Or.inl ⟨at_52, rfl⟩
theorem c0_54 : Dil code 54 10 56 := Or.inl ⟨at_54, rfl⟩
theorem c0_56 : Dp code 56 1 57 := Or.inl ⟨1, at_56, by decide, rfl⟩
theorem c0_57 : Dc code 57 .iadd 1 58 := ⟨at_57, rfl⟩
theorem c0_58 : Dil code 58 5 60 := Or.inl ⟨at_58, rfl⟩
theorem c0_60 : Dc code 60 (.ldc 9) 2 62 := ⟨at_60, rfl⟩
theorem c0_62 : Dc code 62 .iand 1 63 := ⟨at_62, rfl⟩
theorem c0_63 : Dc code 63 .iadd 1 64 := ⟨at_63, rfl⟩
theorem c0_64 : Dis code 64 11 66 := Or.inl ⟨at_64, rfl⟩
theorem c0_66 : Dc code 66 (.getstatic 10) 3 69 := ⟨at_66, rfl⟩
theorem c0_69 : Das code 69 12 71 := Or.inl ⟨at_69, rfl⟩
theorem c0_71 : Dc code 71 (.new 16) 3 74 := ⟨at_71, rfl⟩
theorem c0_74 : Dc code 74 .dup 1 75 := ⟨at_74, rfl⟩
theorem c0_75 : Dc code 75 (.invokespecial 18) 3 78 := ⟨at_75, rfl⟩
theorem c0_78 : Das code 78 13 80 := Or.inl ⟨at_78, rfl⟩
theorem c0_80 : Dil code 80 6 82 := Or.inl ⟨at_80, rfl⟩
theorem c0_82 : Db code 82 (.ifCond .le) 85 94 := ⟨12, at_82, rfl, by decide, by decide⟩
theorem c0_85 : Dal code 85 13 87 := Or.inl ⟨at_85, rfl⟩
theorem c0_87 : Dil code 87 8 89 := Or.inl ⟨at_87, rfl⟩
theorem c0_89 : Dal code 89 12 91 := Or.inl ⟨at_89, rfl⟩
theorem c0_91 : Dc code 91 (.invokevirtual 19) 3 94 := ⟨at_91, rfl⟩
theorem c0_94 : Dil code 94 6 96 := Or.inl ⟨at_94, rfl⟩
theorem c0_96 : Dp code 96 1 97 := Or.inl ⟨1, at_96, by decide, rfl⟩
theorem c0_97 : Db code 97 (.if_icmp .le) 100 109 := ⟨12, at_97, rfl, by decide, by decide⟩
theorem c0_100 : Dal code 100 13 102 := Or.inl ⟨at_100, rfl⟩
theorem c0_102 : Dil code 102 9 104 := Or.inl ⟨at_102, rfl⟩
theorem c0_104 : Dal code 104 12 106 := Or.inl ⟨at_104, rfl⟩
theorem c0_106 : Dc code 106 (.invokevirtual 19) 3 109 := ⟨at_106, rfl⟩
theorem c0_109 : Dil code 109 6 111 := Or.inl ⟨at_109, rfl⟩
theorem c0_111 : Dp code 111 2 112 := Or.inl ⟨2, at_111, by decide, rfl⟩
theorem c0_112 : Db code 112 (.if_icmp .le) 115 124 := ⟨12, at_112, rfl, by decide, by decide⟩
theorem c0_115 : Dal code 115 13 117 := Or.inl ⟨at_115, rfl⟩
theorem c0_117 : Dil code 117 10 119 := Or.inl ⟨at_117, rfl⟩
theorem c0_119 : Dal code 119 12 121 := Or.inl ⟨at_119, rfl⟩
theorem c0_121 : Dc code 121 (.invokevirtual 19) 3 124 := ⟨at_121, rfl⟩
theorem c0_124 : Dil code 124 6 126 := Or.inl ⟨at_124, rfl⟩
theorem c0_126 : Dp code 126 3 127 := Or.inl ⟨3, at_126, by decide, rfl⟩
theorem c0_127 : Db code 127 (.if_icmp .le) 130 139 := ⟨12, at_127, rfl, by decide, by decide⟩
theorem c0_130 : Dal code 130 13 132 := Or.inl ⟨at_130, rfl⟩
theorem c0_132 : Dil code 132 11 134 := Or.inl ⟨at_132, rfl⟩
theorem c0_134 : Dal code 134 12 136 := Or.inl ⟨at_134, rfl⟩
theorem c0_136 : Dc code 136 (.invokevirtual 19) 3 139 := ⟨at_136, rfl⟩
theorem c0_139 : Dal code 139 13 141 := Or.inl ⟨at_139, rfl⟩
theorem c0_141 : Dil code 141 7 143 := Or.inl ⟨at_141, rfl⟩
theorem c0_143 : Dc code 143 (.invokevirtual 23) 3 146 := ⟨at_143, rfl⟩
theorem c0_146 : Dil code 146 6 148 := Or.inl ⟨at_146, rfl⟩
theorem c0_148 : Dil code 148 7 150 := Or.inl ⟨at_148, rfl⟩
theorem c0_150 : Dc code 150 (.invokestatic 27) 3 153 := ⟨at_150, rfl⟩
theorem c0_153 : Dis code 153 14 155 := Or.inl ⟨at_153, rfl⟩
theorem c0_155 : Dal code 155 13 157 := Or.inl ⟨at_155, rfl⟩
theorem c0_157 : Dc code 157 (.invokevirtual 33) 3 160 := ⟨at_157, rfl⟩
theorem c0_160 : Dil code 160 14 162 := Or.inl ⟨at_160, rfl⟩
theorem c0_162 : Db code 162 (.if_icmp .ne) 165 237 := ⟨75, at_162, rfl, by decide, by decide⟩
theorem c0_165 : Dal code 165 13 167 := Or.inl ⟨at_165, rfl⟩
theorem c0_167 : Dp code 167 0 168 := Or.inl ⟨0, at_167, by decide, rfl⟩
theorem c0_168 : Dil code 168 8 170 := Or.inl ⟨at_168, rfl⟩
theorem c0_170 : Dil code 170 6 172 := Or.inl ⟨at_170, rfl⟩
theorem c0_172 : Dil code 172 14 174 := Or.inl ⟨at_172, rfl⟩
theorem c0_174 : Dal code 174 12 176 := Or.inl ⟨at_174, rfl⟩
theorem c0_176 : Dc code 176 (.invokestatic 37) 3 179 := ⟨at_176, rfl⟩
theorem c0_179 : Db code 179 (.ifCond .eq) 182 237 := ⟨58, at_179, rfl, by decide, by decide⟩
theorem c0_182 : Dal code 182 13 184 := Or.inl ⟨at_182, rfl⟩
theorem c0_184 : Dp code 184 1 185 := Or.inl ⟨1, at_184, by decide, rfl⟩
theorem c0_185 : Dil code 185 9 187 := Or.inl ⟨at_185, rfl⟩
theorem c0_187 : Dil code 187 6 189 := Or.inl ⟨at_187, rfl⟩
theorem c0_189 : Dil code 189 14 191 := Or.inl ⟨at_189, rfl⟩
theorem c0_191 : Dal code 191 12 193 := Or.inl ⟨at_191, rfl⟩
theorem c0_193 : Dc code 193 (.invokestatic 37) 3 196 := ⟨at_193, rfl⟩
theorem c0_196 : Db code 196 (.ifCond .eq) 199 237 := ⟨41, at_196, rfl, by decide, by decide⟩
theorem c0_199 : Dal code 199 13 201 := Or.inl ⟨at_199, rfl⟩
theorem c0_201 : Dp code 201 2 202 := Or.inl ⟨2, at_201, by decide, rfl⟩
theorem c0_202 : Dil code 202 10 204 := Or.inl ⟨at_202, rfl⟩
theorem c0_204 : Dil code 204 6 206 := Or.inl ⟨at_204, rfl⟩
theorem c0_206 : Dil code 206 14 208 := Or.inl ⟨at_206, rfl⟩
theorem c0_208 : Dal code 208 12 210 := Or.inl ⟨at_208, rfl⟩
theorem c0_210 : Dc code 210 (.invokestatic 37) 3 213 := ⟨at_210, rfl⟩
theorem c0_213 : Db code 213 (.ifCond .eq) 216 237 := ⟨24, at_213, rfl, by decide, by decide⟩
theorem c0_216 : Dal code 216 13 218 := Or.inl ⟨at_216, rfl⟩
theorem c0_218 : Dp code 218 3 219 := Or.inl ⟨3, at_218, by decide, rfl⟩
theorem c0_219 : Dil code 219 11 221 := Or.inl ⟨at_219, rfl⟩
theorem c0_221 : Dil code 221 6 223 := Or.inl ⟨at_221, rfl⟩
theorem c0_223 : Dil code 223 14 225 := Or.inl ⟨at_223, rfl⟩
theorem c0_225 : Dal code 225 12 227 := Or.inl ⟨at_225, rfl⟩
theorem c0_227 : Dc code 227 (.invokestatic 37) 3 230 := ⟨at_227, rfl⟩
theorem c0_230 : Db code 230 (.ifCond .eq) 233 237 := ⟨7, at_230, rfl, by decide, by decide⟩
theorem c0_233 : Dp code 233 1 234 := Or.inl ⟨1, at_233, by decide, rfl⟩
theorem c0_234 : Db code 234 .goto 237 238 := ⟨4, at_234, rfl, by decide, by decide⟩
theorem c0_237 : Dp code 237 0 238 := Or.inl ⟨0, at_237, by decide, rfl⟩
theorem c0_238 : Dc code 238 .ireturn 1 239 := ⟨at_238, rfl⟩

/-! ## the table, as lists -/
def own_g (l : List Int32) (i : Nat) : Int32 := l.getD i 0
def own_hash (b : Nat) (key : Int32) : Int32 := XT.ushr (key * (-1640531527)) (32 - Int32.ofNat b)
def own_home (b : Nat) (key : Int32) : Nat := (own_hash b key).toNatClampNeg
def own_d (N a j : Nat) : Nat := (j + N - a) % N
theorem own_hash_val (b : Nat) (hb : 1 ≤ b ∧ b ≤ 3) (key : Int32) : own_home b key < 2 ^ b ∧ own_hash b key = Int32.ofNat (own_home b key) := by
  have h : (own_hash b key).toBitVec.toNat < 2 ^ b := by
    unfold own_hash XT.ushr
    show ((key * (-1640531527)).toUInt32 >>> ((32 - Int32.ofNat b) &&& 31).toUInt32).toNat < 2 ^ b
    rw [UInt32.toNat_shiftRight, Nat.shiftRight_eq_div_pow]
    have hlt := (key * (-1640531527)).toUInt32.toNat_lt
    obtain rfl | rfl | rfl : b = 1 ∨ b = 2 ∨ b = 3 := by omega
    · rw [show (((32 - Int32.ofNat 1) &&& 31).toUInt32).toNat % 32 = 31 by decide]; omega
    · rw [show (((32 - Int32.ofNat 2) &&& 31).toUInt32).toNat % 32 = 30 by decide]; omega
    · rw [show (((32 - Int32.ofNat 3) &&& 31).toUInt32).toNat % 32 = 29 by decide]; omega
  have h8 : 2 ^ b ≤ 8 := by obtain rfl | rfl | rfl : b = 1 ∨ b = 2 ∨ b = 3 := by omega
                            all_goals decide
  have e : (own_hash b key).toInt = (own_hash b key).toBitVec.toNat := by
    show (own_hash b key).toBitVec.toInt = _
    rw [BitVec.toInt_eq_toNat_cond, if_pos (by omega)]
  have hh : own_home b key = (own_hash b key).toBitVec.toNat := by
    unfold own_home; show (own_hash b key).toInt.toNat = _; rw [e]; rfl
  refine ⟨by rw [hh]; exact h, ?_⟩
  apply Int32.toInt_inj.mp
  rw [e, hh, Int32.toInt_ofNat_of_lt (by omega)]
/-- slot j is where a probe for key stops -/
def own_Slot (b : Nat) (ks : List Int32) (key : Int32) (j : Nat) : Prop :=
  j < 2 ^ b ∧ (∀ t, t < own_d (2 ^ b) (own_home b key) j → own_g ks ((own_home b key + t) % 2 ^ b) ≠ -1 ∧ own_g ks ((own_home b key + t) % 2 ^ b) ≠ key) ∧ (own_g ks j = -1 ∨ own_g ks j = key)
def own_cnt (ks : List Int32) : Nat := ks.countP (fun k => k != -1)
/-- the table holds the map F, n entries -/
def own_Rep (b : Nat) (ks vs : List Int32) (n : Nat) (F : Int32 → Int32) : Prop :=
  (1 ≤ b ∧ b ≤ 3) ∧ ks.length = 2 ^ b ∧ vs.length = 2 ^ b ∧ own_cnt ks = n ∧ 2 * n ≤ 2 ^ b ∧
  (∀ i, i < 2 ^ b → own_g ks i ≠ -1 → ∀ t, t ≤ own_d (2 ^ b) (own_home b (own_g ks i)) i → own_g ks ((own_home b (own_g ks i) + t) % 2 ^ b) ≠ -1) ∧
  (∀ i j, i < 2 ^ b → j < 2 ^ b → own_g ks i ≠ -1 → own_g ks i = own_g ks j → i = j) ∧
  (∀ i, i < 2 ^ b → own_g ks i ≠ -1 → F (own_g ks i) = own_g vs i) ∧
  (∀ key, key ≠ -1 → (∀ i, i < 2 ^ b → own_g ks i ≠ key) → F key = -1)
theorem own_g_set (l : List Int32) (i j : Nat) (x : Int32) (hi : i < l.length) : own_g (l.set i x) j = if j = i then x else own_g l j := by
  unfold own_g
  rw [List.getD_eq_getElem?_getD, List.getD_eq_getElem?_getD, List.getElem?_set]
  by_cases h : i = j
  · subst h; simp [hi]
  · rw [if_neg h, if_neg (fun u => h u.symm)]
theorem own_free_of (ks : List Int32) (h : own_cnt ks < ks.length) : ∃ f, f < ks.length ∧ own_g ks f = -1 := by
  induction ks with
  | nil => simp at h
  | cons k r ih =>
    by_cases hk : k = -1
    · exact ⟨0, by simp, by simp [own_g, hk]⟩
    · have : own_cnt (k :: r) = own_cnt r + 1 := by unfold own_cnt; rw [List.countP_cons_of_pos]; simpa using hk
      obtain ⟨f, h1, h2⟩ := ih (by rw [this, List.length_cons] at h; omega)
      exact ⟨f + 1, by simp; omega, by simpa [own_g] using h2⟩
theorem own_cnt_set (ks : List Int32) : ∀ (i : Nat) (x : Int32), i < ks.length → own_cnt (ks.set i x) + (if own_g ks i = -1 then 0 else 1) = own_cnt ks + (if x = -1 then 0 else 1) := by
  induction ks with
  | nil => intro i x h; simp at h
  | cons k r ih =>
    intro i x h
    cases i with
    | zero =>
      have e : own_g (k :: r) 0 = k := rfl
      rw [e, List.set_cons_zero]
      unfold own_cnt
      rw [List.countP_cons, List.countP_cons]
      by_cases h1 : k = -1 <;> by_cases h2 : x = -1 <;> simp [h1, h2]
    | succ i =>
      have e : own_g (k :: r) (i + 1) = own_g r i := by simp [own_g]
      have := ih i x (by simpa using h)
      rw [e, List.set_cons_succ]
      unfold own_cnt at *
      rw [List.countP_cons, List.countP_cons]
      omega
theorem own_pow3 (b : Nat) (hb : 1 ≤ b ∧ b ≤ 3) : (2 ^ b = 2 ∨ 2 ^ b = 4 ∨ 2 ^ b = 8) := by
  obtain rfl | rfl | rfl : b = 1 ∨ b = 2 ∨ b = 3 := by omega
  all_goals decide
theorem own_d_lt (N a j : Nat) (h : 0 < N) : own_d N a j < N := Nat.mod_lt _ h
theorem own_d_at (N a j : Nat) (hN : N = 2 ∨ N = 4 ∨ N = 8) (ha : a < N) (hj : j < N) : (a + own_d N a j) % N = j := by
  unfold own_d; rcases hN with rfl | rfl | rfl <;> omega
theorem own_d_of (N a t : Nat) (hN : N = 2 ∨ N = 4 ∨ N = 8) (ha : a < N) (ht : t < N) : own_d N a ((a + t) % N) = t := by
  unfold own_d; rcases hN with rfl | rfl | rfl <;> omega
/-- a free stop means the key isn't there -/
theorem own_absent {b : Nat} {ks vs : List Int32} {n : Nat} {F : Int32 → Int32} (Rp : own_Rep b ks vs n F) {key : Int32} (hk : key ≠ -1) {j : Nat} (S : own_Slot b ks key j) (hj : own_g ks j = -1) : ∀ i, i < 2 ^ b → own_g ks i ≠ key := by
  obtain ⟨hb, h1, h2, h3, h4, h5, h6, h7, h8⟩ := Rp
  intro i hi e
  have hN := own_pow3 b hb
  have hh := (own_hash_val b hb key).1
  have r := h5 i hi (by rw [e]; exact hk)
  rw [e] at r
  have di := own_d_at (2 ^ b) _ i hN hh hi
  have dj := own_d_at (2 ^ b) _ j hN hh S.1
  by_cases hlt : own_d (2 ^ b) (own_home b key) i < own_d (2 ^ b) (own_home b key) j
  · have := (S.2.1 _ hlt).2
    rw [di] at this
    exact this e
  · have := r (own_d (2 ^ b) (own_home b key) j) (by omega)
    rw [dj] at this
    exact this hj
theorem own_get {b : Nat} {ks vs : List Int32} {n : Nat} {F : Int32 → Int32} (Rp : own_Rep b ks vs n F) {key : Int32} (hk : key ≠ -1) {j : Nat} (S : own_Slot b ks key j) : (if own_g ks j = -1 then -1 else own_g vs j) = F key := by
  by_cases hj : own_g ks j = -1
  · rw [if_pos hj]
    exact (Rp.2.2.2.2.2.2.2.2 key hk (own_absent Rp hk S hj)).symm
  · rw [if_neg hj]
    rcases S.2.2 with h | h
    · exact absurd h hj
    · rw [← h, Rp.2.2.2.2.2.2.2.1 j S.1 hj]
def own_up (F : Int32 → Int32) (key v : Int32) : Int32 → Int32 := fun k => if k = key then v else F k
theorem own_put_old {b : Nat} {ks vs : List Int32} {n : Nat} {F : Int32 → Int32} (Rp : own_Rep b ks vs n F) {key v : Int32} (hk : key ≠ -1) {j : Nat} (S : own_Slot b ks key j) (hj : ¬ own_g ks j = -1) : own_Rep b ks (vs.set j v) n (own_up F key v) := by
  have hkey : own_g ks j = key := S.2.2.resolve_left hj
  obtain ⟨hb, h1, h2, h3, h4, h5, h6, h7, h8⟩ := Rp
  refine ⟨hb, h1, by simpa using h2, h3, h4, h5, h6, fun i hi hn => ?_, fun k hk' hn => ?_⟩
  · rw [own_g_set vs j i v (by rw [h2]; exact S.1)]
    unfold own_up
    by_cases e : own_g ks i = key
    · rw [if_pos e, if_pos (h6 i j hi S.1 hn (e.trans hkey.symm))]
    · rw [if_neg e, if_neg (fun u => e (by rw [u]; exact hkey)), h7 i hi hn]
  · unfold own_up
    rw [if_neg (fun u => hn j S.1 (by rw [hkey, u]))]
    exact h8 k hk' hn
theorem own_put_new {b : Nat} {ks vs : List Int32} {n : Nat} {F : Int32 → Int32} (Rp : own_Rep b ks vs n F) {key v : Int32} (hk : key ≠ -1) {j : Nat} (S : own_Slot b ks key j) (hj : own_g ks j = -1) (hn2 : 2 * (n + 1) ≤ 2 ^ b) : own_Rep b (ks.set j key) (vs.set j v) (n + 1) (own_up F key v) := by
  have hab := own_absent Rp hk S hj
  obtain ⟨hb, h1, h2, h3, h4, h5, h6, h7, h8⟩ := Rp
  have hN := own_pow3 b hb
  have hh := (own_hash_val b hb key).1
  have gk : ∀ i, own_g (ks.set j key) i = if i = j then key else own_g ks i := fun i => own_g_set ks j i key (by rw [h1]; exact S.1)
  have gv : ∀ i, own_g (vs.set j v) i = if i = j then v else own_g vs i := fun i => own_g_set vs j i v (by rw [h2]; exact S.1)
  refine ⟨hb, by simpa using h1, by simpa using h2, ?_, hn2, fun i hi hne t ht => ?_, fun i i' hi hi' hne e => ?_, fun i hi hne => ?_, fun k hk' hne => ?_⟩
  · have := own_cnt_set ks j key (by rw [h1]; exact S.1)
    rw [if_pos hj, if_neg hk, h3] at this
    omega
  · rw [gk i] at hne ht ⊢
    rw [gk]
    by_cases hij : i = j
    · rw [if_pos hij] at ht ⊢
      subst hij
      by_cases e : (own_home b key + t) % 2 ^ b = i
      · rw [if_pos e]; exact hk
      · rw [if_neg e]
        refine (S.2.1 t ?_).1
        have : t ≠ own_d (2 ^ b) (own_home b key) i := fun u => e (by rw [u]; exact own_d_at _ _ _ hN hh hi)
        omega
    · rw [if_neg hij] at hne ht ⊢
      by_cases e : (own_home b (own_g ks i) + t) % 2 ^ b = j
      · rw [if_pos e]; exact hk
      · rw [if_neg e]; exact h5 i hi hne t ht
  · rw [gk i, gk i'] at e
    rw [gk i] at hne
    by_cases a1 : i = j <;> by_cases a2 : i' = j
    · omega
    · rw [if_pos a1, if_neg a2] at e; exact absurd e.symm (hab i' hi')
    · rw [if_neg a1, if_pos a2] at e; exact absurd e (hab i hi)
    · rw [if_neg a1, if_neg a2] at e; rw [if_neg a1] at hne; exact h6 i i' hi hi' hne e
  · rw [gk i] at hne ⊢
    rw [gv i]
    unfold own_up
    by_cases hij : i = j
    · simp [hij]
    · rw [if_neg hij] at hne ⊢
      rw [if_neg hij, if_neg (hab i hi), h7 i hi hne]
  · unfold own_up
    have hkj := hne j S.1
    rw [gk j, if_pos rfl] at hkj
    rw [if_neg (fun u => hkj u.symm)]
    refine h8 k hk' fun i hi u => ?_
    by_cases hij : i = j
    · subst hij; rw [hj] at u; exact hk' u.symm
    · have := hne i hi; rw [gk i, if_neg hij] at this; exact this u
theorem own_g_rep (n i : Nat) (x : Int32) (h : i < n) : own_g (List.replicate n x) i = x := by
  unfold own_g; rw [List.getD_eq_getElem?_getD, List.getElem?_replicate, if_pos h]; rfl
theorem own_empty (b : Nat) (hb : 1 ≤ b ∧ b ≤ 3) : own_Rep b (List.replicate (2 ^ b) (-1)) (List.replicate (2 ^ b) 0) 0 (fun _ => -1) := by
  refine ⟨hb, by simp, by simp, by simp [own_cnt, List.countP_replicate], Nat.zero_le _, fun i hi hne => ?_, fun i j hi hj hne => ?_, fun i hi hne => ?_, fun _ _ _ => rfl⟩ <;> exact absurd (own_g_rep _ _ _ hi) hne
theorem own_congr {b : Nat} {ks vs : List Int32} {n : Nat} {F F' : Int32 → Int32} (Rp : own_Rep b ks vs n F) (h : ∀ k, k ≠ -1 → F k = F' k) : own_Rep b ks vs n F' := by
  obtain ⟨hb, h1, h2, h3, h4, h5, h6, h7, h8⟩ := Rp
  exact ⟨hb, h1, h2, h3, h4, h5, h6, fun i hi hne => by rw [← h _ hne]; exact h7 i hi hne, fun k hk hne => by rw [← h _ hk]; exact h8 k hk hne⟩
/-! ## the rehash -/
def own_part (F : Int32 → Int32) (ks : List Int32) (s : Nat) : Int32 → Int32 := fun k => if k ∈ ks.take s then F k else -1
theorem own_mem_take (ks : List Int32) (s : Nat) (hs : s ≤ ks.length) (k : Int32) : k ∈ ks.take s ↔ ∃ i, i < s ∧ own_g ks i = k := by
  rw [List.mem_iff_getElem?]
  constructor
  · rintro ⟨i, hi⟩
    rw [List.getElem?_take] at hi
    split at hi
    · rename_i h
      exact ⟨i, h, by unfold own_g; rw [List.getD_eq_getElem?_getD, hi]; rfl⟩
    · cases hi
  · rintro ⟨i, hi, e⟩
    refine ⟨i, ?_⟩
    rw [List.getElem?_take, if_pos hi]
    unfold own_g at e
    rw [List.getD_eq_getElem?_getD, List.getElem?_eq_getElem (by omega)] at e
    rw [List.getElem?_eq_getElem (by omega)]
    simpa using e
def own_Gr (b : Nat) (ks vs : List Int32) (F : Int32 → Int32) (s : Nat) (ks' vs' : List Int32) : Prop :=
  own_Rep (b + 1) ks' vs' (own_cnt (ks.take s)) (own_part F ks s) ∧ ∀ i, i < 2 ^ (b + 1) → own_g ks' i ≠ -1 → own_g ks' i ∈ ks.take s
theorem own_gr_start (b : Nat) (hb : 1 ≤ b ∧ b ≤ 2) (ks vs : List Int32) (F : Int32 → Int32) : own_Gr b ks vs F 0 (List.replicate (2 ^ (b + 1)) (-1)) (List.replicate (2 ^ (b + 1)) 0) := by
  refine ⟨?_, fun i hi hne => absurd (own_g_rep _ _ _ hi) hne⟩
  have := own_empty (b + 1) (by omega)
  have e : own_part F ks 0 = fun _ => -1 := by funext k; simp [own_part]
  rw [e]; simpa [own_cnt] using this
theorem own_take_succ (ks : List Int32) (s : Nat) (hs : s < ks.length) : ks.take (s + 1) = ks.take s ++ [own_g ks s] := by
  rw [List.take_add_one, List.getElem?_eq_getElem hs]
  unfold own_g
  rw [List.getD_eq_getElem?_getD, List.getElem?_eq_getElem hs]; rfl
theorem own_cnt_le (ks : List Int32) (s : Nat) : own_cnt (ks.take s) ≤ own_cnt ks := by
  unfold own_cnt; exact List.Sublist.countP_le (List.take_sublist s ks)
theorem own_gr_skip {b : Nat} {ks vs : List Int32} {F : Int32 → Int32} {s : Nat} {ks' vs' : List Int32} (hs : s < ks.length) (G : own_Gr b ks vs F s ks' vs') (h : own_g ks s = -1) : own_Gr b ks vs F (s + 1) ks' vs' := by
  have e := own_take_succ ks s hs
  have c : own_cnt (ks.take (s + 1)) = own_cnt (ks.take s) := by rw [e, h]; simp [own_cnt]
  refine ⟨?_, fun i hi hne => by rw [e]; exact List.mem_append_left _ (G.2 i hi hne)⟩
  rw [c]
  refine own_congr G.1 fun k hk => ?_
  unfold own_part
  rw [e, h]
  simp [hk]
theorem own_gr_step {b : Nat} {ks vs : List Int32} {n : Nat} {F : Int32 → Int32} (Rp : own_Rep b ks vs n F) {s : Nat} {ks' vs' : List Int32} (hs : s < 2 ^ b) (G : own_Gr b ks vs F s ks' vs') (h : own_g ks s ≠ -1) {j : Nat} (S : own_Slot (b + 1) ks' (own_g ks s) j) :
    own_Gr b ks vs F (s + 1) (ks'.set j (own_g ks s)) (vs'.set j (own_g vs s)) := by
  obtain ⟨hb, h1, h2, h3, h4, h5, h6, h7, h8⟩ := Rp
  have e := own_take_succ ks s (by omega)
  have c : own_cnt (ks.take (s + 1)) = own_cnt (ks.take s) + 1 := by rw [e]; unfold own_cnt; rw [List.countP_append, List.countP_cons_of_pos (by simpa using h)]; simp
  have cle := own_cnt_le ks (s + 1)
  have p2 : 2 ^ (b + 1) = 2 * 2 ^ b := by rw [Nat.pow_succ]; omega
  have hj : own_g ks' j = -1 := by
    rcases S.2.2 with q | q
    · exact q
    · have m := G.2 j S.1 (by rw [q]; exact h)
      rw [own_mem_take ks s (by omega), q] at m
      obtain ⟨i, hi, ei⟩ := m
      have := h6 s i hs (by omega) h ei.symm
      omega
  have P := own_put_new G.1 (v := own_g vs s) h S hj (by omega)
  rw [← c] at P
  have len' := G.1.2.1
  refine ⟨own_congr P fun k hk => ?_, fun i hi hne => ?_⟩
  · unfold own_up own_part
    rw [e]
    by_cases q : k = own_g ks s
    · rw [if_pos q, if_pos (by simp [q]), q, h7 s hs h]
    · rw [if_neg q]; simp [q]
  · rw [own_g_set ks' j i _ (by rw [len']; exact S.1)] at hne ⊢
    rw [e]
    split
    · simp
    · rename_i q
      rw [if_neg q] at hne
      exact List.mem_append_left _ (G.2 i hi hne)
theorem own_gr_end {b : Nat} {ks vs : List Int32} {n : Nat} {F : Int32 → Int32} (Rp : own_Rep b ks vs n F) {ks' vs' : List Int32} (G : own_Gr b ks vs F (2 ^ b) ks' vs') : own_Rep (b + 1) ks' vs' n F := by
  obtain ⟨hb, h1, h2, h3, h4, h5, h6, h7, h8⟩ := Rp
  have t : ks.take (2 ^ b) = ks := List.take_of_length_le (by omega)
  have g1 := G.1
  rw [t, h3] at g1
  refine own_congr g1 fun k hk => ?_
  unfold own_part
  rw [t]
  split
  · rfl
  · rename_i q
    refine (h8 k hk fun i hi u => q ?_).symm
    rw [← t, own_mem_take ks (2 ^ b) (by omega)]
    exact ⟨i, hi, u⟩
/-! ## round the ring -/
theorem own_L1 (N j f : Nat) (hN : N = 2 ∨ N = 4 ∨ N = 8) (hj : j < N) (hf : f < N) (h : f ≠ j) : 1 ≤ own_d N j ((j + 1) % N) ∧ own_d N j ((j + 1) % N) + own_d N ((j + 1) % N) f = own_d N j f := by
  unfold own_d; rcases hN with rfl | rfl | rfl <;> omega
theorem own_L2 (N j i : Nat) (hN : N = 2 ∨ N = 4 ∨ N = 8) (hj : j < N) (hi : i < N) (h : 1 ≤ own_d N j i) : ¬ own_d N j i < own_d N j ((j + 1) % N) := by
  unfold own_d at *; rcases hN with rfl | rfl | rfl <;> omega
theorem own_L3 (N m t i q : Nat) (hN : N = 2 ∨ N = 4 ∨ N = 8) (hm : m < N) (hi : i < N) (ht : t ≤ own_d N m i) (e : (m + t) % N = q) : own_d N q i ≤ own_d N m i := by
  unfold own_d at *; rcases hN with rfl | rfl | rfl <;> omega
theorem own_L4 (N m t i q s : Nat) (hN : N = 2 ∨ N = 4 ∨ N = 8) (hm : m < N) (hi : i < N) (hs : s < N) (ht : t ≤ own_d N m i) (e : (m + t) % N = q) (h : ¬ own_d N q i < own_d N q s) : own_d N m s ≤ own_d N m i := by
  unfold own_d at *; rcases hN with rfl | rfl | rfl <;> omega
theorem own_L5 (N q i : Nat) (hN : N = 2 ∨ N = 4 ∨ N = 8) (hq : q < N) (hi : i < N) (h : i ≠ q) : 1 ≤ own_d N q i := by
  unfold own_d; rcases hN with rfl | rfl | rfl <;> omega
/-! ## the removal -/
def own_Rm (b : Nat) (ks vs : List Int32) (n : Nat) (F : Int32 → Int32) (rk : Int32) (hole slot f : Nat) : Prop :=
  (1 ≤ b ∧ b ≤ 3) ∧ ks.length = 2 ^ b ∧ vs.length = 2 ^ b ∧ own_cnt ks = n ∧ 2 * n ≤ 2 ^ b ∧ (hole < 2 ^ b ∧ slot < 2 ^ b ∧ f < 2 ^ b) ∧ own_g ks hole ≠ -1 ∧ own_g ks f = -1 ∧
  (1 ≤ own_d (2 ^ b) hole slot ∧ own_d (2 ^ b) hole slot + own_d (2 ^ b) slot f = own_d (2 ^ b) hole f) ∧
  (∀ i, i < 2 ^ b → i ≠ hole → own_g ks i ≠ -1 → ∀ t, t ≤ own_d (2 ^ b) (own_home b (own_g ks i)) i → own_g ks ((own_home b (own_g ks i) + t) % 2 ^ b) ≠ -1) ∧
  (∀ i, i < 2 ^ b → 1 ≤ own_d (2 ^ b) hole i → own_d (2 ^ b) hole i < own_d (2 ^ b) hole slot → own_g ks i ≠ -1 ∧ own_d (2 ^ b) (own_home b (own_g ks i)) i < own_d (2 ^ b) hole i) ∧
  (∀ i j, i < 2 ^ b → j < 2 ^ b → i ≠ hole → j ≠ hole → own_g ks i ≠ -1 → own_g ks i = own_g ks j → i = j) ∧
  (∀ i, i < 2 ^ b → i ≠ hole → own_g ks i ≠ -1 → own_g ks i ≠ rk ∧ F (own_g ks i) = own_g vs i) ∧
  (∀ key, key ≠ -1 → key ≠ rk → (∀ i, i < 2 ^ b → i ≠ hole → own_g ks i ≠ key) → F key = -1)
theorem own_rm_start {b : Nat} {ks vs : List Int32} {n : Nat} {F : Int32 → Int32} (Rp : own_Rep b ks vs n F) {j : Nat} (hj : j < 2 ^ b) (hne : own_g ks j ≠ -1) : ∃ f, own_Rm b ks vs n F (own_g ks j) j ((j + 1) % 2 ^ b) f := by
  obtain ⟨hb, h1, h2, h3, h4, h5, h6, h7, h8⟩ := Rp
  have hN := own_pow3 b hb
  obtain ⟨f, hf, hff⟩ := own_free_of ks (by rw [h3, h1]; omega)
  rw [h1] at hf
  have hfj : f ≠ j := fun u => hne (u ▸ hff)
  refine ⟨f, hb, h1, h2, h3, h4, ⟨hj, Nat.mod_lt _ (by omega), hf⟩, hne, hff, ?_, fun i hi _ => h5 i hi, fun i hi a c => ?_, fun i i' hi hi' _ _ => h6 i i' hi hi', fun i hi hij hn => ⟨fun u => hij (h6 i j hi hj hn u), h7 i hi hn⟩, fun k hk hk' hn => h8 k hk fun i hi u => ?_⟩
  · exact own_L1 _ j f hN hj hf hfj
  · exact absurd c (own_L2 _ j i hN hj hi a)
  · by_cases hij : i = j
    · exact hk' (by rw [← u, hij])
    · exact hn i hi hij u
theorem own_rm_end {b : Nat} {ks vs : List Int32} {n : Nat} {F : Int32 → Int32} {rk : Int32} {hole slot f : Nat} (I : own_Rm b ks vs n F rk hole slot f) (hs : own_g ks slot = -1) : own_Rep b (ks.set hole (-1)) vs (n - 1) (own_up F rk (-1)) := by
  obtain ⟨hb, h1, h2, h3, h4, ⟨a1, a2, a3⟩, hh, hf, ⟨d1, d2⟩, h5, hsc, h6, h7, h8⟩ := I
  have hN := own_pow3 b hb
  have gk : ∀ i, own_g (ks.set hole (-1)) i = if i = hole then -1 else own_g ks i := fun i => own_g_set ks hole i _ (by rw [h1]; exact a1)
  have cs := own_cnt_set ks hole (-1) (by rw [h1]; exact a1)
  rw [if_neg hh, if_pos rfl, h3] at cs
  refine ⟨hb, by simpa using h1, h2, by omega, by omega, fun i hi hne t ht => ?_, fun i j hi hj hne e => ?_, fun i hi hne => ?_, fun k hk hne => ?_⟩
  · rw [gk i] at hne ht ⊢
    by_cases hi' : i = hole
    · rw [if_pos hi'] at hne; exact absurd rfl hne
    · rw [if_neg hi'] at hne ht ⊢
      rw [gk]
      have hm := (own_hash_val b hb (own_g ks i)).1
      have r := h5 i hi hi' hne
      have sc := fun c => (hsc i hi (own_L5 _ hole i hN a1 hi hi') c).2
      generalize own_home b (own_g ks i) = m at hm r ht sc ⊢
      have key : (m + t) % 2 ^ b ≠ hole := by
        intro u
        have hsl : i ≠ slot := fun v => hne (v ▸ hs)
        by_cases c : own_d (2 ^ b) hole i < own_d (2 ^ b) hole slot
        · have := sc c
          have := own_L3 _ m t i hole hN hm hi ht u
          omega
        · have := r (own_d (2 ^ b) m slot) (own_L4 _ m t i hole slot hN hm hi a2 ht u c)
          rw [own_d_at _ _ _ hN hm a2] at this
          exact this hs
      rw [if_neg key]
      exact r t ht
  · rw [gk i, gk j] at e
    rw [gk i] at hne
    by_cases c1 : i = hole
    · rw [if_pos c1] at hne; exact absurd rfl hne
    · rw [if_neg c1] at hne e
      by_cases c2 : j = hole
      · rw [if_pos c2] at e; exact absurd e hne
      · rw [if_neg c2] at e; exact h6 i j hi hj c1 c2 hne e
  · rw [gk i] at hne ⊢
    by_cases c1 : i = hole
    · rw [if_pos c1] at hne; exact absurd rfl hne
    · rw [if_neg c1] at hne ⊢
      obtain ⟨x1, x2⟩ := h7 i hi c1 hne
      unfold own_up; rw [if_neg x1, x2]
  · unfold own_up
    split
    · rfl
    · rename_i q
      refine h8 k hk q fun i hi c1 u => hne i hi ?_
      rw [gk i, if_neg c1]; exact u
theorem own_L6 (N q s f : Nat) (hN : N = 2 ∨ N = 4 ∨ N = 8) (hq : q < N) (hs : s < N) (hf : f < N) (hsf : s ≠ f) (h1 : 1 ≤ own_d N q s) (h2 : own_d N q s + own_d N s f = own_d N q f) :
    own_d N q ((s + 1) % N) = own_d N q s + 1 ∧ own_d N q ((s + 1) % N) + own_d N ((s + 1) % N) f = own_d N q f ∧ own_d N s ((s + 1) % N) = 1 ∧ own_d N s ((s + 1) % N) + own_d N ((s + 1) % N) f = own_d N s f := by
  unfold own_d at *; rcases hN with rfl | rfl | rfl <;> omega
theorem own_L7 (N q s i : Nat) (hN : N = 2 ∨ N = 4 ∨ N = 8) (hq : q < N) (hs : s < N) (hi : i < N) (h : own_d N q i = own_d N q s) : i = s := by
  unfold own_d at *; rcases hN with rfl | rfl | rfl <;> omega
theorem own_L8 (N m q s t : Nat) (hN : N = 2 ∨ N = 4 ∨ N = 8) (hm : m < N) (hq : q < N) (hs : s < N) (h : ¬ own_d N m s < own_d N q s) (ht : t ≤ own_d N m q) : t ≤ own_d N m s := by
  unfold own_d at *; rcases hN with rfl | rfl | rfl <;> omega
theorem own_rm_keep {b : Nat} {ks vs : List Int32} {n : Nat} {F : Int32 → Int32} {rk : Int32} {hole slot f : Nat} (I : own_Rm b ks vs n F rk hole slot f) (hs : own_g ks slot ≠ -1) (c : own_d (2 ^ b) (own_home b (own_g ks slot)) slot < own_d (2 ^ b) hole slot) :
    own_Rm b ks vs n F rk hole ((slot + 1) % 2 ^ b) f := by
  obtain ⟨hb, h1, h2, h3, h4, ⟨a1, a2, a3⟩, hh, hf, ⟨d1, d2⟩, h5, hsc, h6, h7, h8⟩ := I
  have hN := own_pow3 b hb
  have hsf : slot ≠ f := fun u => hs (u ▸ hf)
  obtain ⟨e1, e2, e3, e4⟩ := own_L6 _ hole slot f hN a1 a2 a3 hsf d1 d2
  refine ⟨hb, h1, h2, h3, h4, ⟨a1, Nat.mod_lt _ (by omega), a3⟩, hh, hf, ⟨by omega, e2⟩, h5, fun i hi x1 x2 => ?_, h6, h7, h8⟩
  by_cases q : own_d (2 ^ b) hole i < own_d (2 ^ b) hole slot
  · exact hsc i hi x1 q
  · obtain rfl := own_L7 _ hole slot i hN a1 a2 hi (by omega)
    exact ⟨hs, c⟩
theorem own_rm_move {b : Nat} {ks vs : List Int32} {n : Nat} {F : Int32 → Int32} {rk : Int32} {hole slot f : Nat} (I : own_Rm b ks vs n F rk hole slot f) (hs : own_g ks slot ≠ -1) (c : ¬ own_d (2 ^ b) (own_home b (own_g ks slot)) slot < own_d (2 ^ b) hole slot) :
    own_Rm b (ks.set hole (own_g ks slot)) (vs.set hole (own_g vs slot)) n F rk slot ((slot + 1) % 2 ^ b) f := by
  obtain ⟨hb, h1, h2, h3, h4, ⟨a1, a2, a3⟩, hh, hf, ⟨d1, d2⟩, h5, hsc, h6, h7, h8⟩ := I
  have hN := own_pow3 b hb
  have hsf : slot ≠ f := fun u => hs (u ▸ hf)
  have hsh : slot ≠ hole := fun u => by rw [u] at d1; unfold own_d at d1; rcases hN with q | q | q <;> simp [q] at d1
  have hhf : hole ≠ f := fun u => hh (u ▸ hf)
  obtain ⟨e1, e2, e3, e4⟩ := own_L6 _ hole slot f hN a1 a2 a3 hsf d1 d2
  have gk : ∀ i, own_g (ks.set hole (own_g ks slot)) i = if i = hole then own_g ks slot else own_g ks i := fun i => own_g_set ks hole i _ (by rw [h1]; exact a1)
  have gv : ∀ i, own_g (vs.set hole (own_g vs slot)) i = if i = hole then own_g vs slot else own_g vs i := fun i => own_g_set vs hole i _ (by rw [h2]; exact a1)
  have free : ∀ i, own_g (ks.set hole (own_g ks slot)) i = -1 ↔ own_g ks i = -1 := fun i => by
    rw [gk i]; split
    · rename_i q; rw [q]; exact ⟨fun u => absurd u hs, fun u => absurd u hh⟩
    · exact Iff.rfl
  have cs := own_cnt_set ks hole (own_g ks slot) (by rw [h1]; exact a1)
  rw [if_neg hh, if_neg hs, h3] at cs
  refine ⟨hb, by simpa using h1, by simpa using h2, by omega, h4, ⟨a2, Nat.mod_lt _ (by omega), a3⟩, fun u => hs ((free slot).mp u), (free f).mpr hf, ⟨by omega, e4⟩, fun i hi hne hn t ht => ?_, fun i hi x1 x2 => ?_, fun i j hi hj n1 n2 hn e => ?_, fun i hi hne hn => ?_, fun k hk hk' hn => ?_⟩
  · rw [Ne, free] at hn ⊢
    rw [gk i] at ht ⊢
    by_cases q : i = hole
    · rw [if_pos q] at ht ⊢
      refine h5 slot a2 hsh hs t ?_
      rw [q] at ht
      exact own_L8 _ _ hole slot t hN (own_hash_val b hb _).1 a1 a2 c ht
    · rw [if_neg q] at ht ⊢
      exact h5 i hi q hn t ht
  · omega
  · rw [Ne, free] at hn
    rw [gk i, gk j] at e
    by_cases c1 : i = hole <;> by_cases c2 : j = hole
    · omega
    · rw [if_pos c1, if_neg c2] at e; exact absurd (h6 slot j a2 hj hsh c2 hs e).symm n2
    · rw [if_neg c1, if_pos c2] at e; exact absurd (h6 i slot hi a2 c1 hsh hn e) n1
    · rw [if_neg c1, if_neg c2] at e; exact h6 i j hi hj c1 c2 hn e
  · rw [Ne, free] at hn
    rw [gk i, gv i]
    by_cases q : i = hole
    · rw [if_pos q, if_pos q]; exact h7 slot a2 hsh hs
    · rw [if_neg q, if_neg q]; exact h7 i hi q hn
  · refine h8 k hk hk' fun i hi q u => ?_
    by_cases e : i = slot
    · have := hn hole a1 (fun v => hsh v.symm)
      rw [gk hole, if_pos rfl] at this
      exact this (by rw [← e]; exact u)
    · have := hn i hi e
      rw [gk i, if_neg q] at this
      exact this u
/-! ## the ints of the walk -/
theorem own_find_stop {b : Nat} (hb : 1 ≤ b ∧ b ≤ 3) {ks : List Int32} {key : Int32} {t : Nat} (ht : t < 2 ^ b) (h : ∀ u, u < t → own_g ks ((own_home b key + u) % 2 ^ b) ≠ -1 ∧ own_g ks ((own_home b key + u) % 2 ^ b) ≠ key) (hs : own_g ks ((own_home b key + t) % 2 ^ b) = -1 ∨ own_g ks ((own_home b key + t) % 2 ^ b) = key) : own_Slot b ks key ((own_home b key + t) % 2 ^ b) := by
  have hN := own_pow3 b hb
  have hh := (own_hash_val b hb key).1
  refine ⟨Nat.mod_lt _ (by omega), fun u hu => h u ?_, hs⟩
  rw [own_d_of _ _ t hN hh ht] at hu
  exact hu
theorem own_next (N a t : Nat) : ((a + t) % N + 1) % N = (a + (t + 1)) % N := by rw [Nat.mod_add_mod, Nat.add_assoc]
theorem own_i_next : ∀ b, b ≤ 3 → ∀ s, s < 2 ^ b → (Int32.ofNat s + 1) &&& (Int32.ofNat (2 ^ b) - 1) = Int32.ofNat ((s + 1) % 2 ^ b) := by decide
theorem own_i_dist : ∀ b, b ≤ 3 → ∀ s, s < 2 ^ b → ∀ q, q < 2 ^ b → (Int32.ofNat s - Int32.ofNat q) &&& (Int32.ofNat (2 ^ b) - 1) = Int32.ofNat (own_d (2 ^ b) q s) := by decide
theorem own_i_lt : ∀ s, s < 8 → ∀ q, q < 8 → (Int32.ofNat s < Int32.ofNat q ↔ s < q) := by decide
theorem own_i_idx : ∀ s, s ≤ 8 → ¬ Int32.ofNat s < 0 ∧ (Int32.ofNat s).toNatClampNeg = s := by decide
theorem own_at (l : List Int32) (i : Nat) (h : i < l.length) : (l.map Value.int)[i]? = some (.int (own_g l i)) := by
  unfold own_g
  rw [List.getElem?_map, List.getElem?_eq_getElem h, List.getD_eq_getElem?_getD, List.getElem?_eq_getElem h]; rfl
theorem own_gr_dom {b : Nat} {ks vs : List Int32} {F : Int32 → Int32} {ks' vs' : List Int32} (hlen : ks.length = 2 ^ b) (G : own_Gr b ks vs F (2 ^ b) ks' vs') : ∀ i, i < 2 ^ (b + 1) → own_g ks' i ≠ -1 → ∃ i', i' < 2 ^ b ∧ own_g ks i' = own_g ks' i := fun i hi hne =>
  (own_mem_take ks (2 ^ b) (by omega) _).mp (G.2 i hi hne)

abbrev own_ia (l : List Int32) : Desc := .inr (.int, "[I", l.map Value.int)
theorem own_rd (l : List Int32) (s : Nat) (h : s < l.length ∧ s ≤ 8) : ¬ Int32.ofNat s < 0 ∧ (l.map Value.int)[(Int32.ofNat s).toNatClampNeg]? = some (.int (own_g l s)) := by
  have := own_i_idx s h.2
  exact ⟨this.1, by rw [this.2]; exact own_at l s h.1⟩
theorem own_wr (l : List Int32) (s : Nat) (h : s < l.length ∧ s ≤ 8) : ¬ Int32.ofNat s < 0 ∧ (Int32.ofNat s).toNatClampNeg < (l.map Value.int).length := by
  have := own_i_idx s h.2
  exact ⟨this.1, by rw [this.2, List.length_map]; exact h.1⟩
theorem own_upd (l : List Int32) (s : Nat) (h : s < l.length ∧ s ≤ 8) (x : Int32) : lupd (l.map Value.int) (Int32.ofNat s).toNatClampNeg (.int x) = (l.set s x).map Value.int := by
  rw [(own_i_idx s h.2).2, upd_set, List.map_set]
theorem own_ln (l : List Int32) (n : Nat) (h : l.length = n) : (l.map Value.int).length.toInt32 = Int32.ofNat n := by rw [List.length_map, h]
theorem own_shl : ∀ b, b ≤ 3 → (1 : Int32) <<< (Int32.ofNat b &&& 31) = Int32.ofNat (2 ^ b) := by decide
theorem own_newl (b : Nat) (hb : 1 ≤ b ∧ b ≤ 3) : ¬ Int32.ofNat (2 ^ b) < 0 ∧ (Int32.ofNat (2 ^ b)).toNatClampNeg ≤ 8 ∧ List.replicate (Int32.ofNat (2 ^ b)).toNatClampNeg (defaultValue .int) = (List.replicate (2 ^ b) (0 : Int32)).map Value.int := by
  have h8 : 2 ^ b ≤ 8 := by rcases own_pow3 b hb with h | h | h <;> omega
  have := own_i_idx (2 ^ b) h8
  rw [this.2, List.map_replicate]
  exact ⟨this.1, h8, rfl⟩
def own_fl (l : List Int32) (x : Int32) (i : Nat) : List Int32 := List.replicate i x ++ l.drop i
theorem own_fl_len (l : List Int32) (x : Int32) (i : Nat) (h : i ≤ l.length) : (own_fl l x i).length = l.length := by unfold own_fl; simp; omega
theorem own_fl_set (l : List Int32) (x : Int32) (i : Nat) (h : i < l.length) : (own_fl l x i).set i x = own_fl l x (i + 1) := by
  unfold own_fl
  rw [List.set_append_right _ _ (by simp), List.length_replicate, Nat.sub_self, List.drop_eq_getElem_cons h, List.set_cons_zero, List.replicate_succ', List.append_assoc]; rfl
theorem own_fl_end (l : List Int32) (x : Int32) : own_fl l x l.length = List.replicate l.length x := by unfold own_fl; simp
theorem own_ilt : ∀ s, s ≤ 8 → ∀ q, q ≤ 8 → (Int32.ofNat s < Int32.ofNat q ↔ s < q) := by decide
theorem own_isucc (s : Nat) : Int32.ofNat s + 1 = Int32.ofNat (s + 1) := (Int32.ofNat_succ s)
abbrev own_mv (kv vv : Value) (sz b : Int32) : Desc := .inl ("com/example/satisfy/satisfy/reasoner/IntMap", [(("com/example/satisfy/satisfy/reasoner/IntMap", "bits", "I"), .int b), (("com/example/satisfy/satisfy/reasoner/IntMap", "keys", "[I"), kv), (("com/example/satisfy/satisfy/reasoner/IntMap", "values", "[I"), vv), (("com/example/satisfy/satisfy/reasoner/IntMap", "size", "I"), .int sz)])
abbrev own_mo (ka va : Addr) (sz b : Int32) : Desc := own_mv (.ref ka) (.ref va) sz b
set_option maxRecDepth 65536 in
set_option maxHeartbeats 4000000 in
theorem rm_hash (l : Launch) (Z : State) (a0 : Array Value) (hw : ∀ d ∈ tables_1, d.before a0 Z = true) (h0 : Heap) (n0 : Nat) (M : List (Addr × Desc)) (m : Addr) (kv vv : Value) (sz : Int32) (b : Nat) (key : Int32) (P0 : Hp Z n0 h0 ((m, own_mv kv vv sz (Int32.ofNat b)) :: M)) :
    Con false l Z (⟨"com/example/satisfy/satisfy/reasoner/IntMap", "hash", "(I)I"⟩ : MethodName) prog_57_method_6_code 2 (some .int) ({ frames := 0, cells := 0, slots := 0, locals := 0 } : Room) #[(.ref m), (.int key)] h0 n0 (Ret (.int (own_hash b key)) h0) := by
  refine con_of (ls := [.val (.ref m), .val (.int key)]) (plainFor_of_name pn0) rfl ?_
  refine go_iload c13_0 rfl ?_
  refine go_ldcI (y := (⟨"com/example/satisfy/satisfy/reasoner/IntMap", "hash", "(I)I"⟩ : MethodName)) c13_1 (t83 hw) ?_
  refine go_imul c13_3 ?_
  refine go_push c13_4 ?_
  refine go_aload c13_6 rfl rfl ?_
  refine go_get (y := (⟨"com/example/satisfy/satisfy/reasoner/IntMap", "hash", "(I)I"⟩ : MethodName)) P0 (0) 0 c13_7 rfl rfl (t33 hw) ?_
  refine go_isub c13_10 ?_
  refine go_iushr c13_11 ?_
  exact go_iret rfl c13_12 (by decide) (by decide) ⟨_, rfl, rfl, rfl⟩
set_option maxRecDepth 65536 in
set_option maxHeartbeats 4000000 in
theorem rm_slotOf (l : Launch) (Z : State) (a0 : Array Value) (hw : ∀ d ∈ tables_1, d.before a0 Z = true) (h0 : Heap) (n0 : Nat) (M : List (Addr × Desc)) (m ka : Addr) (vv : Value) (sz : Int32) (b : Nat) (ks : List Int32) (key : Int32) (hb : 1 ≤ b ∧ b ≤ 3) (hlen : ks.length = 2 ^ b) (hfree : ∃ f, f < 2 ^ b ∧ own_g ks f = -1) (P0 : Hp Z n0 h0 ((m, own_mv (.ref ka) vv sz (Int32.ofNat b)) :: (ka, own_ia ks) :: M)) :
    Con false l Z (⟨"com/example/satisfy/satisfy/reasoner/IntMap", "slotOf", "(I)I"⟩ : MethodName) prog_57_method_5_code 4 (some .int) ({ frames := 1, cells := 0, slots := 0, locals := 13 } : Room) #[(.ref m), (.int key)] h0 n0 (R1 fun w h' => h0 = h' ∧ ∃ j, w = .int (Int32.ofNat j) ∧ own_Slot b ks key j) := by
  refine con_of (ls := [.val (.ref m), .val (.int key), .unset, .unset]) (plainFor_of_name pn0) rfl ?_
  obtain ⟨f, hf, hff⟩ := hfree
  have hN := own_pow3 b hb
  have hh := (own_hash_val b hb key).1
  have Lp : ∀ r t, t + r = own_d (2 ^ b) (own_home b key) f → (∀ u, u < t → own_g ks ((own_home b key + u) % 2 ^ b) ≠ -1 ∧ own_g ks ((own_home b key + u) % 2 ^ b) ≠ key) → Go false KT l Z ({ frames := 1, cells := 0, slots := 0, locals := 13 } : Room) (⟨"com/example/satisfy/satisfy/reasoner/IntMap", "slotOf", "(I)I"⟩ : MethodName) prog_57_method_5_code 4 (some .int) n0 ({ frames := 1, cells := 0, slots := 0, locals := 13 } : Room).cells ({ frames := 1, cells := 0, slots := 0, locals := 13 } : Room).slots (R1 fun w h' => h0 = h' ∧ ∃ j, w = .int (Int32.ofNat j) ∧ own_Slot b ks key j) h0 0 0 14 [.val (.ref m), .val (.int key), .val (.int (Int32.ofNat (2 ^ b) - 1)), .val (.int (Int32.ofNat ((own_home b key + t) % 2 ^ b)))] [] := by
    intro r
    induction r with
    | zero =>
      intro t ht hb4
      have htN : t < 2 ^ b := by have := own_d_lt (2 ^ b) (own_home b key) f (by omega); omega
      have hs8 : ((own_home b key + t) % 2 ^ b) < ks.length ∧ ((own_home b key + t) % 2 ^ b) ≤ 8 := by rw [hlen]; have := Nat.mod_lt (own_home b key + t) (show 0 < 2 ^ b by omega); omega
      refine go_aload c12_14 rfl rfl ?_
      refine go_get (y := (⟨"com/example/satisfy/satisfy/reasoner/IntMap", "slotOf", "(I)I"⟩ : MethodName)) P0 (0) 1 c12_15 rfl rfl (t35 hw) ?_
      refine go_iload c12_18 rfl ?_
      refine go_ialoadH P0 1 c12_19 rfl (own_rd ks ((own_home b key + t) % 2 ^ b) hs8).1 (own_rd ks ((own_home b key + t) % 2 ^ b) hs8).2 ?_
      refine go_push c12_20 ?_
      refine go_icmp_eq c12_21 (fun b21 => ?_) (fun b21 => ?_)
      · refine go_iload c12_43 rfl ?_
        exact go_iret rfl c12_44 (by decide) (by decide) ⟨_, rfl, rfl, _, rfl, own_find_stop hb htN hb4 (Or.inl b21)⟩
      · exfalso
        refine b21 ?_
        rw [Nat.add_zero] at ht
        rw [ht, own_d_at _ _ _ hN hh hf]
        exact hff
    | succ r ih =>
      intro t ht hb4
      have htN : t < 2 ^ b := by have := own_d_lt (2 ^ b) (own_home b key) f (by omega); omega
      have hs8 : ((own_home b key + t) % 2 ^ b) < ks.length ∧ ((own_home b key + t) % 2 ^ b) ≤ 8 := by rw [hlen]; have := Nat.mod_lt (own_home b key + t) (show 0 < 2 ^ b by omega); omega
      refine go_aload c12_14 rfl rfl ?_
      refine go_get (y := (⟨"com/example/satisfy/satisfy/reasoner/IntMap", "slotOf", "(I)I"⟩ : MethodName)) P0 (0) 1 c12_15 rfl rfl (t35 hw) ?_
      refine go_iload c12_18 rfl ?_
      refine go_ialoadH P0 1 c12_19 rfl (own_rd ks ((own_home b key + t) % 2 ^ b) hs8).1 (own_rd ks ((own_home b key + t) % 2 ^ b) hs8).2 ?_
      refine go_push c12_20 ?_
      refine go_icmp_eq c12_21 (fun b21 => ?_) (fun b21 => ?_)
      · refine go_iload c12_43 rfl ?_
        exact go_iret rfl c12_44 (by decide) (by decide) ⟨_, rfl, rfl, _, rfl, own_find_stop hb htN hb4 (Or.inl b21)⟩
      · refine go_aload c12_24 rfl rfl ?_
        refine go_get (y := (⟨"com/example/satisfy/satisfy/reasoner/IntMap", "slotOf", "(I)I"⟩ : MethodName)) P0 (0) 1 c12_25 rfl rfl (t35 hw) ?_
        refine go_iload c12_28 rfl ?_
        refine go_ialoadH P0 1 c12_29 rfl (own_rd ks ((own_home b key + t) % 2 ^ b) hs8).1 (own_rd ks ((own_home b key + t) % 2 ^ b) hs8).2 ?_
        refine go_iload c12_30 rfl ?_
        refine go_icmp_eq c12_31 (fun b31 => ?_) (fun b31 => ?_)
        · refine go_iload c12_43 rfl ?_
          exact go_iret rfl c12_44 (by decide) (by decide) ⟨_, rfl, rfl, _, rfl, own_find_stop hb htN hb4 (Or.inr b31)⟩
        · refine go_iload c12_34 rfl ?_
          refine go_push c12_35 ?_
          refine go_iadd c12_36 ?_
          refine go_iload c12_37 rfl ?_
          refine go_iand c12_38 ?_
          refine go_isI (Int32.ofNat ((own_home b key + (t + 1)) % 2 ^ b)) ((own_i_next b hb.2 _ (by omega)).trans (congrArg Int32.ofNat (own_next _ _ _))) ?_
          refine go_istore c12_39 rfl rfl ?_
          dsimp only [setl]
          refine go_goto c12_40 ?_
          refine ih (t + 1) (by omega) fun u hu => ?_
          by_cases q : u < t
          · exact hb4 u q
          · obtain rfl : u = t := by omega
            exact ⟨b21, b31⟩
  refine go_aload c12_0 rfl rfl ?_
  refine go_get (y := (⟨"com/example/satisfy/satisfy/reasoner/IntMap", "slotOf", "(I)I"⟩ : MethodName)) P0 (0) 1 c12_1 rfl rfl (t35 hw) ?_
  refine go_alen (z := (Int32.ofNat (2 ^ b))) P0 (1) c12_4 rfl (own_ln ks _ hlen) ?_
  refine go_push c12_5 ?_
  refine go_isub c12_6 ?_
  refine go_istore c12_7 rfl rfl ?_
  dsimp only [setl]
  refine go_aload c12_8 rfl rfl ?_
  refine go_iload c12_9 rfl ?_
  refine go_callP1 (y := (⟨"com/example/satisfy/satisfy/reasoner/IntMap", "slotOf", "(I)I"⟩ : MethodName)) (W := 0) (argsL := [(.int key)]) (st := []) c12_10 (rm_hash l Z a0 hw h0 n0 _ m _ _ _ b key P0) (P0.exa (i := 0) rfl) (t79 hw) (t80 hw) (t23 hw) (t81 hw) (t24 hw) (t82 hw) (by decide) (lenOf pd0 rfl) rfl rfl (by decide) (by decide) (by decide) (by decide) rfl ?_
  rintro _ _ ⟨rfl, rfl⟩
  refine go_more (k' := 0) (n' := 0) (by decide) (by decide) ?_
  refine go_isI (Int32.ofNat (own_home b key)) (own_hash_val b hb _).2 ?_
  refine go_istore c12_13 rfl rfl ?_
  dsimp only [setl]
  have e0 : own_home b key = (own_home b key + 0) % 2 ^ b := by rw [Nat.add_zero, Nat.mod_eq_of_lt hh]
  rw [e0]
  exact Lp (own_d (2 ^ b) (own_home b key) f) 0 (by omega) (fun u hu => absurd hu (by omega))
set_option maxRecDepth 65536 in
set_option maxHeartbeats 4000000 in
theorem rm_get (l : Launch) (Z : State) (a0 : Array Value) (hw : ∀ d ∈ tables_1, d.before a0 Z = true) (h0 : Heap) (n0 : Nat) (M : List (Addr × Desc)) (m : Addr) (key : Int32) (hk : key ≠ -1) (ka va : Addr) (b n : Nat) (ks vs : List Int32) (F : Int32 → Int32) (Rp : own_Rep b ks vs n F) (P0 : Hp Z n0 h0 ((m, own_mo ka va (Int32.ofNat n) (Int32.ofNat b)) :: (ka, own_ia ks) :: (va, own_ia vs) :: M)) :
    Con false l Z (⟨"com/example/satisfy/satisfy/reasoner/IntMap", "get", "(I)I"⟩ : MethodName) prog_57_method_2_code 3 (some .int) ({ frames := 2, cells := 0, slots := 0, locals := 28 } : Room) #[(.ref m), (.int key)] h0 n0 (Ret (.int (F key)) h0) := by
  refine con_of (ls := [.val (.ref m), .val (.int key), .unset]) (plainFor_of_name pn0) rfl ?_
  have Rp' := Rp
  obtain ⟨hb, hlen, hlenv, hcnt, hn2, -⟩ := Rp'
  have hN := own_pow3 b hb
  have hfree : ∃ f, f < 2 ^ b ∧ own_g ks f = -1 := by
    obtain ⟨f, q1, q2⟩ := own_free_of ks (by rw [hcnt, hlen]; omega)
    exact ⟨f, by omega, q2⟩
  refine go_aload c11_0 rfl rfl ?_
  refine go_iload c11_1 rfl ?_
  refine go_callP1 (y := (⟨"com/example/satisfy/satisfy/reasoner/IntMap", "get", "(I)I"⟩ : MethodName)) (W := 0) (argsL := [(.int key)]) (st := []) c11_2 (rm_slotOf l Z a0 hw h0 n0 _ m _ _ _ b ks key hb hlen hfree P0) (P0.exa (i := 0) rfl) (t75 hw) (t76 hw) (t23 hw) (t77 hw) (t24 hw) (t78 hw) (by decide) (lenOf pd0 rfl) rfl rfl (by decide) (by decide) (by decide) (by decide) rfl ?_
  rintro _ _ ⟨rfl, j, rfl, hS⟩
  refine go_more (k' := 0) (n' := 0) (by decide) (by decide) ?_
  refine go_istore c11_5 rfl rfl ?_
  dsimp only [setl]
  refine go_aload c11_6 rfl rfl ?_
  refine go_get (y := (⟨"com/example/satisfy/satisfy/reasoner/IntMap", "get", "(I)I"⟩ : MethodName)) P0 (0) 1 c11_7 rfl rfl (t35 hw) ?_
  refine go_iload c11_10 rfl ?_
  refine go_ialoadH P0 1 c11_11 rfl (own_rd ks j ⟨by have := hS.1; omega, by have := hS.1; omega⟩).1 (own_rd ks j ⟨by have := hS.1; omega, by have := hS.1; omega⟩).2 ?_
  refine go_push c11_12 ?_
  refine go_icmp_ne c11_13 (fun b13 => ?_) (fun b13 => ?_)
  · refine go_aload c11_20 rfl rfl ?_
    refine go_get (y := (⟨"com/example/satisfy/satisfy/reasoner/IntMap", "get", "(I)I"⟩ : MethodName)) P0 (0) 2 c11_21 rfl rfl (t41 hw) ?_
    refine go_iload c11_24 rfl ?_
    refine go_ialoadH P0 2 c11_25 rfl (own_rd vs j ⟨by have := hS.1; omega, by have := hS.1; omega⟩).1 (own_rd vs j ⟨by have := hS.1; omega, by have := hS.1; omega⟩).2 ?_
    exact go_iret rfl c11_26 (by decide) (by decide) ⟨_, rfl, by rw [← own_get Rp hk hS]; simp [*], rfl⟩
  · refine go_push c11_16 ?_
    refine go_goto c11_17 ?_
    exact go_iret rfl c11_26 (by decide) (by decide) ⟨_, rfl, by rw [← own_get Rp hk hS]; simp [*], rfl⟩
set_option maxRecDepth 65536 in
set_option maxHeartbeats 4000000 in
theorem rm_fill (l : Launch) (Z : State) (a0 : Array Value) (hw : ∀ d ∈ tables_1, d.before a0 Z = true) (h0 : Heap) (n0 : Nat) (M : List (Addr × Desc)) (ka : Addr) (l₀ : List Int32) (x : Int32) (hl8 : l₀.length ≤ 8) (P0 : Hp Z n0 h0 ((ka, own_ia l₀) :: M)) :
    Con false l Z (⟨"java/util/Arrays", "fill", "([II)V"⟩ : MethodName) jdk_65_method_103_code 4 none ({ frames := 0, cells := 0, slots := 0, locals := 0 } : Room) #[(.ref ka), (.int x)] h0 n0 (R0 fun h' => Hp Z n0 h' ((ka, own_ia (List.replicate l₀.length x)) :: M)) := by
  refine con_of (ls := [.val (.ref ka), .val (.int x), .unset, .unset]) (plainFor_of_name pn1) rfl ?_
  have Lp : ∀ r i h', i + r = l₀.length → Hp Z n0 h' ((ka, own_ia (own_fl l₀ x i)) :: M) → Go false KT l Z ({ frames := 0, cells := 0, slots := 0, locals := 0 } : Room) (⟨"java/util/Arrays", "fill", "([II)V"⟩ : MethodName) jdk_65_method_103_code 4 none n0 ({ frames := 0, cells := 0, slots := 0, locals := 0 } : Room).cells ({ frames := 0, cells := 0, slots := 0, locals := 0 } : Room).slots (R0 fun h' => Hp Z n0 h' ((ka, own_ia (List.replicate l₀.length x)) :: M)) h' 0 0 5 [.val (.ref ka), .val (.int x), .val (.int (Int32.ofNat i)), .val (.int (Int32.ofNat l₀.length))] [] := by
    intro r
    induction r with
    | zero =>
      intro i h' hi P'
      refine go_iload c5_5 rfl ?_
      refine go_iload c5_6 rfl ?_
      refine go_icmp_ge c5_7 (fun b7 => ?_) (fun b7 => ?_)
      · rw [show i = l₀.length by omega, own_fl_end] at P'
        exact go_ret rfl c5_20 (by decide) (by decide) ⟨rfl, P'⟩
      · exact absurd ((own_ilt i (by omega) l₀.length hl8).mp b7) (by omega)
    | succ r ih =>
      intro i h' hi P'
      have hi8 : i < (own_fl l₀ x i).length ∧ i ≤ 8 := by rw [own_fl_len _ _ _ (by omega)]; omega
      refine go_iload c5_5 rfl ?_
      refine go_iload c5_6 rfl ?_
      refine go_icmp_ge c5_7 (fun b7 => ?_) (fun b7 => ?_)
      · exact absurd ((own_ilt i (by omega) l₀.length hl8).mpr (by omega)) b7
      · refine go_aload c5_10 rfl rfl ?_
        refine go_iload c5_11 rfl ?_
        refine go_iload c5_12 rfl ?_
        refine go_iastoreH P' 0 c5_13 rfl (own_wr (own_fl l₀ x i) i hi8).1 (own_wr (own_fl l₀ x i) i hi8).2 ?_
        intro h1 P2
        dsimp only [lupd] at P2
        rw [own_upd (own_fl l₀ x i) i hi8] at P2
        rw [own_fl_set _ _ _ (by omega)] at P2
        refine go_iinc c5_14 rfl ?_
        dsimp only [setl]
        rw [own_isucc]
        refine go_goto c5_17 ?_
        exact ih (i + 1) _ (by omega) P2
  refine go_push c5_0 ?_
  refine go_istore c5_1 rfl rfl ?_
  dsimp only [setl]
  refine go_aload c5_2 rfl rfl ?_
  refine go_alen (z := (Int32.ofNat l₀.length)) P0 (0) c5_3 rfl (own_ln l₀ _ rfl) ?_
  refine go_istore c5_4 rfl rfl ?_
  dsimp only [setl]
  exact Lp l₀.length 0 _ (by omega) (by unfold own_fl; simpa using P0)
set_option maxRecDepth 65536 in
set_option maxHeartbeats 4000000 in
theorem rm_allocate (l : Launch) (Z : State) (a0 : Array Value) (hw : ∀ d ∈ tables_1, d.before a0 Z = true) (h0 : Heap) (n0 : Nat) (M : List (Addr × Desc)) (m : Addr) (kv vv : Value) (sz b : Int32) (b' : Nat) (hb : 1 ≤ b' ∧ b' ≤ 3) (P0 : Hp Z n0 h0 ((m, own_mv kv vv sz b) :: M)) :
    Con false l Z (⟨"com/example/satisfy/satisfy/reasoner/IntMap", "allocate", "(I)V"⟩ : MethodName) prog_57_method_8_code 2 none ({ frames := 1, cells := 2, slots := 16, locals := 15 } : Room) #[(.ref m), (.int (Int32.ofNat b'))] h0 n0 (R0 fun h' => ∃ ka va, Hp Z n0 h' ((m, own_mo ka va sz (Int32.ofNat b')) :: (ka, own_ia (List.replicate (2 ^ b') (-1))) :: (va, own_ia (List.replicate (2 ^ b') 0)) :: M)) := by
  refine con_of (ls := [.val (.ref m), .val (.int (Int32.ofNat b'))]) (plainFor_of_name pn0) rfl ?_
  have hN := own_pow3 b' hb
  have hnl := own_newl b' hb
  refine go_aload c4_0 rfl rfl ?_
  refine go_iload c4_1 rfl ?_
  refine go_put (y := (⟨"com/example/satisfy/satisfy/reasoner/IntMap", "allocate", "(I)V"⟩ : MethodName)) P0 0 0 .int c4_2 rfl rfl (t33 hw) (Or.inl (t34 hw)) (t23 hw) (by decide) rfl rfl ?_
  intro h1 P2
  dsimp only [lupd] at P2
  refine go_aload c4_5 rfl rfl ?_
  refine go_push c4_6 ?_
  refine go_iload c4_7 rfl ?_
  refine go_ishl c4_8 ?_
  refine go_isI (Int32.ofNat (2 ^ b')) (own_shl b' hb.2) ?_
  refine go_newarr (y := (⟨"com/example/satisfy/satisfy/reasoner/IntMap", "allocate", "(I)V"⟩ : MethodName)) P2 "[I" ((List.replicate (2 ^ b') (0 : Int32)).map Value.int) 8 c4_9 (t15 hw) hnl.1 hnl.2.1 (by decide) (by decide) rfl hnl.2.2 (by decide) (by decide) ?_
  intro h3 a5 P4
  refine go_more (k' := 1) (n' := 8) (by decide) (by decide) ?_
  refine go_put (y := (⟨"com/example/satisfy/satisfy/reasoner/IntMap", "allocate", "(I)V"⟩ : MethodName)) P4 1 1 (.array .int) c4_11 rfl rfl (t35 hw) (Or.inl (t36 hw)) (t23 hw) (by decide) rfl rfl ?_
  intro h6 P7
  dsimp only [lupd] at P7
  refine go_aload c4_14 rfl rfl ?_
  refine go_get (y := (⟨"com/example/satisfy/satisfy/reasoner/IntMap", "allocate", "(I)V"⟩ : MethodName)) P7 (1) 1 c4_15 rfl rfl (t35 hw) ?_
  refine go_push c4_18 ?_
  refine go_callS0 (y := (⟨"com/example/satisfy/satisfy/reasoner/IntMap", "allocate", "(I)V"⟩ : MethodName)) (W := 0) (argsL := [(.ref a5), (.int (-1))]) (st := []) c4_19 (rm_fill l Z a0 hw h6 n0 _ a5 _ (-1) (by rw [List.length_replicate]; rcases hN with q | q | q <;> omega) P7) (t37 hw) (t38 hw) (t39 hw) (t40 hw) (by decide) (lenOf pd1 rfl) rfl rfl (by decide) (by decide) (by decide) (by decide) rfl ?_
  intro h9 P8
  rw [List.length_replicate] at P8
  refine go_more (k' := 1) (n' := 8) (by decide) (by decide) ?_
  refine go_aload c4_22 rfl rfl ?_
  refine go_push c4_23 ?_
  refine go_iload c4_24 rfl ?_
  refine go_ishl c4_25 ?_
  refine go_isI (Int32.ofNat (2 ^ b')) (own_shl b' hb.2) ?_
  refine go_newarr (y := (⟨"com/example/satisfy/satisfy/reasoner/IntMap", "allocate", "(I)V"⟩ : MethodName)) P8 "[I" ((List.replicate (2 ^ b') (0 : Int32)).map Value.int) 8 c4_26 (t15 hw) hnl.1 hnl.2.1 (by decide) (by decide) rfl hnl.2.2 (by decide) (by decide) ?_
  intro h10 a12 P11
  refine go_more (k' := 2) (n' := 16) (by decide) (by decide) ?_
  refine go_put (y := (⟨"com/example/satisfy/satisfy/reasoner/IntMap", "allocate", "(I)V"⟩ : MethodName)) P11 2 2 (.array .int) c4_28 rfl rfl (t41 hw) (Or.inl (t42 hw)) (t23 hw) (by decide) rfl rfl ?_
  intro h13 P14
  dsimp only [lupd] at P14
  exact go_ret rfl c4_31 (by decide) (by decide) ⟨rfl, a5, a12, (P14.front 1).front 2⟩
set_option maxRecDepth 65536 in
set_option maxHeartbeats 4000000 in
theorem rm_init (l : Launch) (Z : State) (a0 : Array Value) (hw : ∀ d ∈ tables_1, d.before a0 Z = true) (h0 : Heap) (n0 : Nat) (M : List (Addr × Desc)) (m : Addr) (P0 : Hp Z n0 h0 ((m, own_mv .null .null 0 0) :: M)) :
    Con false l Z (⟨"com/example/satisfy/satisfy/reasoner/IntMap", "<init>", "()V"⟩ : MethodName) prog_57_method_1_code 1 none ({ frames := 2, cells := 2, slots := 16, locals := 28 } : Room) #[(.ref m)] h0 n0 (R0 fun h' => ∃ ka va, Hp Z n0 h' ((m, own_mo ka va 0 1) :: (ka, own_ia (List.replicate (2 ^ 1) (-1))) :: (va, own_ia (List.replicate (2 ^ 1) 0)) :: M)) := by
  refine con_of (ls := [.val (.ref m)]) (plainFor_of_name pn0) rfl ?_
  refine go_aload c3_0 rfl rfl ?_
  refine go_initO (y := (⟨"com/example/satisfy/satisfy/reasoner/IntMap", "<init>", "()V"⟩ : MethodName)) (W := 0) c3_1 (t28 hw) (t13 hw) (t14 hw) rfl (by decide) rfl (by decide) ?_
  refine go_aload c3_4 rfl rfl ?_
  refine go_push c3_5 ?_
  refine go_callP0 (y := (⟨"com/example/satisfy/satisfy/reasoner/IntMap", "<init>", "()V"⟩ : MethodName)) (W := 0) (argsL := [(.int 1)]) (st := []) c3_6 (rm_allocate l Z a0 hw h0 n0 _ m _ _ _ _ 1 (by decide) P0) (P0.exa (i := 0) rfl) (t29 hw) (t30 hw) (t23 hw) (t31 hw) (t24 hw) (t32 hw) (by decide) (lenOf pd2 rfl) rfl rfl (by decide) (by decide) (by decide) (by decide) rfl ?_
  rintro h2 ⟨ka3, va4, P1⟩
  refine go_more (k' := 2) (n' := 16) (by decide) (by decide) ?_
  exact go_ret rfl c3_9 (by decide) (by decide) ⟨rfl, _, _, P1⟩
set_option maxRecDepth 65536 in
set_option maxHeartbeats 4000000 in
theorem rm_grow (l : Launch) (Z : State) (a0 : Array Value) (hw : ∀ d ∈ tables_1, d.before a0 Z = true) (h0 : Heap) (n0 : Nat) (M : List (Addr × Desc)) (m : Addr) (ka va : Addr) (b n : Nat) (ks vs : List Int32) (F : Int32 → Int32) (Rp : own_Rep b ks vs n F) (P0 : Hp Z n0 h0 ((m, own_mo ka va (Int32.ofNat n) (Int32.ofNat b)) :: (ka, own_ia ks) :: (va, own_ia vs) :: M)) (hb2 : b ≤ 2) :
    Con false l Z (⟨"com/example/satisfy/satisfy/reasoner/IntMap", "grow", "()V"⟩ : MethodName) prog_57_method_7_code 5 none ({ frames := 2, cells := 2, slots := 16, locals := 28 } : Room) #[(.ref m)] h0 n0 (R0 fun h' => ∃ ka' va' ks' vs', own_Rep (b + 1) ks' vs' n F ∧ (∀ i, i < 2 ^ (b + 1) → own_g ks' i ≠ -1 → ∃ i', i' < 2 ^ b ∧ own_g ks i' = own_g ks' i) ∧ Hp Z n0 h' ((m, own_mo ka' va' (Int32.ofNat n) (Int32.ofNat (b + 1))) :: (ka', own_ia ks') :: (va', own_ia vs') :: M)) := by
  refine con_of (ls := [.val (.ref m), .unset, .unset, .unset, .unset]) (plainFor_of_name pn0) rfl ?_
  have Rp' := Rp
  obtain ⟨hb, hlen, hlenv, hcnt, hn2, -⟩ := Rp'
  have hN := own_pow3 b hb
  have hfree : ∃ f, f < 2 ^ b ∧ own_g ks f = -1 := by
    obtain ⟨f, q1, q2⟩ := own_free_of ks (by rw [hcnt, hlen]; omega)
    exact ⟨f, by omega, q2⟩
  have eb : Int32.ofNat b + 1 = Int32.ofNat (b + 1) := own_isucc b
  refine go_aload c16_0 rfl rfl ?_
  refine go_get (y := (⟨"com/example/satisfy/satisfy/reasoner/IntMap", "grow", "()V"⟩ : MethodName)) P0 (0) 1 c16_1 rfl rfl (t35 hw) ?_
  refine go_astore c16_4 rfl rfl rfl ?_
  dsimp only [setl]
  refine go_aload c16_5 rfl rfl ?_
  refine go_get (y := (⟨"com/example/satisfy/satisfy/reasoner/IntMap", "grow", "()V"⟩ : MethodName)) P0 (0) 2 c16_6 rfl rfl (t41 hw) ?_
  refine go_astore c16_9 rfl rfl rfl ?_
  dsimp only [setl]
  refine go_aload c16_10 rfl rfl ?_
  refine go_aload c16_11 rfl rfl ?_
  refine go_get (y := (⟨"com/example/satisfy/satisfy/reasoner/IntMap", "grow", "()V"⟩ : MethodName)) P0 (0) 0 c16_12 rfl rfl (t33 hw) ?_
  refine go_push c16_15 ?_
  refine go_iadd c16_16 ?_
  refine go_isI (Int32.ofNat (b + 1)) eb ?_
  refine go_callP0 (y := (⟨"com/example/satisfy/satisfy/reasoner/IntMap", "grow", "()V"⟩ : MethodName)) (W := 0) (argsL := [(.int (Int32.ofNat (b + 1)))]) (st := []) c16_17 (rm_allocate l Z a0 hw h0 n0 _ m _ _ _ _ (b + 1) (by omega) P0) (P0.exa (i := 0) rfl) (t29 hw) (t30 hw) (t23 hw) (t31 hw) (t24 hw) (t32 hw) (by decide) (lenOf pd2 rfl) rfl rfl (by decide) (by decide) (by decide) (by decide) rfl ?_
  rintro h2 ⟨ka3, va4, P1⟩
  refine go_more (k' := 2) (n' := 16) (by decide) (by decide) ?_
  have Lp : ∀ r s h' ks' vs' s4, s + r = 2 ^ b → one s4 = true → own_Gr b ks vs F s ks' vs' → Hp Z n0 h' ((m, (.inl ("com/example/satisfy/satisfy/reasoner/IntMap", [(("com/example/satisfy/satisfy/reasoner/IntMap", "bits", "I"), (.int (Int32.ofNat (b + 1)))), (("com/example/satisfy/satisfy/reasoner/IntMap", "keys", "[I"), (.ref ka3)), (("com/example/satisfy/satisfy/reasoner/IntMap", "values", "[I"), (.ref va4)), (("com/example/satisfy/satisfy/reasoner/IntMap", "size", "I"), (.int (Int32.ofNat n)))]))) :: (ka3, (own_ia ks')) :: (va4, (own_ia vs')) :: (ka, (own_ia ks)) :: (va, (own_ia vs)) :: M) → Go false KT l Z ({ frames := 2, cells := 2, slots := 16, locals := 28 } : Room) (⟨"com/example/satisfy/satisfy/reasoner/IntMap", "grow", "()V"⟩ : MethodName) prog_57_method_7_code 5 none n0 ({ frames := 2, cells := 2, slots := 16, locals := 28 } : Room).cells ({ frames := 2, cells := 2, slots := 16, locals := 28 } : Room).slots (R0 fun h' => ∃ ka' va' ks' vs', own_Rep (b + 1) ks' vs' n F ∧ (∀ i, i < 2 ^ (b + 1) → own_g ks' i ≠ -1 → ∃ i', i' < 2 ^ b ∧ own_g ks i' = own_g ks' i) ∧ Hp Z n0 h' ((m, own_mo ka' va' (Int32.ofNat n) (Int32.ofNat (b + 1))) :: (ka', own_ia ks') :: (va', own_ia vs') :: M)) h' 2 16 22 [.val (.ref m), .val (.ref ka), .val (.ref va), .val (.int (Int32.ofNat s)), s4] [] := by
    intro r
    induction r with
    | zero =>
      intro s h' ks' vs' s4 hs h4 G P'
      refine go_iload c16_22 rfl ?_
      refine go_aload c16_23 rfl rfl ?_
      refine go_alen (z := (Int32.ofNat (2 ^ b))) P' (3) c16_24 rfl (own_ln ks _ hlen) ?_
      refine go_icmp_ge c16_25 (fun b25 => ?_) (fun b25 => ?_)
      · obtain rfl : s = 2 ^ b := by omega
        exact go_ret rfl c16_70 (by decide) (by decide) ⟨rfl, _, _, _, _, own_gr_end Rp G, own_gr_dom hlen G, ((P'.front 3).tail.front 3).tail⟩
      · exact absurd ((own_ilt s (by omega) (2 ^ b) (by omega)).mp b25) (by omega)
    | succ r ih =>
      intro s h' ks' vs' s4 hs h4 G P'
      refine go_iload c16_22 rfl ?_
      refine go_aload c16_23 rfl rfl ?_
      refine go_alen (z := (Int32.ofNat (2 ^ b))) P' (3) c16_24 rfl (own_ln ks _ hlen) ?_
      refine go_icmp_ge c16_25 (fun b25 => ?_) (fun b25 => ?_)
      · exact absurd ((own_ilt s (by omega) (2 ^ b) (by omega)).mpr (by omega)) b25
      · refine go_aload c16_28 rfl rfl ?_
        refine go_iload c16_29 rfl ?_
        refine go_ialoadH P' 3 c16_30 rfl (own_rd ks s ⟨by omega, by omega⟩).1 (own_rd ks s ⟨by omega, by omega⟩).2 ?_
        refine go_push c16_31 ?_
        refine go_icmp_eq c16_32 (fun b32 => ?_) (fun b32 => ?_)
        · refine go_iinc c16_64 rfl ?_
          dsimp only [setl]
          rw [own_isucc]
          refine go_goto c16_67 ?_
          exact ih (s + 1) _ _ _ _ (by omega) h4 (own_gr_skip (by omega) G b32) P'
        · have G' := G.1
          obtain ⟨hb', hlen', hlenv', hcnt', hn2', -⟩ := G'
          have hN' := own_pow3 (b + 1) hb'
          have hfree' : ∃ f, f < 2 ^ (b + 1) ∧ own_g ks' f = -1 := by
            obtain ⟨f, q1, q2⟩ := own_free_of ks' (by rw [hcnt', hlen']; omega)
            exact ⟨f, by omega, q2⟩
          refine go_aload c16_35 rfl rfl ?_
          refine go_aload c16_36 rfl rfl ?_
          refine go_iload c16_37 rfl ?_
          refine go_ialoadH P' 3 c16_38 rfl (own_rd ks s ⟨by omega, by omega⟩).1 (own_rd ks s ⟨by omega, by omega⟩).2 ?_
          refine go_callP1 (y := (⟨"com/example/satisfy/satisfy/reasoner/IntMap", "grow", "()V"⟩ : MethodName)) (W := 0) (argsL := [(.int (own_g ks s))]) (st := []) c16_39 (rm_slotOf l Z a0 hw h' n0 _ m _ _ _ (b + 1) ks' (own_g ks s) hb' hlen' hfree' P') (P'.exa (i := 0) rfl) (t75 hw) (t76 hw) (t23 hw) (t77 hw) (t24 hw) (t78 hw) (by decide) (lenOf pd0 rfl) rfl rfl (by decide) (by decide) (by decide) (by decide) rfl ?_
          rintro _ _ ⟨rfl, j, rfl, hS⟩
          refine go_more (k' := 2) (n' := 16) (by decide) (by decide) ?_
          refine go_istore c16_42 rfl h4 ?_
          dsimp only [setl]
          refine go_aload c16_44 rfl rfl ?_
          refine go_get (y := (⟨"com/example/satisfy/satisfy/reasoner/IntMap", "grow", "()V"⟩ : MethodName)) P' (0) 1 c16_45 rfl rfl (t35 hw) ?_
          refine go_iload c16_48 rfl ?_
          refine go_aload c16_50 rfl rfl ?_
          refine go_iload c16_51 rfl ?_
          refine go_ialoadH P' 3 c16_52 rfl (own_rd ks s ⟨by omega, by omega⟩).1 (own_rd ks s ⟨by omega, by omega⟩).2 ?_
          refine go_iastoreH P' 1 c16_53 rfl (own_wr ks' j ⟨by have := hS.1; omega, by have := hS.1; rcases hN' with q | q | q <;> omega⟩).1 (own_wr ks' j ⟨by have := hS.1; omega, by have := hS.1; rcases hN' with q | q | q <;> omega⟩).2 ?_
          intro h5 P6
          dsimp only [lupd] at P6
          rw [own_upd ks' j ⟨by have := hS.1; omega, by have := hS.1; rcases hN' with q | q | q <;> omega⟩] at P6
          refine go_aload c16_54 rfl rfl ?_
          refine go_get (y := (⟨"com/example/satisfy/satisfy/reasoner/IntMap", "grow", "()V"⟩ : MethodName)) P6 (0) 2 c16_55 rfl rfl (t41 hw) ?_
          refine go_iload c16_58 rfl ?_
          refine go_aload c16_60 rfl rfl ?_
          refine go_iload c16_61 rfl ?_
          refine go_ialoadH P6 4 c16_62 rfl (own_rd vs s ⟨by omega, by omega⟩).1 (own_rd vs s ⟨by omega, by omega⟩).2 ?_
          refine go_iastoreH P6 2 c16_63 rfl (own_wr vs' j ⟨by have := hS.1; omega, by have := hS.1; rcases hN' with q | q | q <;> omega⟩).1 (own_wr vs' j ⟨by have := hS.1; omega, by have := hS.1; rcases hN' with q | q | q <;> omega⟩).2 ?_
          intro h7 P8
          dsimp only [lupd] at P8
          rw [own_upd vs' j ⟨by have := hS.1; omega, by have := hS.1; rcases hN' with q | q | q <;> omega⟩] at P8
          refine go_iinc c16_64 rfl ?_
          dsimp only [setl]
          rw [own_isucc]
          refine go_goto c16_67 ?_
          exact ih (s + 1) _ _ _ _ (by omega) rfl (own_gr_step Rp (by omega) G b32 hS) P8
  refine go_push c16_20 ?_
  refine go_istore c16_21 rfl rfl ?_
  dsimp only [setl]
  exact Lp (2 ^ b) 0 _ _ _ _ (by omega) rfl (own_gr_start b (by omega) ks vs F) P1
theorem own_isz (n : Nat) (h : n ≤ 3) : (Int32.ofNat n + 1) * 2 = Int32.ofNat (2 * (n + 1)) := by
  have : ∀ n, n ≤ 3 → (Int32.ofNat n + 1) * 2 = Int32.ofNat (2 * (n + 1)) := by decide
  exact this n h
set_option maxRecDepth 65536 in
set_option maxHeartbeats 4000000 in
theorem rm_put (l : Launch) (Z : State) (a0 : Array Value) (hw : ∀ d ∈ tables_1, d.before a0 Z = true) (h0 : Heap) (n0 : Nat) (M : List (Addr × Desc)) (m : Addr) (key v : Int32) (hk : key ≠ -1) (ka va : Addr) (b n : Nat) (ks vs : List Int32) (F : Int32 → Int32) (Rp : own_Rep b ks vs n F) (P0 : Hp Z n0 h0 ((m, own_mo ka va (Int32.ofNat n) (Int32.ofNat b)) :: (ka, own_ia ks) :: (va, own_ia vs) :: M)) (hn3 : n ≤ 3) :
    Con false l Z (⟨"com/example/satisfy/satisfy/reasoner/IntMap", "put", "(II)V"⟩ : MethodName) prog_57_method_3_code 4 none ({ frames := 3, cells := 2, slots := 16, locals := 44 } : Room) #[(.ref m), (.int key), (.int v)] h0 n0 (R0 fun h' => ∃ ka' va' b' n' ks' vs', n' ≤ n + 1 ∧ own_Rep b' ks' vs' n' (own_up F key v) ∧ Hp Z n0 h' ((m, own_mo ka' va' (Int32.ofNat n') (Int32.ofNat b')) :: (ka', own_ia ks') :: (va', own_ia vs') :: M)) := by
  refine con_of (ls := [.val (.ref m), .val (.int key), .val (.int v), .unset]) (plainFor_of_name pn0) rfl ?_
  have Rp' := Rp
  obtain ⟨hb, hlen, hlenv, hcnt, hn2, -⟩ := Rp'
  have hN := own_pow3 b hb
  have hfree : ∃ f, f < 2 ^ b ∧ own_g ks f = -1 := by
    obtain ⟨f, q1, q2⟩ := own_free_of ks (by rw [hcnt, hlen]; omega)
    exact ⟨f, by omega, q2⟩
  refine go_aload c15_0 rfl rfl ?_
  refine go_iload c15_1 rfl ?_
  refine go_callP1 (y := (⟨"com/example/satisfy/satisfy/reasoner/IntMap", "put", "(II)V"⟩ : MethodName)) (W := 0) (argsL := [(.int key)]) (st := []) c15_2 (rm_slotOf l Z a0 hw h0 n0 _ m _ _ _ b ks key hb hlen hfree P0) (P0.exa (i := 0) rfl) (t75 hw) (t76 hw) (t23 hw) (t77 hw) (t24 hw) (t78 hw) (by decide) (lenOf pd0 rfl) rfl rfl (by decide) (by decide) (by decide) (by decide) rfl ?_
  rintro _ _ ⟨rfl, j, rfl, hS⟩
  refine go_more (k' := 0) (n' := 0) (by decide) (by decide) ?_
  refine go_istore c15_5 rfl rfl ?_
  dsimp only [setl]
  refine go_aload c15_6 rfl rfl ?_
  refine go_get (y := (⟨"com/example/satisfy/satisfy/reasoner/IntMap", "put", "(II)V"⟩ : MethodName)) P0 (0) 1 c15_7 rfl rfl (t35 hw) ?_
  refine go_iload c15_10 rfl ?_
  refine go_ialoadH P0 1 c15_11 rfl (own_rd ks j ⟨by have := hS.1; (try simp only [List.length_set]); omega, by have := hS.1; omega⟩).1 (own_rd ks j ⟨by have := hS.1; (try simp only [List.length_set]); omega, by have := hS.1; omega⟩).2 ?_
  refine go_push c15_12 ?_
  refine go_icmp_ne c15_13 (fun b13 => ?_) (fun b13 => ?_)
  · refine go_aload c15_59 rfl rfl ?_
    refine go_get (y := (⟨"com/example/satisfy/satisfy/reasoner/IntMap", "put", "(II)V"⟩ : MethodName)) P0 (0) 2 c15_60 rfl rfl (t41 hw) ?_
    refine go_iload c15_63 rfl ?_
    refine go_iload c15_64 rfl ?_
    refine go_iastoreH P0 2 c15_65 rfl (own_wr vs j ⟨by have := hS.1; (try simp only [List.length_set]); omega, by have := hS.1; omega⟩).1 (own_wr vs j ⟨by have := hS.1; (try simp only [List.length_set]); omega, by have := hS.1; omega⟩).2 ?_
    intro h1 P2
    dsimp only [lupd] at P2
    rw [own_upd vs j ⟨by have := hS.1; (try simp only [List.length_set]); omega, by have := hS.1; omega⟩] at P2
    exact go_ret rfl c15_66 (by decide) (by decide) ⟨rfl, _, _, _, _, _, _, by omega, own_put_old Rp hk hS b13, P2⟩
  · refine go_aload c15_16 rfl rfl ?_
    refine go_get (y := (⟨"com/example/satisfy/satisfy/reasoner/IntMap", "put", "(II)V"⟩ : MethodName)) P0 (0) 3 c15_17 rfl rfl (t95 hw) ?_
    refine go_push c15_20 ?_
    refine go_iadd c15_21 ?_
    refine go_push c15_22 ?_
    refine go_imul c15_23 ?_
    refine go_aload c15_24 rfl rfl ?_
    refine go_get (y := (⟨"com/example/satisfy/satisfy/reasoner/IntMap", "put", "(II)V"⟩ : MethodName)) P0 (0) 1 c15_25 rfl rfl (t35 hw) ?_
    refine go_alen (z := (Int32.ofNat (2 ^ b))) P0 (1) c15_28 rfl (own_ln ks _ hlen) ?_
    rw [own_isz n hn3]
    refine go_icmp_le c15_29 (fun b29 => ?_) (fun b29 => ?_)
    · have hle : 2 * (n + 1) ≤ 2 ^ b := by
        have : ¬ 2 ^ b < 2 * (n + 1) := fun u => b29 ((own_ilt (2 ^ b) (by omega) (2 * (n + 1)) (by omega)).mpr u)
        omega
      refine go_aload c15_42 rfl rfl ?_
      refine go_get (y := (⟨"com/example/satisfy/satisfy/reasoner/IntMap", "put", "(II)V"⟩ : MethodName)) P0 (0) 1 c15_43 rfl rfl (t35 hw) ?_
      refine go_iload c15_46 rfl ?_
      refine go_iload c15_47 rfl ?_
      refine go_iastoreH P0 1 c15_48 rfl (own_wr ks j ⟨by have := hS.1; (try simp only [List.length_set]); omega, by have := hS.1; omega⟩).1 (own_wr ks j ⟨by have := hS.1; (try simp only [List.length_set]); omega, by have := hS.1; omega⟩).2 ?_
      intro h3 P4
      dsimp only [lupd] at P4
      rw [own_upd ks j ⟨by have := hS.1; (try simp only [List.length_set]); omega, by have := hS.1; omega⟩] at P4
      refine go_aload c15_49 rfl rfl ?_
      refine go_dup c15_50 rfl ?_
      refine go_get (y := (⟨"com/example/satisfy/satisfy/reasoner/IntMap", "put", "(II)V"⟩ : MethodName)) P4 (0) 3 c15_51 rfl rfl (t95 hw) ?_
      refine go_push c15_54 ?_
      refine go_iadd c15_55 ?_
      rw [own_isucc]
      refine go_put (y := (⟨"com/example/satisfy/satisfy/reasoner/IntMap", "put", "(II)V"⟩ : MethodName)) P4 0 3 .int c15_56 rfl rfl (t95 hw) (Or.inl (t96 hw)) (t23 hw) (by decide) rfl rfl ?_
      intro h5 P6
      dsimp only [lupd] at P6
      refine go_aload c15_59 rfl rfl ?_
      refine go_get (y := (⟨"com/example/satisfy/satisfy/reasoner/IntMap", "put", "(II)V"⟩ : MethodName)) P6 (0) 2 c15_60 rfl rfl (t41 hw) ?_
      refine go_iload c15_63 rfl ?_
      refine go_iload c15_64 rfl ?_
      refine go_iastoreH P6 2 c15_65 rfl (own_wr vs j ⟨by have := hS.1; (try simp only [List.length_set]); omega, by have := hS.1; omega⟩).1 (own_wr vs j ⟨by have := hS.1; (try simp only [List.length_set]); omega, by have := hS.1; omega⟩).2 ?_
      intro h7 P8
      dsimp only [lupd] at P8
      rw [own_upd vs j ⟨by have := hS.1; (try simp only [List.length_set]); omega, by have := hS.1; omega⟩] at P8
      exact go_ret rfl c15_66 (by decide) (by decide) ⟨rfl, _, _, _, _, _, _, by omega, own_put_new Rp hk hS b13 hle, P8⟩
    · have hgt : ¬ 2 * (n + 1) ≤ 2 ^ b := by
        have := (own_ilt (2 ^ b) (by omega) (2 * (n + 1)) (by omega)).mp b29
        omega
      have hb2 : b ≤ 2 := by
        rcases Nat.lt_or_ge 2 b with q | q
        · obtain rfl : b = 3 := by omega
          omega
        · exact q
      refine go_aload c15_32 rfl rfl ?_
      refine go_callP0 (y := (⟨"com/example/satisfy/satisfy/reasoner/IntMap", "put", "(II)V"⟩ : MethodName)) (W := 0) (argsL := []) (st := []) c15_33 (rm_grow l Z a0 hw h0 n0 _ m _ _ b n ks vs F Rp P0 hb2) (P0.exa (i := 0) rfl) (t97 hw) (t98 hw) (t23 hw) (t99 hw) (t24 hw) (t100 hw) (by decide) (lenOf pd3 rfl) rfl rfl (by decide) (by decide) (by decide) (by decide) rfl ?_
      rintro h10 ⟨ka11, va12, ks', vs', Rp', hdom, P9⟩
      refine go_more (k' := 2) (n' := 16) (by decide) (by decide) ?_
      have Rp2 := Rp'
      obtain ⟨hb', hlen', hlenv', hcnt', hn2', -⟩ := Rp2
      have p2 : 2 ^ (b + 1) = 2 * 2 ^ b := by rw [Nat.pow_succ]; omega
      have hN' := own_pow3 (b + 1) hb'
      have hfree' : ∃ f, f < 2 ^ (b + 1) ∧ own_g ks' f = -1 := by
        obtain ⟨f, q1, q2⟩ := own_free_of ks' (by rw [hcnt', hlen']; omega)
        exact ⟨f, by omega, q2⟩
      have hab : own_g ks j = -1 := b13
      refine go_aload c15_36 rfl rfl ?_
      refine go_iload c15_37 rfl ?_
      refine go_callP1 (y := (⟨"com/example/satisfy/satisfy/reasoner/IntMap", "put", "(II)V"⟩ : MethodName)) (W := 0) (argsL := [(.int key)]) (st := []) c15_38 (rm_slotOf l Z a0 hw h10 n0 _ m _ _ _ (b + 1) ks' key hb' hlen' hfree' P9) (P9.exa (i := 0) rfl) (t75 hw) (t76 hw) (t23 hw) (t77 hw) (t24 hw) (t78 hw) (by decide) (lenOf pd0 rfl) rfl rfl (by decide) (by decide) (by decide) (by decide) rfl ?_
      rintro _ _ ⟨rfl, j', rfl, hS'⟩
      refine go_more (k' := 2) (n' := 16) (by decide) (by decide) ?_
      refine go_istore c15_41 rfl rfl ?_
      dsimp only [setl]
      have hj' : own_g ks' j' = -1 := by
        rcases hS'.2.2 with q | q
        · exact q
        · exfalso
          obtain ⟨i', hi', ei'⟩ := hdom j' hS'.1 (by rw [q]; exact hk)
          exact own_absent Rp hk hS b13 i' hi' (ei'.trans q)
      have hle : 2 * (n + 1) ≤ 2 ^ (b + 1) := by omega
      have hS := hS'
      refine go_aload c15_42 rfl rfl ?_
      refine go_get (y := (⟨"com/example/satisfy/satisfy/reasoner/IntMap", "put", "(II)V"⟩ : MethodName)) P9 (0) 1 c15_43 rfl rfl (t35 hw) ?_
      refine go_iload c15_46 rfl ?_
      refine go_iload c15_47 rfl ?_
      refine go_iastoreH P9 1 c15_48 rfl (own_wr ks' j' ⟨by have := hS'.1; (try simp only [List.length_set]); omega, by have := hS'.1; omega⟩).1 (own_wr ks' j' ⟨by have := hS'.1; (try simp only [List.length_set]); omega, by have := hS'.1; omega⟩).2 ?_
      intro h13 P14
      dsimp only [lupd] at P14
      rw [own_upd ks' j' ⟨by have := hS'.1; (try simp only [List.length_set]); omega, by have := hS'.1; omega⟩] at P14
      refine go_aload c15_49 rfl rfl ?_
      refine go_dup c15_50 rfl ?_
      refine go_get (y := (⟨"com/example/satisfy/satisfy/reasoner/IntMap", "put", "(II)V"⟩ : MethodName)) P14 (0) 3 c15_51 rfl rfl (t95 hw) ?_
      refine go_push c15_54 ?_
      refine go_iadd c15_55 ?_
      rw [own_isucc]
      refine go_put (y := (⟨"com/example/satisfy/satisfy/reasoner/IntMap", "put", "(II)V"⟩ : MethodName)) P14 0 3 .int c15_56 rfl rfl (t95 hw) (Or.inl (t96 hw)) (t23 hw) (by decide) rfl rfl ?_
      intro h15 P16
      dsimp only [lupd] at P16
      refine go_aload c15_59 rfl rfl ?_
      refine go_get (y := (⟨"com/example/satisfy/satisfy/reasoner/IntMap", "put", "(II)V"⟩ : MethodName)) P16 (0) 2 c15_60 rfl rfl (t41 hw) ?_
      refine go_iload c15_63 rfl ?_
      refine go_iload c15_64 rfl ?_
      refine go_iastoreH P16 2 c15_65 rfl (own_wr vs' j' ⟨by have := hS'.1; (try simp only [List.length_set]); omega, by have := hS'.1; omega⟩).1 (own_wr vs' j' ⟨by have := hS'.1; (try simp only [List.length_set]); omega, by have := hS'.1; omega⟩).2 ?_
      intro h17 P18
      dsimp only [lupd] at P18
      rw [own_upd vs' j' ⟨by have := hS'.1; (try simp only [List.length_set]); omega, by have := hS'.1; omega⟩] at P18
      exact go_ret rfl c15_66 (by decide) (by decide) ⟨rfl, _, _, _, _, _, _, by omega, own_put_new Rp' hk hS hj' hle, P18⟩
theorem own_d0 (N s f : Nat) (hN : N = 2 ∨ N = 4 ∨ N = 8) (hs : s < N) (hf : f < N) (h : own_d N s f = 0) : s = f := by
  unfold own_d at h; rcases hN with rfl | rfl | rfl <;> omega
theorem own_ipred (n : Nat) (h : 1 ≤ n ∧ n ≤ 8) : Int32.ofNat n - 1 = Int32.ofNat (n - 1) := by
  have : ∀ n, n ≤ 8 → 1 ≤ n → Int32.ofNat n - 1 = Int32.ofNat (n - 1) := by decide
  exact this n h.2 h.1
theorem own_cnt_pos (ks : List Int32) (j : Nat) (hj : j < ks.length) (hne : own_g ks j ≠ -1) {n : Nat} (h : own_cnt ks = n) : 1 ≤ n := by
  have := own_cnt_set ks j (-1) hj
  rw [if_neg hne, if_pos rfl] at this
  omega
set_option maxRecDepth 65536 in
set_option maxHeartbeats 4000000 in
theorem rm_remove (l : Launch) (Z : State) (a0 : Array Value) (hw : ∀ d ∈ tables_1, d.before a0 Z = true) (h0 : Heap) (n0 : Nat) (M : List (Addr × Desc)) (m : Addr) (key : Int32) (hk : key ≠ -1) (ka va : Addr) (b n : Nat) (ks vs : List Int32) (F : Int32 → Int32) (Rp : own_Rep b ks vs n F) (P0 : Hp Z n0 h0 ((m, own_mo ka va (Int32.ofNat n) (Int32.ofNat b)) :: (ka, own_ia ks) :: (va, own_ia vs) :: M)) :
    Con false l Z (⟨"com/example/satisfy/satisfy/reasoner/IntMap", "remove", "(I)V"⟩ : MethodName) prog_57_method_4_code 6 none ({ frames := 2, cells := 0, slots := 0, locals := 28 } : Room) #[(.ref m), (.int key)] h0 n0 (R0 fun h' => ∃ n' ks' vs', n' ≤ n ∧ own_Rep b ks' vs' n' (own_up F key (-1)) ∧ Hp Z n0 h' ((m, own_mo ka va (Int32.ofNat n') (Int32.ofNat b)) :: (ka, own_ia ks') :: (va, own_ia vs') :: M)) := by
  refine con_of (ls := [.val (.ref m), .val (.int key), .unset, .unset, .unset, .unset]) (plainFor_of_name pn0) rfl ?_
  have Rp' := Rp
  obtain ⟨hb, hlen, hlenv, hcnt, hn2, -⟩ := Rp'
  have hN := own_pow3 b hb
  have hfree : ∃ f, f < 2 ^ b ∧ own_g ks f = -1 := by
    obtain ⟨f, q1, q2⟩ := own_free_of ks (by rw [hcnt, hlen]; omega)
    exact ⟨f, by omega, q2⟩
  have Lp : ∀ r h' ks' vs' hole slot f s5, own_d (2 ^ b) slot f = r → one s5 = true → own_Rm b ks' vs' n F key hole slot f → Hp Z n0 h' ((m, (.inl ("com/example/satisfy/satisfy/reasoner/IntMap", [(("com/example/satisfy/satisfy/reasoner/IntMap", "bits", "I"), (.int (Int32.ofNat b))), (("com/example/satisfy/satisfy/reasoner/IntMap", "keys", "[I"), (.ref ka)), (("com/example/satisfy/satisfy/reasoner/IntMap", "values", "[I"), (.ref va)), (("com/example/satisfy/satisfy/reasoner/IntMap", "size", "I"), (.int (Int32.ofNat (n - 1))))]))) :: (ka, (own_ia ks')) :: (va, (own_ia vs')) :: M) → Go false KT l Z ({ frames := 2, cells := 0, slots := 0, locals := 28 } : Room) (⟨"com/example/satisfy/satisfy/reasoner/IntMap", "remove", "(I)V"⟩ : MethodName) prog_57_method_4_code 6 none n0 ({ frames := 2, cells := 0, slots := 0, locals := 28 } : Room).cells ({ frames := 2, cells := 0, slots := 0, locals := 28 } : Room).slots (R0 fun h' => ∃ n' ks' vs', n' ≤ n ∧ own_Rep b ks' vs' n' (own_up F key (-1)) ∧ Hp Z n0 h' ((m, own_mo ka va (Int32.ofNat n') (Int32.ofNat b)) :: (ka, own_ia ks') :: (va, own_ia vs') :: M)) h' 0 0 42 [.val (.ref m), .val (.int key), .val (.int (Int32.ofNat hole)), .val (.int (Int32.ofNat (2 ^ b) - 1)), .val (.int (Int32.ofNat slot)), s5] [] := by
    intro r
    induction r with
    | zero =>
      intro h' ks' vs' hole slot f s5 hr h5 I P'
      have I' := I
      obtain ⟨-, hl1, hl2, -, -, ⟨a1, a2, a3⟩, hh, hf, ⟨d1, d2⟩, -⟩ := I'
      have h8 : 2 ^ b ≤ 8 := by omega
      refine go_aload c19_42 rfl rfl ?_
      refine go_get (y := (⟨"com/example/satisfy/satisfy/reasoner/IntMap", "remove", "(I)V"⟩ : MethodName)) P' (0) 1 c19_43 rfl rfl (t35 hw) ?_
      refine go_iload c19_46 rfl ?_
      refine go_ialoadH P' 1 c19_48 rfl (own_rd ks' slot ⟨by (try simp only [List.length_set]); omega, by omega⟩).1 (own_rd ks' slot ⟨by (try simp only [List.length_set]); omega, by omega⟩).2 ?_
      refine go_push c19_49 ?_
      refine go_icmp_eq c19_50 (fun b50 => ?_) (fun b50 => ?_)
      · refine go_aload c19_122 rfl rfl ?_
        refine go_get (y := (⟨"com/example/satisfy/satisfy/reasoner/IntMap", "remove", "(I)V"⟩ : MethodName)) P' (0) 1 c19_123 rfl rfl (t35 hw) ?_
        refine go_iload c19_126 rfl ?_
        refine go_push c19_127 ?_
        refine go_iastoreH P' 1 c19_128 rfl (own_wr ks' hole ⟨by (try simp only [List.length_set]); omega, by omega⟩).1 (own_wr ks' hole ⟨by (try simp only [List.length_set]); omega, by omega⟩).2 ?_
        intro h1 P2
        dsimp only [lupd] at P2
        rw [own_upd ks' hole ⟨by (try simp only [List.length_set]); omega, by omega⟩] at P2
        exact go_ret rfl c19_129 (by decide) (by decide) ⟨rfl, n - 1, _, _, by omega, own_rm_end I b50, P2⟩
      · exact absurd (show own_g ks' slot = -1 by rw [own_d0 _ slot f hN a2 a3 hr]; exact hf) b50
    | succ r ih =>
      intro h' ks' vs' hole slot f s5 hr h5 I P'
      have I' := I
      obtain ⟨-, hl1, hl2, -, -, ⟨a1, a2, a3⟩, hh, hf, ⟨d1, d2⟩, -⟩ := I'
      have h8 : 2 ^ b ≤ 8 := by omega
      refine go_aload c19_42 rfl rfl ?_
      refine go_get (y := (⟨"com/example/satisfy/satisfy/reasoner/IntMap", "remove", "(I)V"⟩ : MethodName)) P' (0) 1 c19_43 rfl rfl (t35 hw) ?_
      refine go_iload c19_46 rfl ?_
      refine go_ialoadH P' 1 c19_48 rfl (own_rd ks' slot ⟨by (try simp only [List.length_set]); omega, by omega⟩).1 (own_rd ks' slot ⟨by (try simp only [List.length_set]); omega, by omega⟩).2 ?_
      refine go_push c19_49 ?_
      refine go_icmp_eq c19_50 (fun b50 => ?_) (fun b50 => ?_)
      · refine go_aload c19_122 rfl rfl ?_
        refine go_get (y := (⟨"com/example/satisfy/satisfy/reasoner/IntMap", "remove", "(I)V"⟩ : MethodName)) P' (0) 1 c19_123 rfl rfl (t35 hw) ?_
        refine go_iload c19_126 rfl ?_
        refine go_push c19_127 ?_
        refine go_iastoreH P' 1 c19_128 rfl (own_wr ks' hole ⟨by (try simp only [List.length_set]); omega, by omega⟩).1 (own_wr ks' hole ⟨by (try simp only [List.length_set]); omega, by omega⟩).2 ?_
        intro h3 P4
        dsimp only [lupd] at P4
        rw [own_upd ks' hole ⟨by (try simp only [List.length_set]); omega, by omega⟩] at P4
        exact go_ret rfl c19_129 (by decide) (by decide) ⟨rfl, n - 1, _, _, by omega, own_rm_end I b50, P4⟩
      · have hsf : slot ≠ f := fun u => b50 (by rw [u]; exact hf)
        obtain ⟨x1, x2, x3, x4⟩ := own_L6 _ hole slot f hN a1 a2 a3 hsf d1 d2
        refine go_aload c19_53 rfl rfl ?_
        refine go_aload c19_54 rfl rfl ?_
        refine go_get (y := (⟨"com/example/satisfy/satisfy/reasoner/IntMap", "remove", "(I)V"⟩ : MethodName)) P' (0) 1 c19_55 rfl rfl (t35 hw) ?_
        refine go_iload c19_58 rfl ?_
        refine go_ialoadH P' 1 c19_60 rfl (own_rd ks' slot ⟨by (try simp only [List.length_set]); omega, by omega⟩).1 (own_rd ks' slot ⟨by (try simp only [List.length_set]); omega, by omega⟩).2 ?_
        refine go_callP1 (y := (⟨"com/example/satisfy/satisfy/reasoner/IntMap", "remove", "(I)V"⟩ : MethodName)) (W := 0) (argsL := [(.int (own_g ks' slot))]) (st := []) c19_61 (rm_hash l Z a0 hw h' n0 _ m _ _ _ b (own_g ks' slot) P') (P'.exa (i := 0) rfl) (t79 hw) (t80 hw) (t23 hw) (t81 hw) (t24 hw) (t82 hw) (by decide) (lenOf pd0 rfl) rfl rfl (by decide) (by decide) (by decide) (by decide) rfl ?_
        rintro _ _ ⟨rfl, rfl⟩
        refine go_more (k' := 0) (n' := 0) (by decide) (by decide) ?_
        refine go_isI (Int32.ofNat (own_home b (own_g ks' slot))) (own_hash_val b hb _).2 ?_
        refine go_istore c19_64 rfl h5 ?_
        dsimp only [setl]
        refine go_iload c19_66 rfl ?_
        refine go_iload c19_68 rfl ?_
        refine go_isub c19_70 ?_
        refine go_iload c19_71 rfl ?_
        refine go_iand c19_72 ?_
        refine go_isI (Int32.ofNat (own_d (2 ^ b) (own_home b (own_g ks' slot)) slot)) (own_i_dist b hb.2 slot a2 _ (own_hash_val b hb _).1) ?_
        refine go_iload c19_73 rfl ?_
        refine go_iload c19_75 rfl ?_
        refine go_isub c19_76 ?_
        refine go_iload c19_77 rfl ?_
        refine go_iand c19_78 ?_
        refine go_isI (Int32.ofNat (own_d (2 ^ b) hole slot)) (own_i_dist b hb.2 slot a2 hole a1) ?_
        have dl1 := own_d_lt (2 ^ b) (own_home b (own_g ks' slot)) slot (by omega)
        have dl2 := own_d_lt (2 ^ b) hole slot (by omega)
        have dl3 := own_d_lt (2 ^ b) slot f (by omega)
        refine go_icmp_lt c19_79 (fun b79 => ?_) (fun b79 => ?_)
        · refine go_iload c19_111 rfl ?_
          refine go_push c19_113 ?_
          refine go_iadd c19_114 ?_
          refine go_iload c19_115 rfl ?_
          refine go_iand c19_116 ?_
          refine go_isI (Int32.ofNat ((slot + 1) % 2 ^ b)) (own_i_next b hb.2 slot a2) ?_
          refine go_istore c19_117 rfl rfl ?_
          dsimp only [setl]
          refine go_goto c19_119 ?_
          exact ih _ _ _ _ _ f _ (by omega) rfl (own_rm_keep I b50 ((own_i_lt _ (by omega) _ (by omega)).mp b79)) P'
        · refine go_aload c19_82 rfl rfl ?_
          refine go_get (y := (⟨"com/example/satisfy/satisfy/reasoner/IntMap", "remove", "(I)V"⟩ : MethodName)) P' (0) 1 c19_83 rfl rfl (t35 hw) ?_
          refine go_iload c19_86 rfl ?_
          refine go_aload c19_87 rfl rfl ?_
          refine go_get (y := (⟨"com/example/satisfy/satisfy/reasoner/IntMap", "remove", "(I)V"⟩ : MethodName)) P' (0) 1 c19_88 rfl rfl (t35 hw) ?_
          refine go_iload c19_91 rfl ?_
          refine go_ialoadH P' 1 c19_93 rfl (own_rd ks' slot ⟨by (try simp only [List.length_set]); omega, by omega⟩).1 (own_rd ks' slot ⟨by (try simp only [List.length_set]); omega, by omega⟩).2 ?_
          refine go_iastoreH P' 1 c19_94 rfl (own_wr ks' hole ⟨by (try simp only [List.length_set]); omega, by omega⟩).1 (own_wr ks' hole ⟨by (try simp only [List.length_set]); omega, by omega⟩).2 ?_
          intro h5 P6
          dsimp only [lupd] at P6
          rw [own_upd ks' hole ⟨by (try simp only [List.length_set]); omega, by omega⟩] at P6
          refine go_aload c19_95 rfl rfl ?_
          refine go_get (y := (⟨"com/example/satisfy/satisfy/reasoner/IntMap", "remove", "(I)V"⟩ : MethodName)) P6 (0) 2 c19_96 rfl rfl (t41 hw) ?_
          refine go_iload c19_99 rfl ?_
          refine go_aload c19_100 rfl rfl ?_
          refine go_get (y := (⟨"com/example/satisfy/satisfy/reasoner/IntMap", "remove", "(I)V"⟩ : MethodName)) P6 (0) 2 c19_101 rfl rfl (t41 hw) ?_
          refine go_iload c19_104 rfl ?_
          refine go_ialoadH P6 2 c19_106 rfl (own_rd vs' slot ⟨by (try simp only [List.length_set]); omega, by omega⟩).1 (own_rd vs' slot ⟨by (try simp only [List.length_set]); omega, by omega⟩).2 ?_
          refine go_iastoreH P6 2 c19_107 rfl (own_wr vs' hole ⟨by (try simp only [List.length_set]); omega, by omega⟩).1 (own_wr vs' hole ⟨by (try simp only [List.length_set]); omega, by omega⟩).2 ?_
          intro h7 P8
          dsimp only [lupd] at P8
          rw [own_upd vs' hole ⟨by (try simp only [List.length_set]); omega, by omega⟩] at P8
          refine go_iload c19_108 rfl ?_
          refine go_istore c19_110 rfl rfl ?_
          dsimp only [setl]
          refine go_iload c19_111 rfl ?_
          refine go_push c19_113 ?_
          refine go_iadd c19_114 ?_
          refine go_iload c19_115 rfl ?_
          refine go_iand c19_116 ?_
          refine go_isI (Int32.ofNat ((slot + 1) % 2 ^ b)) (own_i_next b hb.2 slot a2) ?_
          refine go_istore c19_117 rfl rfl ?_
          dsimp only [setl]
          refine go_goto c19_119 ?_
          exact ih _ _ _ _ _ f _ (by omega) rfl (own_rm_move I b50 (fun u => b79 ((own_i_lt _ (by omega) _ (by omega)).mpr u))) P8
  refine go_aload c19_0 rfl rfl ?_
  refine go_iload c19_1 rfl ?_
  refine go_callP1 (y := (⟨"com/example/satisfy/satisfy/reasoner/IntMap", "remove", "(I)V"⟩ : MethodName)) (W := 0) (argsL := [(.int key)]) (st := []) c19_2 (rm_slotOf l Z a0 hw h0 n0 _ m _ _ _ b ks key hb hlen hfree P0) (P0.exa (i := 0) rfl) (t75 hw) (t76 hw) (t23 hw) (t77 hw) (t24 hw) (t78 hw) (by decide) (lenOf pd0 rfl) rfl rfl (by decide) (by decide) (by decide) (by decide) rfl ?_
  rintro _ _ ⟨rfl, j, rfl, hS⟩
  refine go_more (k' := 0) (n' := 0) (by decide) (by decide) ?_
  refine go_istore c19_5 rfl rfl ?_
  dsimp only [setl]
  refine go_aload c19_6 rfl rfl ?_
  refine go_get (y := (⟨"com/example/satisfy/satisfy/reasoner/IntMap", "remove", "(I)V"⟩ : MethodName)) P0 (0) 1 c19_7 rfl rfl (t35 hw) ?_
  refine go_iload c19_10 rfl ?_
  refine go_ialoadH P0 1 c19_11 rfl (own_rd ks j ⟨by have := hS.1; omega, by have := hS.1; omega⟩).1 (own_rd ks j ⟨by have := hS.1; omega, by have := hS.1; omega⟩).2 ?_
  refine go_push c19_12 ?_
  refine go_icmp_ne c19_13 (fun b13 => ?_) (fun b13 => ?_)
  · refine go_aload c19_17 rfl rfl ?_
    refine go_dup c19_18 rfl ?_
    refine go_get (y := (⟨"com/example/satisfy/satisfy/reasoner/IntMap", "remove", "(I)V"⟩ : MethodName)) P0 (0) 3 c19_19 rfl rfl (t95 hw) ?_
    have hn1 : 1 ≤ n ∧ n ≤ 8 := ⟨own_cnt_pos ks j (by have := hS.1; omega) b13 hcnt, by omega⟩
    refine go_push c19_22 ?_
    refine go_isub c19_23 ?_
    rw [own_ipred n hn1]
    refine go_put (y := (⟨"com/example/satisfy/satisfy/reasoner/IntMap", "remove", "(I)V"⟩ : MethodName)) P0 0 3 .int c19_24 rfl rfl (t95 hw) (Or.inl (t96 hw)) (t23 hw) (by decide) rfl rfl ?_
    intro h9 P10
    dsimp only [lupd] at P10
    refine go_aload c19_27 rfl rfl ?_
    refine go_get (y := (⟨"com/example/satisfy/satisfy/reasoner/IntMap", "remove", "(I)V"⟩ : MethodName)) P10 (0) 1 c19_28 rfl rfl (t35 hw) ?_
    refine go_alen (z := (Int32.ofNat (2 ^ b))) P10 (1) c19_31 rfl (own_ln ks _ hlen) ?_
    refine go_push c19_32 ?_
    refine go_isub c19_33 ?_
    refine go_istore c19_34 rfl rfl ?_
    dsimp only [setl]
    refine go_iload c19_35 rfl ?_
    refine go_push c19_36 ?_
    refine go_iadd c19_37 ?_
    refine go_iload c19_38 rfl ?_
    refine go_iand c19_39 ?_
    refine go_isI (Int32.ofNat ((j + 1) % 2 ^ b)) (own_i_next b hb.2 j hS.1) ?_
    refine go_istore c19_40 rfl rfl ?_
    dsimp only [setl]
    have hkey : own_g ks j = key := hS.2.2.resolve_left b13
    obtain ⟨f, I⟩ := own_rm_start Rp hS.1 b13
    rw [hkey] at I
    exact Lp _ _ _ _ _ _ f _ rfl rfl I P10
  · exact go_ret rfl c19_16 (by decide) (by decide) ⟨rfl, n, ks, vs, by omega, own_congr Rp fun k hk' => by unfold own_up; split <;> first | rfl | (rename_i q; rw [q]; exact Rp.2.2.2.2.2.2.2.2 key hk (own_absent Rp hk hS b13)), P0⟩
theorem own_mk (x m : Int32) (k : Nat) (hk : m.toBitVec.toNat = k) : (x &&& m).toBitVec.toNat ≤ k := by
  rw [Int32.toBitVec_and, BitVec.toNat_and, ← hk]; exact Nat.and_le_right
theorem own_nneg (x : Int32) : ¬ (x &&& 2147483647) < 0 := by
  have h := own_mk x 2147483647 2147483647 (by decide)
  rw [Int32.lt_iff_toInt_lt]
  have e : (x &&& 2147483647).toInt = ((x &&& 2147483647).toBitVec.toNat : Int) := BitVec.toInt_eq_toNat_of_lt (by omega)
  have e0 : (0 : Int32).toInt = 0 := by decide
  omega
theorem own_small (x : Int32) (h0 : ¬ x < 0) (h4 : x < 5) : x = 0 ∨ x = 1 ∨ x = 2 ∨ x = 3 ∨ x = 4 := by
  rw [Int32.lt_iff_toInt_lt] at h0 h4
  have e0 : (0 : Int32).toInt = 0 := by decide
  have e5 : (5 : Int32).toInt = 5 := by decide
  have : x.toInt = 0 ∨ x.toInt = 1 ∨ x.toInt = 2 ∨ x.toInt = 3 ∨ x.toInt = 4 := by omega
  rcases this with h | h | h | h | h
  · exact Or.inl (Int32.toInt_inj.mp (h.trans (by decide)))
  · exact Or.inr (Or.inl (Int32.toInt_inj.mp (h.trans (by decide))))
  · exact Or.inr (Or.inr (Or.inl (Int32.toInt_inj.mp (h.trans (by decide)))))
  · exact Or.inr (Or.inr (Or.inr (Or.inl (Int32.toInt_inj.mp (h.trans (by decide))))))
  · exact Or.inr (Or.inr (Or.inr (Or.inr (Int32.toInt_inj.mp (h.trans (by decide))))))
theorem own_rem (x y : Int32) (k : Int) (hk : y.toInt = k) (hp : 0 < k) (h : ¬ x < 0) : ¬ x % y < 0 ∧ (x % y).toInt < k := by
  rw [Int32.lt_iff_toInt_lt] at h ⊢
  have e0 : (0 : Int32).toInt = 0 := by decide
  rw [e0] at h ⊢
  have e : (x % y).toInt = x.toInt.tmod y.toInt := Int32.toInt_mod x y
  rw [hk] at e
  have a1 : 0 ≤ x.toInt.tmod k := Int.tmod_nonneg k (by omega)
  have a2 : x.toInt.tmod k < k := Int.tmod_lt_of_pos _ hp
  omega
theorem own_k5 (n : Int32) : (n &&& 2147483647) % 5 = 0 ∨ (n &&& 2147483647) % 5 = 1 ∨ (n &&& 2147483647) % 5 = 2 ∨ (n &&& 2147483647) % 5 = 3 ∨ (n &&& 2147483647) % 5 = 4 := by
  obtain ⟨h1, h2⟩ := own_rem (n &&& 2147483647) 5 5 (by decide) (by decide) (own_nneg n)
  refine own_small _ h1 ?_
  rw [Int32.lt_iff_toInt_lt, show (5 : Int32).toInt = 5 from by decide]; exact h2
theorem own_pm6 (p : Int32) (h : ¬ p < 0) : ¬ p % 6 < 0 := (own_rem p 6 6 (by decide) (by decide) h).1
theorem own_lt_trans (x a b : Int32) (h : x < a) (q : a.toInt ≤ b.toInt) : x < b := by
  rw [Int32.lt_iff_toInt_lt] at h ⊢; omega
theorem own_cs (a b c d c0 c1 c2 c3 : Int32) (e0 : c0 = a &&& 1073741823) (e1 : c1 = c0 + 1 + (b &&& 268435455)) (e2 : c2 = c1 + 1 + (c &&& 268435455)) (e3 : c3 = c2 + 1 + (d &&& 268435455)) :
    (c0 ≠ -1 ∧ c1 ≠ -1 ∧ c2 ≠ -1 ∧ c3 ≠ -1) ∧ (c0 ≠ c1 ∧ c0 ≠ c2 ∧ c0 ≠ c3) ∧ (c1 ≠ c0 ∧ c1 ≠ c2 ∧ c1 ≠ c3) ∧ (c2 ≠ c0 ∧ c2 ≠ c1 ∧ c2 ≠ c3) ∧ (c3 ≠ c0 ∧ c3 ≠ c1 ∧ c3 ≠ c2) := by
  have h0 := own_mk a 1073741823 1073741823 (by decide)
  have h1 := own_mk b 268435455 268435455 (by decide)
  have h2 := own_mk c 268435455 268435455 (by decide)
  have h3 := own_mk d 268435455 268435455 (by decide)
  have o : (1 : Int32).toBitVec.toNat = 1 := by decide
  have m : (-1 : Int32).toBitVec.toNat = 4294967295 := by decide
  have ad : ∀ x y : Int32, (x + 1 + y).toBitVec.toNat = (x.toBitVec.toNat + 1 + y.toBitVec.toNat) % 4294967296 := by
    intro x y
    rw [Int32.toBitVec_add, Int32.toBitVec_add, BitVec.toNat_add, BitVec.toNat_add, o]; omega
  have g0 : c0.toBitVec.toNat ≤ 1073741823 := by rw [e0]; exact h0
  have g1 : c1.toBitVec.toNat = c0.toBitVec.toNat + 1 + (b &&& 268435455).toBitVec.toNat := by rw [e1, ad]; omega
  have g2 : c2.toBitVec.toNat = c1.toBitVec.toNat + 1 + (c &&& 268435455).toBitVec.toNat := by rw [e2, ad]; omega
  have g3 : c3.toBitVec.toNat = c2.toBitVec.toNat + 1 + (d &&& 268435455).toBitVec.toNat := by rw [e3, ad]; omega
  have ne : ∀ x y : Int32, x.toBitVec.toNat ≠ y.toBitVec.toNat → x ≠ y := fun x y h q => h (by rw [q])
  refine ⟨⟨?_, ?_, ?_, ?_⟩, ⟨?_, ?_, ?_⟩, ⟨?_, ?_, ?_⟩, ⟨?_, ?_, ?_⟩, ?_, ?_, ?_⟩ <;> refine ne _ _ ?_ <;> omega
def own_min (a b : Int32) : Int32 := if b < a then b else a
set_option maxRecDepth 65536 in
set_option maxHeartbeats 4000000 in
theorem rm_tinit (l : Launch) (Z : State) (a0 : Array Value) (hw : ∀ d ∈ tables_1, d.before a0 Z = true) (h0 : Heap) (n0 : Nat) (t : Addr) (P0 : Hp Z n0 h0 [(t, (.inl ("com/example/satisfy/satisfy/reasoner/Trail", [(("com/example/satisfy/satisfy/reasoner/Trail", "concepts", "[I"), .null), (("com/example/satisfy/satisfy/reasoner/Trail", "reasons", "[Lcom/example/satisfy/satisfy/reasoner/Reason;"), .null), (("com/example/satisfy/satisfy/reasoner/Trail", "positions", "Lcom/example/satisfy/satisfy/reasoner/IntMap;"), .null), (("com/example/satisfy/satisfy/reasoner/Trail", "size", "I"), (.int 0))])))]) :
    Con false l Z (⟨"com/example/satisfy/satisfy/reasoner/Trail", "<init>", "()V"⟩ : MethodName) prog_91_method_1_code 1 none ({ frames := 3, cells := 5, slots := 36, locals := 42 } : Room) #[(.ref t)] h0 n0 (R0 fun h' => ∃ m ka va rea con, Hp Z n0 h' [(m, (.inl ("com/example/satisfy/satisfy/reasoner/IntMap", [(("com/example/satisfy/satisfy/reasoner/IntMap", "bits", "I"), (.int (Int32.ofNat 1))), (("com/example/satisfy/satisfy/reasoner/IntMap", "keys", "[I"), (.ref ka)), (("com/example/satisfy/satisfy/reasoner/IntMap", "values", "[I"), (.ref va)), (("com/example/satisfy/satisfy/reasoner/IntMap", "size", "I"), (.int (Int32.ofNat 0)))]))), (ka, (own_ia (List.replicate (2 ^ 1) (-1)))), (va, (own_ia (List.replicate (2 ^ 1) 0))), (rea, (.inr ((.object "com/example/satisfy/satisfy/reasoner/Reason"), "[Lcom/example/satisfy/satisfy/reasoner/Reason;", [.null, .null, .null, .null, .null, .null, .null, .null]))), (con, (.inr (.int, "[I", [(.int 0), (.int 0), (.int 0), (.int 0), (.int 0), (.int 0), (.int 0), (.int 0)]))), (t, (.inl ("com/example/satisfy/satisfy/reasoner/Trail", [(("com/example/satisfy/satisfy/reasoner/Trail", "concepts", "[I"), (.ref con)), (("com/example/satisfy/satisfy/reasoner/Trail", "reasons", "[Lcom/example/satisfy/satisfy/reasoner/Reason;"), (.ref rea)), (("com/example/satisfy/satisfy/reasoner/Trail", "positions", "Lcom/example/satisfy/satisfy/reasoner/IntMap;"), (.ref m)), (("com/example/satisfy/satisfy/reasoner/Trail", "size", "I"), (.int 0))])))]) := by
  refine con_of (ls := [.val (.ref t)]) (plainFor_of_name pn2) rfl ?_
  refine go_aload c1_0 rfl rfl ?_
  refine go_initO (y := (⟨"com/example/satisfy/satisfy/reasoner/Trail", "<init>", "()V"⟩ : MethodName)) (W := 0) c1_1 (t12 hw) (t13 hw) (t14 hw) rfl (by decide) rfl (by decide) ?_
  refine go_aload c1_4 rfl rfl ?_
  refine go_push c1_5 ?_
  refine go_newarr (y := (⟨"com/example/satisfy/satisfy/reasoner/Trail", "<init>", "()V"⟩ : MethodName)) P0 "[I" [(.int 0), (.int 0), (.int 0), (.int 0), (.int 0), (.int 0), (.int 0), (.int 0)] 8 c1_7 (t15 hw) (by decide) (by decide) (by decide) (by decide) rfl rfl (by decide) (by decide) ?_
  intro h1 a3 P2
  refine go_more (k' := 1) (n' := 8) (by decide) (by decide) ?_
  refine go_put (y := (⟨"com/example/satisfy/satisfy/reasoner/Trail", "<init>", "()V"⟩ : MethodName)) P2 1 0 (.array .int) c1_9 rfl rfl (t16 hw) (Or.inl (t17 hw)) (t7 hw) (by decide) rfl rfl ?_
  intro h4 P5
  dsimp only [lupd] at P5
  refine go_aload c1_12 rfl rfl ?_
  refine go_push c1_13 ?_
  refine go_newobjarr (y := (⟨"com/example/satisfy/satisfy/reasoner/Trail", "<init>", "()V"⟩ : MethodName)) P5 "[Lcom/example/satisfy/satisfy/reasoner/Reason;" [.null, .null, .null, .null, .null, .null, .null, .null] 8 c1_15 (t18 hw) (t19 hw) (by decide) (by decide) (by decide) (by decide) rfl (by decide) (by decide) ?_
  intro h6 a8 P7
  refine go_more (k' := 2) (n' := 16) (by decide) (by decide) ?_
  refine go_put (y := (⟨"com/example/satisfy/satisfy/reasoner/Trail", "<init>", "()V"⟩ : MethodName)) P7 2 1 (.array (.object "com/example/satisfy/satisfy/reasoner/Reason")) c1_18 rfl rfl (t20 hw) (Or.inl (t21 hw)) (t7 hw) (by decide) rfl rfl ?_
  intro h9 P10
  dsimp only [lupd] at P10
  refine go_aload c1_21 rfl rfl ?_
  refine go_new (y := (⟨"com/example/satisfy/satisfy/reasoner/Trail", "<init>", "()V"⟩ : MethodName)) P10 [(("com/example/satisfy/satisfy/reasoner/IntMap", "bits", "I"), (.int 0)), (("com/example/satisfy/satisfy/reasoner/IntMap", "keys", "[I"), .null), (("com/example/satisfy/satisfy/reasoner/IntMap", "values", "[I"), .null), (("com/example/satisfy/satisfy/reasoner/IntMap", "size", "I"), (.int 0))] c1_22 (t22 hw) (t23 hw) (t24 hw) (⟨⟨Or.inl (t34 hw), .int, by decide, rfl⟩, ⟨⟨Or.inl (t36 hw), (.array .int), by decide, rfl⟩, ⟨⟨Or.inl (t42 hw), (.array .int), by decide, rfl⟩, ⟨⟨Or.inl (t96 hw), .int, by decide, rfl⟩, trivial⟩⟩⟩⟩) (by decide) (by decide) (by decide) ?_
  intro h11 a13 P12
  refine go_more (k' := 3) (n' := 20) (by decide) (by decide) ?_
  refine go_dup c1_25 rfl ?_
  refine go_callN0 (y := (⟨"com/example/satisfy/satisfy/reasoner/Trail", "<init>", "()V"⟩ : MethodName)) (W := 2) (argsL := []) (st := [(.ref a13), (.ref t)]) c1_26 rfl rfl (rm_init l Z a0 hw h11 n0 _ a13 P12) (t25 hw) (t26 hw) (t24 hw) (t27 hw) (by decide) (lenOf pd3 rfl) rfl rfl (by decide) (by decide) (by decide) (by decide) rfl ?_
  rintro h15 ⟨ka16, va17, P14⟩
  refine go_more (k' := 5) (n' := 36) (by decide) (by decide) ?_
  have P18 : Hp Z n0 h15 ([(a13, (.inl ("com/example/satisfy/satisfy/reasoner/IntMap", [(("com/example/satisfy/satisfy/reasoner/IntMap", "bits", "I"), (.int (Int32.ofNat 1))), (("com/example/satisfy/satisfy/reasoner/IntMap", "keys", "[I"), (.ref ka16)), (("com/example/satisfy/satisfy/reasoner/IntMap", "values", "[I"), (.ref va17)), (("com/example/satisfy/satisfy/reasoner/IntMap", "size", "I"), (.int (Int32.ofNat 0)))]))), (ka16, (own_ia (List.replicate (2 ^ 1) (-1)))), (va17, (own_ia (List.replicate (2 ^ 1) 0))), (a8, (.inr ((.object "com/example/satisfy/satisfy/reasoner/Reason"), "[Lcom/example/satisfy/satisfy/reasoner/Reason;", [.null, .null, .null, .null, .null, .null, .null, .null]))), (a3, (.inr (.int, "[I", [(.int 0), (.int 0), (.int 0), (.int 0), (.int 0), (.int 0), (.int 0), (.int 0)]))), (t, (.inl ("com/example/satisfy/satisfy/reasoner/Trail", [(("com/example/satisfy/satisfy/reasoner/Trail", "concepts", "[I"), (.ref a3)), (("com/example/satisfy/satisfy/reasoner/Trail", "reasons", "[Lcom/example/satisfy/satisfy/reasoner/Reason;"), (.ref a8)), (("com/example/satisfy/satisfy/reasoner/Trail", "positions", "Lcom/example/satisfy/satisfy/reasoner/IntMap;"), .null), (("com/example/satisfy/satisfy/reasoner/Trail", "size", "I"), (.int 0))])))]) := P14
  refine go_put (y := (⟨"com/example/satisfy/satisfy/reasoner/Trail", "<init>", "()V"⟩ : MethodName)) P18 5 2 (.object "com/example/satisfy/satisfy/reasoner/IntMap") c1_29 rfl rfl (t43 hw) (Or.inr ⟨(t44 hw), rfl, rfl⟩) (t7 hw) (by decide) rfl rfl ?_
  intro h19 P20
  dsimp only [lupd] at P20
  exact go_ret rfl c1_32 (by decide) (by decide) ⟨rfl, _, _, _, _, _, P20⟩
set_option maxRecDepth 65536 in
set_option maxHeartbeats 4000000 in
theorem rm_add0 (l : Launch) (Z : State) (a0 : Array Value) (hw : ∀ d ∈ tables_1, d.before a0 Z = true) (h0 : Heap) (n0 : Nat) (t m con rea : Addr) (x0 x1 x2 x3 x4 x5 x6 x7 : Int32) (y0 y1 y2 y3 y4 y5 y6 y7 : Value) (ka va : Addr) (b n : Nat) (ks vs : List Int32) (F : Int32 → Int32) (Rp : own_Rep b ks vs n F) (P0 : Hp Z n0 h0 [(m, (.inl ("com/example/satisfy/satisfy/reasoner/IntMap", [(("com/example/satisfy/satisfy/reasoner/IntMap", "bits", "I"), (.int (Int32.ofNat b))), (("com/example/satisfy/satisfy/reasoner/IntMap", "keys", "[I"), (.ref ka)), (("com/example/satisfy/satisfy/reasoner/IntMap", "values", "[I"), (.ref va)), (("com/example/satisfy/satisfy/reasoner/IntMap", "size", "I"), (.int (Int32.ofNat n)))]))), (ka, (own_ia ks)), (va, (own_ia vs)), (rea, (.inr ((.object "com/example/satisfy/satisfy/reasoner/Reason"), "[Lcom/example/satisfy/satisfy/reasoner/Reason;", [y0, y1, y2, y3, y4, y5, y6, y7]))), (con, (.inr (.int, "[I", [(.int x0), (.int x1), (.int x2), (.int x3), (.int x4), (.int x5), (.int x6), (.int x7)]))), (t, (.inl ("com/example/satisfy/satisfy/reasoner/Trail", [(("com/example/satisfy/satisfy/reasoner/Trail", "concepts", "[I"), (.ref con)), (("com/example/satisfy/satisfy/reasoner/Trail", "reasons", "[Lcom/example/satisfy/satisfy/reasoner/Reason;"), (.ref rea)), (("com/example/satisfy/satisfy/reasoner/Trail", "positions", "Lcom/example/satisfy/satisfy/reasoner/IntMap;"), (.ref m)), (("com/example/satisfy/satisfy/reasoner/Trail", "size", "I"), (.int 0))])))]) (r : Addr) (hr : Exa Z Z.heap r "com/example/satisfy/satisfy/reasoner/Reason") (key : Int32) (hk : key ≠ -1) (hn3 : n ≤ 3) :
    Con false l Z (⟨"com/example/satisfy/satisfy/reasoner/Trail", "add", "(ILcom/example/satisfy/satisfy/reasoner/Reason;)V"⟩ : MethodName) prog_91_method_7_code 3 none ({ frames := 4, cells := 2, slots := 16, locals := 59 } : Room) #[(.ref t), (.int key), (.ref r)] h0 n0 (R0 fun h' => ∃ ka' va' b' n' ks' vs', n' ≤ n + 1 ∧ own_Rep b' ks' vs' n' (own_up F key 0) ∧ Hp Z n0 h' [(m, (.inl ("com/example/satisfy/satisfy/reasoner/IntMap", [(("com/example/satisfy/satisfy/reasoner/IntMap", "bits", "I"), (.int (Int32.ofNat b'))), (("com/example/satisfy/satisfy/reasoner/IntMap", "keys", "[I"), (.ref ka')), (("com/example/satisfy/satisfy/reasoner/IntMap", "values", "[I"), (.ref va')), (("com/example/satisfy/satisfy/reasoner/IntMap", "size", "I"), (.int (Int32.ofNat n')))]))), (ka', (own_ia ks')), (va', (own_ia vs')), (rea, (.inr ((.object "com/example/satisfy/satisfy/reasoner/Reason"), "[Lcom/example/satisfy/satisfy/reasoner/Reason;", [(.ref r), y1, y2, y3, y4, y5, y6, y7]))), (con, (.inr (.int, "[I", [(.int key), (.int x1), (.int x2), (.int x3), (.int x4), (.int x5), (.int x6), (.int x7)]))), (t, (.inl ("com/example/satisfy/satisfy/reasoner/Trail", [(("com/example/satisfy/satisfy/reasoner/Trail", "concepts", "[I"), (.ref con)), (("com/example/satisfy/satisfy/reasoner/Trail", "reasons", "[Lcom/example/satisfy/satisfy/reasoner/Reason;"), (.ref rea)), (("com/example/satisfy/satisfy/reasoner/Trail", "positions", "Lcom/example/satisfy/satisfy/reasoner/IntMap;"), (.ref m)), (("com/example/satisfy/satisfy/reasoner/Trail", "size", "I"), (.int 1))])))]) := by
  refine con_of (ls := [.val (.ref t), .val (.int key), .val (.ref r)]) (plainFor_of_name pn2) rfl ?_
  refine go_aload c14_0 rfl rfl ?_
  refine go_get (y := (⟨"com/example/satisfy/satisfy/reasoner/Trail", "add", "(ILcom/example/satisfy/satisfy/reasoner/Reason;)V"⟩ : MethodName)) P0 (5) 3 c14_1 rfl rfl (t50 hw) ?_
  refine go_aload c14_4 rfl rfl ?_
  refine go_get (y := (⟨"com/example/satisfy/satisfy/reasoner/Trail", "add", "(ILcom/example/satisfy/satisfy/reasoner/Reason;)V"⟩ : MethodName)) P0 (5) 0 c14_5 rfl rfl (t16 hw) ?_
  refine go_alen (z := 8) P0 (4) c14_8 rfl rfl ?_
  refine go_icmp_ne c14_9 (fun _ => ?_) (fun q => absurd q (by decide))
  refine go_aload c14_49 rfl rfl ?_
  refine go_get (y := (⟨"com/example/satisfy/satisfy/reasoner/Trail", "add", "(ILcom/example/satisfy/satisfy/reasoner/Reason;)V"⟩ : MethodName)) P0 (5) 0 c14_50 rfl rfl (t16 hw) ?_
  refine go_aload c14_53 rfl rfl ?_
  refine go_get (y := (⟨"com/example/satisfy/satisfy/reasoner/Trail", "add", "(ILcom/example/satisfy/satisfy/reasoner/Reason;)V"⟩ : MethodName)) P0 (5) 3 c14_54 rfl rfl (t50 hw) ?_
  refine go_iload c14_57 rfl ?_
  refine go_iastoreH P0 4 c14_58 rfl (by decide) (Nat.le_of_ble_eq_true rfl) ?_
  intro h1 P2
  dsimp only [lupd] at P2
  refine go_aload c14_59 rfl rfl ?_
  refine go_get (y := (⟨"com/example/satisfy/satisfy/reasoner/Trail", "add", "(ILcom/example/satisfy/satisfy/reasoner/Reason;)V"⟩ : MethodName)) P2 (5) 1 c14_60 rfl rfl (t20 hw) ?_
  refine go_aload c14_63 rfl rfl ?_
  refine go_get (y := (⟨"com/example/satisfy/satisfy/reasoner/Trail", "add", "(ILcom/example/satisfy/satisfy/reasoner/Reason;)V"⟩ : MethodName)) P2 (5) 3 c14_64 rfl rfl (t50 hw) ?_
  refine go_aload c14_67 rfl rfl ?_
  refine go_aastoreH P2 3 c14_68 rfl rfl rfl (by decide) (Nat.le_of_ble_eq_true rfl) (P2.stoI (i := 3) rfl (Ins.self (hr.ext P2.1.2))) ?_
  intro h3 P4
  dsimp only [lupd] at P4
  refine go_aload c14_69 rfl rfl ?_
  refine go_get (y := (⟨"com/example/satisfy/satisfy/reasoner/Trail", "add", "(ILcom/example/satisfy/satisfy/reasoner/Reason;)V"⟩ : MethodName)) P4 (5) 2 c14_70 rfl rfl (t43 hw) ?_
  refine go_iload c14_73 rfl ?_
  refine go_aload c14_74 rfl rfl ?_
  refine go_get (y := (⟨"com/example/satisfy/satisfy/reasoner/Trail", "add", "(ILcom/example/satisfy/satisfy/reasoner/Reason;)V"⟩ : MethodName)) P4 (5) 3 c14_75 rfl rfl (t50 hw) ?_
  refine go_callV0 (y := (⟨"com/example/satisfy/satisfy/reasoner/Trail", "add", "(ILcom/example/satisfy/satisfy/reasoner/Reason;)V"⟩ : MethodName)) (W := 0) (argsL := [(.int key), (.int 0)]) (st := []) c14_78 (rm_put l Z a0 hw h3 n0 _ m key 0 hk ka va b n ks vs F Rp P4 (by omega)) (P4.exa (i := 0) rfl) (t90 hw) (t91 hw) (fun _ q => notFace_of_selects (args := #[]) (mvT q (t93 hw))) (t93 hw) (t92 hw) (t24 hw) (t94 hw) (by decide) (lenOf pd4 rfl) rfl rfl (by decide) (by decide) (by decide) (by decide) rfl ?_
  rintro h5 ⟨ka5, va5, b5, n5, ks5, vs5, hle5, Rp5, P5⟩
  refine go_more (k' := 2) (n' := 16) (by decide) (by decide) ?_
  refine go_aload c14_81 rfl rfl ?_
  refine go_dup c14_82 rfl ?_
  refine go_get (y := (⟨"com/example/satisfy/satisfy/reasoner/Trail", "add", "(ILcom/example/satisfy/satisfy/reasoner/Reason;)V"⟩ : MethodName)) P5 (5) 3 c14_83 rfl rfl (t50 hw) ?_
  refine go_push c14_86 ?_
  refine go_iadd c14_87 ?_
  refine go_isI 1 (by decide) ?_
  refine go_put (y := (⟨"com/example/satisfy/satisfy/reasoner/Trail", "add", "(ILcom/example/satisfy/satisfy/reasoner/Reason;)V"⟩ : MethodName)) P5 5 3 .int c14_88 rfl rfl (t50 hw) (Or.inl (t51 hw)) (t7 hw) (by decide) rfl rfl ?_
  intro h6 P7
  dsimp only [lupd] at P7
  exact go_ret rfl c14_91 (by decide) (by decide) ⟨rfl, _, _, _, _, _, _, hle5, Rp5, P7⟩
set_option maxRecDepth 65536 in
set_option maxHeartbeats 4000000 in
theorem rm_add1 (l : Launch) (Z : State) (a0 : Array Value) (hw : ∀ d ∈ tables_1, d.before a0 Z = true) (h0 : Heap) (n0 : Nat) (t m con rea : Addr) (x0 x1 x2 x3 x4 x5 x6 x7 : Int32) (y0 y1 y2 y3 y4 y5 y6 y7 : Value) (ka va : Addr) (b n : Nat) (ks vs : List Int32) (F : Int32 → Int32) (Rp : own_Rep b ks vs n F) (P0 : Hp Z n0 h0 [(m, (.inl ("com/example/satisfy/satisfy/reasoner/IntMap", [(("com/example/satisfy/satisfy/reasoner/IntMap", "bits", "I"), (.int (Int32.ofNat b))), (("com/example/satisfy/satisfy/reasoner/IntMap", "keys", "[I"), (.ref ka)), (("com/example/satisfy/satisfy/reasoner/IntMap", "values", "[I"), (.ref va)), (("com/example/satisfy/satisfy/reasoner/IntMap", "size", "I"), (.int (Int32.ofNat n)))]))), (ka, (own_ia ks)), (va, (own_ia vs)), (rea, (.inr ((.object "com/example/satisfy/satisfy/reasoner/Reason"), "[Lcom/example/satisfy/satisfy/reasoner/Reason;", [y0, y1, y2, y3, y4, y5, y6, y7]))), (con, (.inr (.int, "[I", [(.int x0), (.int x1), (.int x2), (.int x3), (.int x4), (.int x5), (.int x6), (.int x7)]))), (t, (.inl ("com/example/satisfy/satisfy/reasoner/Trail", [(("com/example/satisfy/satisfy/reasoner/Trail", "concepts", "[I"), (.ref con)), (("com/example/satisfy/satisfy/reasoner/Trail", "reasons", "[Lcom/example/satisfy/satisfy/reasoner/Reason;"), (.ref rea)), (("com/example/satisfy/satisfy/reasoner/Trail", "positions", "Lcom/example/satisfy/satisfy/reasoner/IntMap;"), (.ref m)), (("com/example/satisfy/satisfy/reasoner/Trail", "size", "I"), (.int 1))])))]) (r : Addr) (hr : Exa Z Z.heap r "com/example/satisfy/satisfy/reasoner/Reason") (key : Int32) (hk : key ≠ -1) (hn3 : n ≤ 3) :
    Con false l Z (⟨"com/example/satisfy/satisfy/reasoner/Trail", "add", "(ILcom/example/satisfy/satisfy/reasoner/Reason;)V"⟩ : MethodName) prog_91_method_7_code 3 none ({ frames := 4, cells := 2, slots := 16, locals := 59 } : Room) #[(.ref t), (.int key), (.ref r)] h0 n0 (R0 fun h' => ∃ ka' va' b' n' ks' vs', n' ≤ n + 1 ∧ own_Rep b' ks' vs' n' (own_up F key 1) ∧ Hp Z n0 h' [(m, (.inl ("com/example/satisfy/satisfy/reasoner/IntMap", [(("com/example/satisfy/satisfy/reasoner/IntMap", "bits", "I"), (.int (Int32.ofNat b'))), (("com/example/satisfy/satisfy/reasoner/IntMap", "keys", "[I"), (.ref ka')), (("com/example/satisfy/satisfy/reasoner/IntMap", "values", "[I"), (.ref va')), (("com/example/satisfy/satisfy/reasoner/IntMap", "size", "I"), (.int (Int32.ofNat n')))]))), (ka', (own_ia ks')), (va', (own_ia vs')), (rea, (.inr ((.object "com/example/satisfy/satisfy/reasoner/Reason"), "[Lcom/example/satisfy/satisfy/reasoner/Reason;", [y0, (.ref r), y2, y3, y4, y5, y6, y7]))), (con, (.inr (.int, "[I", [(.int x0), (.int key), (.int x2), (.int x3), (.int x4), (.int x5), (.int x6), (.int x7)]))), (t, (.inl ("com/example/satisfy/satisfy/reasoner/Trail", [(("com/example/satisfy/satisfy/reasoner/Trail", "concepts", "[I"), (.ref con)), (("com/example/satisfy/satisfy/reasoner/Trail", "reasons", "[Lcom/example/satisfy/satisfy/reasoner/Reason;"), (.ref rea)), (("com/example/satisfy/satisfy/reasoner/Trail", "positions", "Lcom/example/satisfy/satisfy/reasoner/IntMap;"), (.ref m)), (("com/example/satisfy/satisfy/reasoner/Trail", "size", "I"), (.int 2))])))]) := by
  refine con_of (ls := [.val (.ref t), .val (.int key), .val (.ref r)]) (plainFor_of_name pn2) rfl ?_
  refine go_aload c14_0 rfl rfl ?_
  refine go_get (y := (⟨"com/example/satisfy/satisfy/reasoner/Trail", "add", "(ILcom/example/satisfy/satisfy/reasoner/Reason;)V"⟩ : MethodName)) P0 (5) 3 c14_1 rfl rfl (t50 hw) ?_
  refine go_aload c14_4 rfl rfl ?_
  refine go_get (y := (⟨"com/example/satisfy/satisfy/reasoner/Trail", "add", "(ILcom/example/satisfy/satisfy/reasoner/Reason;)V"⟩ : MethodName)) P0 (5) 0 c14_5 rfl rfl (t16 hw) ?_
  refine go_alen (z := 8) P0 (4) c14_8 rfl rfl ?_
  refine go_icmp_ne c14_9 (fun _ => ?_) (fun q => absurd q (by decide))
  refine go_aload c14_49 rfl rfl ?_
  refine go_get (y := (⟨"com/example/satisfy/satisfy/reasoner/Trail", "add", "(ILcom/example/satisfy/satisfy/reasoner/Reason;)V"⟩ : MethodName)) P0 (5) 0 c14_50 rfl rfl (t16 hw) ?_
  refine go_aload c14_53 rfl rfl ?_
  refine go_get (y := (⟨"com/example/satisfy/satisfy/reasoner/Trail", "add", "(ILcom/example/satisfy/satisfy/reasoner/Reason;)V"⟩ : MethodName)) P0 (5) 3 c14_54 rfl rfl (t50 hw) ?_
  refine go_iload c14_57 rfl ?_
  refine go_iastoreH P0 4 c14_58 rfl (by decide) (Nat.le_of_ble_eq_true rfl) ?_
  intro h1 P2
  dsimp only [lupd] at P2
  refine go_aload c14_59 rfl rfl ?_
  refine go_get (y := (⟨"com/example/satisfy/satisfy/reasoner/Trail", "add", "(ILcom/example/satisfy/satisfy/reasoner/Reason;)V"⟩ : MethodName)) P2 (5) 1 c14_60 rfl rfl (t20 hw) ?_
  refine go_aload c14_63 rfl rfl ?_
  refine go_get (y := (⟨"com/example/satisfy/satisfy/reasoner/Trail", "add", "(ILcom/example/satisfy/satisfy/reasoner/Reason;)V"⟩ : MethodName)) P2 (5) 3 c14_64 rfl rfl (t50 hw) ?_
  refine go_aload c14_67 rfl rfl ?_
  refine go_aastoreH P2 3 c14_68 rfl rfl rfl (by decide) (Nat.le_of_ble_eq_true rfl) (P2.stoI (i := 3) rfl (Ins.self (hr.ext P2.1.2))) ?_
  intro h3 P4
  dsimp only [lupd] at P4
  refine go_aload c14_69 rfl rfl ?_
  refine go_get (y := (⟨"com/example/satisfy/satisfy/reasoner/Trail", "add", "(ILcom/example/satisfy/satisfy/reasoner/Reason;)V"⟩ : MethodName)) P4 (5) 2 c14_70 rfl rfl (t43 hw) ?_
  refine go_iload c14_73 rfl ?_
  refine go_aload c14_74 rfl rfl ?_
  refine go_get (y := (⟨"com/example/satisfy/satisfy/reasoner/Trail", "add", "(ILcom/example/satisfy/satisfy/reasoner/Reason;)V"⟩ : MethodName)) P4 (5) 3 c14_75 rfl rfl (t50 hw) ?_
  refine go_callV0 (y := (⟨"com/example/satisfy/satisfy/reasoner/Trail", "add", "(ILcom/example/satisfy/satisfy/reasoner/Reason;)V"⟩ : MethodName)) (W := 0) (argsL := [(.int key), (.int 1)]) (st := []) c14_78 (rm_put l Z a0 hw h3 n0 _ m key 1 hk ka va b n ks vs F Rp P4 (by omega)) (P4.exa (i := 0) rfl) (t90 hw) (t91 hw) (fun _ q => notFace_of_selects (args := #[]) (mvT q (t93 hw))) (t93 hw) (t92 hw) (t24 hw) (t94 hw) (by decide) (lenOf pd4 rfl) rfl rfl (by decide) (by decide) (by decide) (by decide) rfl ?_
  rintro h5 ⟨ka5, va5, b5, n5, ks5, vs5, hle5, Rp5, P5⟩
  refine go_more (k' := 2) (n' := 16) (by decide) (by decide) ?_
  refine go_aload c14_81 rfl rfl ?_
  refine go_dup c14_82 rfl ?_
  refine go_get (y := (⟨"com/example/satisfy/satisfy/reasoner/Trail", "add", "(ILcom/example/satisfy/satisfy/reasoner/Reason;)V"⟩ : MethodName)) P5 (5) 3 c14_83 rfl rfl (t50 hw) ?_
  refine go_push c14_86 ?_
  refine go_iadd c14_87 ?_
  refine go_isI 2 (by decide) ?_
  refine go_put (y := (⟨"com/example/satisfy/satisfy/reasoner/Trail", "add", "(ILcom/example/satisfy/satisfy/reasoner/Reason;)V"⟩ : MethodName)) P5 5 3 .int c14_88 rfl rfl (t50 hw) (Or.inl (t51 hw)) (t7 hw) (by decide) rfl rfl ?_
  intro h6 P7
  dsimp only [lupd] at P7
  exact go_ret rfl c14_91 (by decide) (by decide) ⟨rfl, _, _, _, _, _, _, hle5, Rp5, P7⟩
set_option maxRecDepth 65536 in
set_option maxHeartbeats 4000000 in
theorem rm_add2 (l : Launch) (Z : State) (a0 : Array Value) (hw : ∀ d ∈ tables_1, d.before a0 Z = true) (h0 : Heap) (n0 : Nat) (t m con rea : Addr) (x0 x1 x2 x3 x4 x5 x6 x7 : Int32) (y0 y1 y2 y3 y4 y5 y6 y7 : Value) (ka va : Addr) (b n : Nat) (ks vs : List Int32) (F : Int32 → Int32) (Rp : own_Rep b ks vs n F) (P0 : Hp Z n0 h0 [(m, (.inl ("com/example/satisfy/satisfy/reasoner/IntMap", [(("com/example/satisfy/satisfy/reasoner/IntMap", "bits", "I"), (.int (Int32.ofNat b))), (("com/example/satisfy/satisfy/reasoner/IntMap", "keys", "[I"), (.ref ka)), (("com/example/satisfy/satisfy/reasoner/IntMap", "values", "[I"), (.ref va)), (("com/example/satisfy/satisfy/reasoner/IntMap", "size", "I"), (.int (Int32.ofNat n)))]))), (ka, (own_ia ks)), (va, (own_ia vs)), (rea, (.inr ((.object "com/example/satisfy/satisfy/reasoner/Reason"), "[Lcom/example/satisfy/satisfy/reasoner/Reason;", [y0, y1, y2, y3, y4, y5, y6, y7]))), (con, (.inr (.int, "[I", [(.int x0), (.int x1), (.int x2), (.int x3), (.int x4), (.int x5), (.int x6), (.int x7)]))), (t, (.inl ("com/example/satisfy/satisfy/reasoner/Trail", [(("com/example/satisfy/satisfy/reasoner/Trail", "concepts", "[I"), (.ref con)), (("com/example/satisfy/satisfy/reasoner/Trail", "reasons", "[Lcom/example/satisfy/satisfy/reasoner/Reason;"), (.ref rea)), (("com/example/satisfy/satisfy/reasoner/Trail", "positions", "Lcom/example/satisfy/satisfy/reasoner/IntMap;"), (.ref m)), (("com/example/satisfy/satisfy/reasoner/Trail", "size", "I"), (.int 2))])))]) (r : Addr) (hr : Exa Z Z.heap r "com/example/satisfy/satisfy/reasoner/Reason") (key : Int32) (hk : key ≠ -1) (hn3 : n ≤ 3) :
    Con false l Z (⟨"com/example/satisfy/satisfy/reasoner/Trail", "add", "(ILcom/example/satisfy/satisfy/reasoner/Reason;)V"⟩ : MethodName) prog_91_method_7_code 3 none ({ frames := 4, cells := 2, slots := 16, locals := 59 } : Room) #[(.ref t), (.int key), (.ref r)] h0 n0 (R0 fun h' => ∃ ka' va' b' n' ks' vs', n' ≤ n + 1 ∧ own_Rep b' ks' vs' n' (own_up F key 2) ∧ Hp Z n0 h' [(m, (.inl ("com/example/satisfy/satisfy/reasoner/IntMap", [(("com/example/satisfy/satisfy/reasoner/IntMap", "bits", "I"), (.int (Int32.ofNat b'))), (("com/example/satisfy/satisfy/reasoner/IntMap", "keys", "[I"), (.ref ka')), (("com/example/satisfy/satisfy/reasoner/IntMap", "values", "[I"), (.ref va')), (("com/example/satisfy/satisfy/reasoner/IntMap", "size", "I"), (.int (Int32.ofNat n')))]))), (ka', (own_ia ks')), (va', (own_ia vs')), (rea, (.inr ((.object "com/example/satisfy/satisfy/reasoner/Reason"), "[Lcom/example/satisfy/satisfy/reasoner/Reason;", [y0, y1, (.ref r), y3, y4, y5, y6, y7]))), (con, (.inr (.int, "[I", [(.int x0), (.int x1), (.int key), (.int x3), (.int x4), (.int x5), (.int x6), (.int x7)]))), (t, (.inl ("com/example/satisfy/satisfy/reasoner/Trail", [(("com/example/satisfy/satisfy/reasoner/Trail", "concepts", "[I"), (.ref con)), (("com/example/satisfy/satisfy/reasoner/Trail", "reasons", "[Lcom/example/satisfy/satisfy/reasoner/Reason;"), (.ref rea)), (("com/example/satisfy/satisfy/reasoner/Trail", "positions", "Lcom/example/satisfy/satisfy/reasoner/IntMap;"), (.ref m)), (("com/example/satisfy/satisfy/reasoner/Trail", "size", "I"), (.int 3))])))]) := by
  refine con_of (ls := [.val (.ref t), .val (.int key), .val (.ref r)]) (plainFor_of_name pn2) rfl ?_
  refine go_aload c14_0 rfl rfl ?_
  refine go_get (y := (⟨"com/example/satisfy/satisfy/reasoner/Trail", "add", "(ILcom/example/satisfy/satisfy/reasoner/Reason;)V"⟩ : MethodName)) P0 (5) 3 c14_1 rfl rfl (t50 hw) ?_
  refine go_aload c14_4 rfl rfl ?_
  refine go_get (y := (⟨"com/example/satisfy/satisfy/reasoner/Trail", "add", "(ILcom/example/satisfy/satisfy/reasoner/Reason;)V"⟩ : MethodName)) P0 (5) 0 c14_5 rfl rfl (t16 hw) ?_
  refine go_alen (z := 8) P0 (4) c14_8 rfl rfl ?_
  refine go_icmp_ne c14_9 (fun _ => ?_) (fun q => absurd q (by decide))
  refine go_aload c14_49 rfl rfl ?_
  refine go_get (y := (⟨"com/example/satisfy/satisfy/reasoner/Trail", "add", "(ILcom/example/satisfy/satisfy/reasoner/Reason;)V"⟩ : MethodName)) P0 (5) 0 c14_50 rfl rfl (t16 hw) ?_
  refine go_aload c14_53 rfl rfl ?_
  refine go_get (y := (⟨"com/example/satisfy/satisfy/reasoner/Trail", "add", "(ILcom/example/satisfy/satisfy/reasoner/Reason;)V"⟩ : MethodName)) P0 (5) 3 c14_54 rfl rfl (t50 hw) ?_
  refine go_iload c14_57 rfl ?_
  refine go_iastoreH P0 4 c14_58 rfl (by decide) (Nat.le_of_ble_eq_true rfl) ?_
  intro h1 P2
  dsimp only [lupd] at P2
  refine go_aload c14_59 rfl rfl ?_
  refine go_get (y := (⟨"com/example/satisfy/satisfy/reasoner/Trail", "add", "(ILcom/example/satisfy/satisfy/reasoner/Reason;)V"⟩ : MethodName)) P2 (5) 1 c14_60 rfl rfl (t20 hw) ?_
  refine go_aload c14_63 rfl rfl ?_
  refine go_get (y := (⟨"com/example/satisfy/satisfy/reasoner/Trail", "add", "(ILcom/example/satisfy/satisfy/reasoner/Reason;)V"⟩ : MethodName)) P2 (5) 3 c14_64 rfl rfl (t50 hw) ?_
  refine go_aload c14_67 rfl rfl ?_
  refine go_aastoreH P2 3 c14_68 rfl rfl rfl (by decide) (Nat.le_of_ble_eq_true rfl) (P2.stoI (i := 3) rfl (Ins.self (hr.ext P2.1.2))) ?_
  intro h3 P4
  dsimp only [lupd] at P4
  refine go_aload c14_69 rfl rfl ?_
  refine go_get (y := (⟨"com/example/satisfy/satisfy/reasoner/Trail", "add", "(ILcom/example/satisfy/satisfy/reasoner/Reason;)V"⟩ : MethodName)) P4 (5) 2 c14_70 rfl rfl (t43 hw) ?_
  refine go_iload c14_73 rfl ?_
  refine go_aload c14_74 rfl rfl ?_
  refine go_get (y := (⟨"com/example/satisfy/satisfy/reasoner/Trail", "add", "(ILcom/example/satisfy/satisfy/reasoner/Reason;)V"⟩ : MethodName)) P4 (5) 3 c14_75 rfl rfl (t50 hw) ?_
  refine go_callV0 (y := (⟨"com/example/satisfy/satisfy/reasoner/Trail", "add", "(ILcom/example/satisfy/satisfy/reasoner/Reason;)V"⟩ : MethodName)) (W := 0) (argsL := [(.int key), (.int 2)]) (st := []) c14_78 (rm_put l Z a0 hw h3 n0 _ m key 2 hk ka va b n ks vs F Rp P4 (by omega)) (P4.exa (i := 0) rfl) (t90 hw) (t91 hw) (fun _ q => notFace_of_selects (args := #[]) (mvT q (t93 hw))) (t93 hw) (t92 hw) (t24 hw) (t94 hw) (by decide) (lenOf pd4 rfl) rfl rfl (by decide) (by decide) (by decide) (by decide) rfl ?_
  rintro h5 ⟨ka5, va5, b5, n5, ks5, vs5, hle5, Rp5, P5⟩
  refine go_more (k' := 2) (n' := 16) (by decide) (by decide) ?_
  refine go_aload c14_81 rfl rfl ?_
  refine go_dup c14_82 rfl ?_
  refine go_get (y := (⟨"com/example/satisfy/satisfy/reasoner/Trail", "add", "(ILcom/example/satisfy/satisfy/reasoner/Reason;)V"⟩ : MethodName)) P5 (5) 3 c14_83 rfl rfl (t50 hw) ?_
  refine go_push c14_86 ?_
  refine go_iadd c14_87 ?_
  refine go_isI 3 (by decide) ?_
  refine go_put (y := (⟨"com/example/satisfy/satisfy/reasoner/Trail", "add", "(ILcom/example/satisfy/satisfy/reasoner/Reason;)V"⟩ : MethodName)) P5 5 3 .int c14_88 rfl rfl (t50 hw) (Or.inl (t51 hw)) (t7 hw) (by decide) rfl rfl ?_
  intro h6 P7
  dsimp only [lupd] at P7
  exact go_ret rfl c14_91 (by decide) (by decide) ⟨rfl, _, _, _, _, _, _, hle5, Rp5, P7⟩
set_option maxRecDepth 65536 in
set_option maxHeartbeats 4000000 in
theorem rm_add3 (l : Launch) (Z : State) (a0 : Array Value) (hw : ∀ d ∈ tables_1, d.before a0 Z = true) (h0 : Heap) (n0 : Nat) (t m con rea : Addr) (x0 x1 x2 x3 x4 x5 x6 x7 : Int32) (y0 y1 y2 y3 y4 y5 y6 y7 : Value) (ka va : Addr) (b n : Nat) (ks vs : List Int32) (F : Int32 → Int32) (Rp : own_Rep b ks vs n F) (P0 : Hp Z n0 h0 [(m, (.inl ("com/example/satisfy/satisfy/reasoner/IntMap", [(("com/example/satisfy/satisfy/reasoner/IntMap", "bits", "I"), (.int (Int32.ofNat b))), (("com/example/satisfy/satisfy/reasoner/IntMap", "keys", "[I"), (.ref ka)), (("com/example/satisfy/satisfy/reasoner/IntMap", "values", "[I"), (.ref va)), (("com/example/satisfy/satisfy/reasoner/IntMap", "size", "I"), (.int (Int32.ofNat n)))]))), (ka, (own_ia ks)), (va, (own_ia vs)), (rea, (.inr ((.object "com/example/satisfy/satisfy/reasoner/Reason"), "[Lcom/example/satisfy/satisfy/reasoner/Reason;", [y0, y1, y2, y3, y4, y5, y6, y7]))), (con, (.inr (.int, "[I", [(.int x0), (.int x1), (.int x2), (.int x3), (.int x4), (.int x5), (.int x6), (.int x7)]))), (t, (.inl ("com/example/satisfy/satisfy/reasoner/Trail", [(("com/example/satisfy/satisfy/reasoner/Trail", "concepts", "[I"), (.ref con)), (("com/example/satisfy/satisfy/reasoner/Trail", "reasons", "[Lcom/example/satisfy/satisfy/reasoner/Reason;"), (.ref rea)), (("com/example/satisfy/satisfy/reasoner/Trail", "positions", "Lcom/example/satisfy/satisfy/reasoner/IntMap;"), (.ref m)), (("com/example/satisfy/satisfy/reasoner/Trail", "size", "I"), (.int 3))])))]) (r : Addr) (hr : Exa Z Z.heap r "com/example/satisfy/satisfy/reasoner/Reason") (key : Int32) (hk : key ≠ -1) (hn3 : n ≤ 3) :
    Con false l Z (⟨"com/example/satisfy/satisfy/reasoner/Trail", "add", "(ILcom/example/satisfy/satisfy/reasoner/Reason;)V"⟩ : MethodName) prog_91_method_7_code 3 none ({ frames := 4, cells := 2, slots := 16, locals := 59 } : Room) #[(.ref t), (.int key), (.ref r)] h0 n0 (R0 fun h' => ∃ ka' va' b' n' ks' vs', n' ≤ n + 1 ∧ own_Rep b' ks' vs' n' (own_up F key 3) ∧ Hp Z n0 h' [(m, (.inl ("com/example/satisfy/satisfy/reasoner/IntMap", [(("com/example/satisfy/satisfy/reasoner/IntMap", "bits", "I"), (.int (Int32.ofNat b'))), (("com/example/satisfy/satisfy/reasoner/IntMap", "keys", "[I"), (.ref ka')), (("com/example/satisfy/satisfy/reasoner/IntMap", "values", "[I"), (.ref va')), (("com/example/satisfy/satisfy/reasoner/IntMap", "size", "I"), (.int (Int32.ofNat n')))]))), (ka', (own_ia ks')), (va', (own_ia vs')), (rea, (.inr ((.object "com/example/satisfy/satisfy/reasoner/Reason"), "[Lcom/example/satisfy/satisfy/reasoner/Reason;", [y0, y1, y2, (.ref r), y4, y5, y6, y7]))), (con, (.inr (.int, "[I", [(.int x0), (.int x1), (.int x2), (.int key), (.int x4), (.int x5), (.int x6), (.int x7)]))), (t, (.inl ("com/example/satisfy/satisfy/reasoner/Trail", [(("com/example/satisfy/satisfy/reasoner/Trail", "concepts", "[I"), (.ref con)), (("com/example/satisfy/satisfy/reasoner/Trail", "reasons", "[Lcom/example/satisfy/satisfy/reasoner/Reason;"), (.ref rea)), (("com/example/satisfy/satisfy/reasoner/Trail", "positions", "Lcom/example/satisfy/satisfy/reasoner/IntMap;"), (.ref m)), (("com/example/satisfy/satisfy/reasoner/Trail", "size", "I"), (.int 4))])))]) := by
  refine con_of (ls := [.val (.ref t), .val (.int key), .val (.ref r)]) (plainFor_of_name pn2) rfl ?_
  refine go_aload c14_0 rfl rfl ?_
  refine go_get (y := (⟨"com/example/satisfy/satisfy/reasoner/Trail", "add", "(ILcom/example/satisfy/satisfy/reasoner/Reason;)V"⟩ : MethodName)) P0 (5) 3 c14_1 rfl rfl (t50 hw) ?_
  refine go_aload c14_4 rfl rfl ?_
  refine go_get (y := (⟨"com/example/satisfy/satisfy/reasoner/Trail", "add", "(ILcom/example/satisfy/satisfy/reasoner/Reason;)V"⟩ : MethodName)) P0 (5) 0 c14_5 rfl rfl (t16 hw) ?_
  refine go_alen (z := 8) P0 (4) c14_8 rfl rfl ?_
  refine go_icmp_ne c14_9 (fun _ => ?_) (fun q => absurd q (by decide))
  refine go_aload c14_49 rfl rfl ?_
  refine go_get (y := (⟨"com/example/satisfy/satisfy/reasoner/Trail", "add", "(ILcom/example/satisfy/satisfy/reasoner/Reason;)V"⟩ : MethodName)) P0 (5) 0 c14_50 rfl rfl (t16 hw) ?_
  refine go_aload c14_53 rfl rfl ?_
  refine go_get (y := (⟨"com/example/satisfy/satisfy/reasoner/Trail", "add", "(ILcom/example/satisfy/satisfy/reasoner/Reason;)V"⟩ : MethodName)) P0 (5) 3 c14_54 rfl rfl (t50 hw) ?_
  refine go_iload c14_57 rfl ?_
  refine go_iastoreH P0 4 c14_58 rfl (by decide) (Nat.le_of_ble_eq_true rfl) ?_
  intro h1 P2
  dsimp only [lupd] at P2
  refine go_aload c14_59 rfl rfl ?_
  refine go_get (y := (⟨"com/example/satisfy/satisfy/reasoner/Trail", "add", "(ILcom/example/satisfy/satisfy/reasoner/Reason;)V"⟩ : MethodName)) P2 (5) 1 c14_60 rfl rfl (t20 hw) ?_
  refine go_aload c14_63 rfl rfl ?_
  refine go_get (y := (⟨"com/example/satisfy/satisfy/reasoner/Trail", "add", "(ILcom/example/satisfy/satisfy/reasoner/Reason;)V"⟩ : MethodName)) P2 (5) 3 c14_64 rfl rfl (t50 hw) ?_
  refine go_aload c14_67 rfl rfl ?_
  refine go_aastoreH P2 3 c14_68 rfl rfl rfl (by decide) (Nat.le_of_ble_eq_true rfl) (P2.stoI (i := 3) rfl (Ins.self (hr.ext P2.1.2))) ?_
  intro h3 P4
  dsimp only [lupd] at P4
  refine go_aload c14_69 rfl rfl ?_
  refine go_get (y := (⟨"com/example/satisfy/satisfy/reasoner/Trail", "add", "(ILcom/example/satisfy/satisfy/reasoner/Reason;)V"⟩ : MethodName)) P4 (5) 2 c14_70 rfl rfl (t43 hw) ?_
  refine go_iload c14_73 rfl ?_
  refine go_aload c14_74 rfl rfl ?_
  refine go_get (y := (⟨"com/example/satisfy/satisfy/reasoner/Trail", "add", "(ILcom/example/satisfy/satisfy/reasoner/Reason;)V"⟩ : MethodName)) P4 (5) 3 c14_75 rfl rfl (t50 hw) ?_
  refine go_callV0 (y := (⟨"com/example/satisfy/satisfy/reasoner/Trail", "add", "(ILcom/example/satisfy/satisfy/reasoner/Reason;)V"⟩ : MethodName)) (W := 0) (argsL := [(.int key), (.int 3)]) (st := []) c14_78 (rm_put l Z a0 hw h3 n0 _ m key 3 hk ka va b n ks vs F Rp P4 (by omega)) (P4.exa (i := 0) rfl) (t90 hw) (t91 hw) (fun _ q => notFace_of_selects (args := #[]) (mvT q (t93 hw))) (t93 hw) (t92 hw) (t24 hw) (t94 hw) (by decide) (lenOf pd4 rfl) rfl rfl (by decide) (by decide) (by decide) (by decide) rfl ?_
  rintro h5 ⟨ka5, va5, b5, n5, ks5, vs5, hle5, Rp5, P5⟩
  refine go_more (k' := 2) (n' := 16) (by decide) (by decide) ?_
  refine go_aload c14_81 rfl rfl ?_
  refine go_dup c14_82 rfl ?_
  refine go_get (y := (⟨"com/example/satisfy/satisfy/reasoner/Trail", "add", "(ILcom/example/satisfy/satisfy/reasoner/Reason;)V"⟩ : MethodName)) P5 (5) 3 c14_83 rfl rfl (t50 hw) ?_
  refine go_push c14_86 ?_
  refine go_iadd c14_87 ?_
  refine go_isI 4 (by decide) ?_
  refine go_put (y := (⟨"com/example/satisfy/satisfy/reasoner/Trail", "add", "(ILcom/example/satisfy/satisfy/reasoner/Reason;)V"⟩ : MethodName)) P5 5 3 .int c14_88 rfl rfl (t50 hw) (Or.inl (t51 hw)) (t7 hw) (by decide) rfl rfl ?_
  intro h6 P7
  dsimp only [lupd] at P7
  exact go_ret rfl c14_91 (by decide) (by decide) ⟨rfl, _, _, _, _, _, _, hle5, Rp5, P7⟩
set_option maxRecDepth 65536 in
set_option maxHeartbeats 4000000 in
theorem rm_tr0_0 (l : Launch) (Z : State) (a0 : Array Value) (hw : ∀ d ∈ tables_1, d.before a0 Z = true) (h0 : Heap) (n0 : Nat) (t m con rea : Addr) (x0 x1 x2 x3 x4 x5 x6 x7 : Int32) (y0 y1 y2 y3 y4 y5 y6 y7 : Value) (ka va : Addr) (b n : Nat) (ks vs : List Int32) (F : Int32 → Int32) (Rp : own_Rep b ks vs n F) (P0 : Hp Z n0 h0 [(m, (.inl ("com/example/satisfy/satisfy/reasoner/IntMap", [(("com/example/satisfy/satisfy/reasoner/IntMap", "bits", "I"), (.int (Int32.ofNat b))), (("com/example/satisfy/satisfy/reasoner/IntMap", "keys", "[I"), (.ref ka)), (("com/example/satisfy/satisfy/reasoner/IntMap", "values", "[I"), (.ref va)), (("com/example/satisfy/satisfy/reasoner/IntMap", "size", "I"), (.int (Int32.ofNat n)))]))), (ka, (own_ia ks)), (va, (own_ia vs)), (rea, (.inr ((.object "com/example/satisfy/satisfy/reasoner/Reason"), "[Lcom/example/satisfy/satisfy/reasoner/Reason;", [y0, y1, y2, y3, y4, y5, y6, y7]))), (con, (.inr (.int, "[I", [(.int x0), (.int x1), (.int x2), (.int x3), (.int x4), (.int x5), (.int x6), (.int x7)]))), (t, (.inl ("com/example/satisfy/satisfy/reasoner/Trail", [(("com/example/satisfy/satisfy/reasoner/Trail", "concepts", "[I"), (.ref con)), (("com/example/satisfy/satisfy/reasoner/Trail", "reasons", "[Lcom/example/satisfy/satisfy/reasoner/Reason;"), (.ref rea)), (("com/example/satisfy/satisfy/reasoner/Trail", "positions", "Lcom/example/satisfy/satisfy/reasoner/IntMap;"), (.ref m)), (("com/example/satisfy/satisfy/reasoner/Trail", "size", "I"), (.int 0))])))]) (p : Int32) (hp : ¬ p < 0) :
    Con false l Z (⟨"com/example/satisfy/satisfy/reasoner/Trail", "truncate", "(I)V"⟩ : MethodName) prog_91_method_8_code 2 none ({ frames := 3, cells := 0, slots := 0, locals := 45 } : Room) #[(.ref t), (.int p)] h0 n0 (R0 fun h' => ∃ n' ks' vs', n' ≤ n ∧ own_Rep b ks' vs' n' F ∧ Hp Z n0 h' [(m, (.inl ("com/example/satisfy/satisfy/reasoner/IntMap", [(("com/example/satisfy/satisfy/reasoner/IntMap", "bits", "I"), (.int (Int32.ofNat b))), (("com/example/satisfy/satisfy/reasoner/IntMap", "keys", "[I"), (.ref ka)), (("com/example/satisfy/satisfy/reasoner/IntMap", "values", "[I"), (.ref va)), (("com/example/satisfy/satisfy/reasoner/IntMap", "size", "I"), (.int (Int32.ofNat n')))]))), (ka, (own_ia ks')), (va, (own_ia vs')), (rea, (.inr ((.object "com/example/satisfy/satisfy/reasoner/Reason"), "[Lcom/example/satisfy/satisfy/reasoner/Reason;", [y0, y1, y2, y3, y4, y5, y6, y7]))), (con, (.inr (.int, "[I", [(.int x0), (.int x1), (.int x2), (.int x3), (.int x4), (.int x5), (.int x6), (.int x7)]))), (t, (.inl ("com/example/satisfy/satisfy/reasoner/Trail", [(("com/example/satisfy/satisfy/reasoner/Trail", "concepts", "[I"), (.ref con)), (("com/example/satisfy/satisfy/reasoner/Trail", "reasons", "[Lcom/example/satisfy/satisfy/reasoner/Reason;"), (.ref rea)), (("com/example/satisfy/satisfy/reasoner/Trail", "positions", "Lcom/example/satisfy/satisfy/reasoner/IntMap;"), (.ref m)), (("com/example/satisfy/satisfy/reasoner/Trail", "size", "I"), (.int 0))])))]) := by
  refine con_of (ls := [.val (.ref t), .val (.int p)]) (plainFor_of_name pn2) rfl ?_
  refine go_aload c6_0 rfl rfl ?_
  refine go_get (y := (⟨"com/example/satisfy/satisfy/reasoner/Trail", "truncate", "(I)V"⟩ : MethodName)) P0 (5) 3 c6_1 rfl rfl (t50 hw) ?_
  refine go_iload c6_4 rfl ?_
  refine go_icmp_le c6_5 (fun b5 => ?_) (fun b5 => ?_)
  · exact go_ret rfl c6_47 (by decide) (by decide) ⟨rfl, _, _, _, by omega, Rp, P0⟩
  · exact absurd b5 hp
set_option maxRecDepth 65536 in
set_option maxHeartbeats 4000000 in
theorem rm_tr1_0 (l : Launch) (Z : State) (a0 : Array Value) (hw : ∀ d ∈ tables_1, d.before a0 Z = true) (h0 : Heap) (n0 : Nat) (t m con rea : Addr) (x0 x1 x2 x3 x4 x5 x6 x7 : Int32) (y0 y1 y2 y3 y4 y5 y6 y7 : Value) (ka va : Addr) (b n : Nat) (ks vs : List Int32) (F : Int32 → Int32) (Rp : own_Rep b ks vs n F) (P0 : Hp Z n0 h0 [(m, (.inl ("com/example/satisfy/satisfy/reasoner/IntMap", [(("com/example/satisfy/satisfy/reasoner/IntMap", "bits", "I"), (.int (Int32.ofNat b))), (("com/example/satisfy/satisfy/reasoner/IntMap", "keys", "[I"), (.ref ka)), (("com/example/satisfy/satisfy/reasoner/IntMap", "values", "[I"), (.ref va)), (("com/example/satisfy/satisfy/reasoner/IntMap", "size", "I"), (.int (Int32.ofNat n)))]))), (ka, (own_ia ks)), (va, (own_ia vs)), (rea, (.inr ((.object "com/example/satisfy/satisfy/reasoner/Reason"), "[Lcom/example/satisfy/satisfy/reasoner/Reason;", [y0, y1, y2, y3, y4, y5, y6, y7]))), (con, (.inr (.int, "[I", [(.int x0), (.int x1), (.int x2), (.int x3), (.int x4), (.int x5), (.int x6), (.int x7)]))), (t, (.inl ("com/example/satisfy/satisfy/reasoner/Trail", [(("com/example/satisfy/satisfy/reasoner/Trail", "concepts", "[I"), (.ref con)), (("com/example/satisfy/satisfy/reasoner/Trail", "reasons", "[Lcom/example/satisfy/satisfy/reasoner/Reason;"), (.ref rea)), (("com/example/satisfy/satisfy/reasoner/Trail", "positions", "Lcom/example/satisfy/satisfy/reasoner/IntMap;"), (.ref m)), (("com/example/satisfy/satisfy/reasoner/Trail", "size", "I"), (.int 1))])))]) (hk_x0 : x0 ≠ -1) :
    Con false l Z (⟨"com/example/satisfy/satisfy/reasoner/Trail", "truncate", "(I)V"⟩ : MethodName) prog_91_method_8_code 2 none ({ frames := 3, cells := 0, slots := 0, locals := 45 } : Room) #[(.ref t), (.int 0)] h0 n0 (R0 fun h' => ∃ n' ks' vs', n' ≤ n ∧ own_Rep b ks' vs' n' (own_up F x0 (-1)) ∧ Hp Z n0 h' [(m, (.inl ("com/example/satisfy/satisfy/reasoner/IntMap", [(("com/example/satisfy/satisfy/reasoner/IntMap", "bits", "I"), (.int (Int32.ofNat b))), (("com/example/satisfy/satisfy/reasoner/IntMap", "keys", "[I"), (.ref ka)), (("com/example/satisfy/satisfy/reasoner/IntMap", "values", "[I"), (.ref va)), (("com/example/satisfy/satisfy/reasoner/IntMap", "size", "I"), (.int (Int32.ofNat n')))]))), (ka, (own_ia ks')), (va, (own_ia vs')), (rea, (.inr ((.object "com/example/satisfy/satisfy/reasoner/Reason"), "[Lcom/example/satisfy/satisfy/reasoner/Reason;", [.null, y1, y2, y3, y4, y5, y6, y7]))), (con, (.inr (.int, "[I", [(.int x0), (.int x1), (.int x2), (.int x3), (.int x4), (.int x5), (.int x6), (.int x7)]))), (t, (.inl ("com/example/satisfy/satisfy/reasoner/Trail", [(("com/example/satisfy/satisfy/reasoner/Trail", "concepts", "[I"), (.ref con)), (("com/example/satisfy/satisfy/reasoner/Trail", "reasons", "[Lcom/example/satisfy/satisfy/reasoner/Reason;"), (.ref rea)), (("com/example/satisfy/satisfy/reasoner/Trail", "positions", "Lcom/example/satisfy/satisfy/reasoner/IntMap;"), (.ref m)), (("com/example/satisfy/satisfy/reasoner/Trail", "size", "I"), (.int 0))])))]) := by
  refine con_of (ls := [.val (.ref t), .val (.int 0)]) (plainFor_of_name pn2) rfl ?_
  refine go_aload c6_0 rfl rfl ?_
  refine go_get (y := (⟨"com/example/satisfy/satisfy/reasoner/Trail", "truncate", "(I)V"⟩ : MethodName)) P0 (5) 3 c6_1 rfl rfl (t50 hw) ?_
  refine go_iload c6_4 rfl ?_
  refine go_icmp_le c6_5 (fun q => absurd q (by decide)) (fun _ => ?_)
  refine go_aload c6_8 rfl rfl ?_
  refine go_dup c6_9 rfl ?_
  refine go_get (y := (⟨"com/example/satisfy/satisfy/reasoner/Trail", "truncate", "(I)V"⟩ : MethodName)) P0 (5) 3 c6_10 rfl rfl (t50 hw) ?_
  refine go_push c6_13 ?_
  refine go_isub c6_14 ?_
  refine go_isI 0 (by decide) ?_
  refine go_put (y := (⟨"com/example/satisfy/satisfy/reasoner/Trail", "truncate", "(I)V"⟩ : MethodName)) P0 5 3 .int c6_15 rfl rfl (t50 hw) (Or.inl (t51 hw)) (t7 hw) (by decide) rfl rfl ?_
  intro h1 P2
  dsimp only [lupd] at P2
  refine go_aload c6_18 rfl rfl ?_
  refine go_get (y := (⟨"com/example/satisfy/satisfy/reasoner/Trail", "truncate", "(I)V"⟩ : MethodName)) P2 (5) 2 c6_19 rfl rfl (t43 hw) ?_
  refine go_aload c6_22 rfl rfl ?_
  refine go_get (y := (⟨"com/example/satisfy/satisfy/reasoner/Trail", "truncate", "(I)V"⟩ : MethodName)) P2 (5) 0 c6_23 rfl rfl (t16 hw) ?_
  refine go_aload c6_26 rfl rfl ?_
  refine go_get (y := (⟨"com/example/satisfy/satisfy/reasoner/Trail", "truncate", "(I)V"⟩ : MethodName)) P2 (5) 3 c6_27 rfl rfl (t50 hw) ?_
  refine go_ialoadH P2 (4) c6_30 rfl (by decide) rfl ?_
  refine go_callV0 (y := (⟨"com/example/satisfy/satisfy/reasoner/Trail", "truncate", "(I)V"⟩ : MethodName)) (W := 0) (argsL := [(.int x0)]) (st := []) c6_31 (rm_remove l Z a0 hw h1 n0 _ m x0 hk_x0 ka va b n ks vs F Rp P2) (P2.exa (i := 0) rfl) (t111 hw) (t112 hw) (fun _ q => notFace_of_selects (args := #[]) (mvT q (t114 hw))) (t114 hw) (t113 hw) (t24 hw) (t115 hw) (by decide) (lenOf pd2 rfl) rfl rfl (by decide) (by decide) (by decide) (by decide) rfl ?_
  rintro h3 ⟨n3, ks3, vs3, hle3, Rp3, P3⟩
  refine go_more (k' := 0) (n' := 0) (by decide) (by decide) ?_
  refine go_aload c6_34 rfl rfl ?_
  refine go_get (y := (⟨"com/example/satisfy/satisfy/reasoner/Trail", "truncate", "(I)V"⟩ : MethodName)) P3 (5) 1 c6_35 rfl rfl (t20 hw) ?_
  refine go_aload c6_38 rfl rfl ?_
  refine go_get (y := (⟨"com/example/satisfy/satisfy/reasoner/Trail", "truncate", "(I)V"⟩ : MethodName)) P3 (5) 3 c6_39 rfl rfl (t50 hw) ?_
  refine go_null c6_42 ?_
  refine go_aastoreH P3 3 c6_43 rfl rfl rfl (by decide) (Nat.le_of_ble_eq_true rfl) (Or.inl rfl) ?_
  intro h4 P5
  dsimp only [lupd] at P5
  refine go_goto c6_44 ?_
  refine go_aload c6_0 rfl rfl ?_
  refine go_get (y := (⟨"com/example/satisfy/satisfy/reasoner/Trail", "truncate", "(I)V"⟩ : MethodName)) P5 (5) 3 c6_1 rfl rfl (t50 hw) ?_
  refine go_iload c6_4 rfl ?_
  refine go_icmp_le c6_5 (fun _ => ?_) (fun q => absurd q (by decide))
  exact go_ret rfl c6_47 (by decide) (by decide) ⟨rfl, _, _, _, by omega, Rp3, P5⟩
set_option maxRecDepth 65536 in
set_option maxHeartbeats 4000000 in
theorem rm_tr1_1 (l : Launch) (Z : State) (a0 : Array Value) (hw : ∀ d ∈ tables_1, d.before a0 Z = true) (h0 : Heap) (n0 : Nat) (t m con rea : Addr) (x0 x1 x2 x3 x4 x5 x6 x7 : Int32) (y0 y1 y2 y3 y4 y5 y6 y7 : Value) (ka va : Addr) (b n : Nat) (ks vs : List Int32) (F : Int32 → Int32) (Rp : own_Rep b ks vs n F) (P0 : Hp Z n0 h0 [(m, (.inl ("com/example/satisfy/satisfy/reasoner/IntMap", [(("com/example/satisfy/satisfy/reasoner/IntMap", "bits", "I"), (.int (Int32.ofNat b))), (("com/example/satisfy/satisfy/reasoner/IntMap", "keys", "[I"), (.ref ka)), (("com/example/satisfy/satisfy/reasoner/IntMap", "values", "[I"), (.ref va)), (("com/example/satisfy/satisfy/reasoner/IntMap", "size", "I"), (.int (Int32.ofNat n)))]))), (ka, (own_ia ks)), (va, (own_ia vs)), (rea, (.inr ((.object "com/example/satisfy/satisfy/reasoner/Reason"), "[Lcom/example/satisfy/satisfy/reasoner/Reason;", [y0, y1, y2, y3, y4, y5, y6, y7]))), (con, (.inr (.int, "[I", [(.int x0), (.int x1), (.int x2), (.int x3), (.int x4), (.int x5), (.int x6), (.int x7)]))), (t, (.inl ("com/example/satisfy/satisfy/reasoner/Trail", [(("com/example/satisfy/satisfy/reasoner/Trail", "concepts", "[I"), (.ref con)), (("com/example/satisfy/satisfy/reasoner/Trail", "reasons", "[Lcom/example/satisfy/satisfy/reasoner/Reason;"), (.ref rea)), (("com/example/satisfy/satisfy/reasoner/Trail", "positions", "Lcom/example/satisfy/satisfy/reasoner/IntMap;"), (.ref m)), (("com/example/satisfy/satisfy/reasoner/Trail", "size", "I"), (.int 1))])))]) (p : Int32) (hp : ¬ p < 1) :
    Con false l Z (⟨"com/example/satisfy/satisfy/reasoner/Trail", "truncate", "(I)V"⟩ : MethodName) prog_91_method_8_code 2 none ({ frames := 3, cells := 0, slots := 0, locals := 45 } : Room) #[(.ref t), (.int p)] h0 n0 (R0 fun h' => ∃ n' ks' vs', n' ≤ n ∧ own_Rep b ks' vs' n' F ∧ Hp Z n0 h' [(m, (.inl ("com/example/satisfy/satisfy/reasoner/IntMap", [(("com/example/satisfy/satisfy/reasoner/IntMap", "bits", "I"), (.int (Int32.ofNat b))), (("com/example/satisfy/satisfy/reasoner/IntMap", "keys", "[I"), (.ref ka)), (("com/example/satisfy/satisfy/reasoner/IntMap", "values", "[I"), (.ref va)), (("com/example/satisfy/satisfy/reasoner/IntMap", "size", "I"), (.int (Int32.ofNat n')))]))), (ka, (own_ia ks')), (va, (own_ia vs')), (rea, (.inr ((.object "com/example/satisfy/satisfy/reasoner/Reason"), "[Lcom/example/satisfy/satisfy/reasoner/Reason;", [y0, y1, y2, y3, y4, y5, y6, y7]))), (con, (.inr (.int, "[I", [(.int x0), (.int x1), (.int x2), (.int x3), (.int x4), (.int x5), (.int x6), (.int x7)]))), (t, (.inl ("com/example/satisfy/satisfy/reasoner/Trail", [(("com/example/satisfy/satisfy/reasoner/Trail", "concepts", "[I"), (.ref con)), (("com/example/satisfy/satisfy/reasoner/Trail", "reasons", "[Lcom/example/satisfy/satisfy/reasoner/Reason;"), (.ref rea)), (("com/example/satisfy/satisfy/reasoner/Trail", "positions", "Lcom/example/satisfy/satisfy/reasoner/IntMap;"), (.ref m)), (("com/example/satisfy/satisfy/reasoner/Trail", "size", "I"), (.int 1))])))]) := by
  refine con_of (ls := [.val (.ref t), .val (.int p)]) (plainFor_of_name pn2) rfl ?_
  refine go_aload c6_0 rfl rfl ?_
  refine go_get (y := (⟨"com/example/satisfy/satisfy/reasoner/Trail", "truncate", "(I)V"⟩ : MethodName)) P0 (5) 3 c6_1 rfl rfl (t50 hw) ?_
  refine go_iload c6_4 rfl ?_
  refine go_icmp_le c6_5 (fun b5 => ?_) (fun b5 => ?_)
  · exact go_ret rfl c6_47 (by decide) (by decide) ⟨rfl, _, _, _, by omega, Rp, P0⟩
  · exact absurd b5 hp
set_option maxRecDepth 65536 in
set_option maxHeartbeats 4000000 in
theorem rm_tr2_0 (l : Launch) (Z : State) (a0 : Array Value) (hw : ∀ d ∈ tables_1, d.before a0 Z = true) (h0 : Heap) (n0 : Nat) (t m con rea : Addr) (x0 x1 x2 x3 x4 x5 x6 x7 : Int32) (y0 y1 y2 y3 y4 y5 y6 y7 : Value) (ka va : Addr) (b n : Nat) (ks vs : List Int32) (F : Int32 → Int32) (Rp : own_Rep b ks vs n F) (P0 : Hp Z n0 h0 [(m, (.inl ("com/example/satisfy/satisfy/reasoner/IntMap", [(("com/example/satisfy/satisfy/reasoner/IntMap", "bits", "I"), (.int (Int32.ofNat b))), (("com/example/satisfy/satisfy/reasoner/IntMap", "keys", "[I"), (.ref ka)), (("com/example/satisfy/satisfy/reasoner/IntMap", "values", "[I"), (.ref va)), (("com/example/satisfy/satisfy/reasoner/IntMap", "size", "I"), (.int (Int32.ofNat n)))]))), (ka, (own_ia ks)), (va, (own_ia vs)), (rea, (.inr ((.object "com/example/satisfy/satisfy/reasoner/Reason"), "[Lcom/example/satisfy/satisfy/reasoner/Reason;", [y0, y1, y2, y3, y4, y5, y6, y7]))), (con, (.inr (.int, "[I", [(.int x0), (.int x1), (.int x2), (.int x3), (.int x4), (.int x5), (.int x6), (.int x7)]))), (t, (.inl ("com/example/satisfy/satisfy/reasoner/Trail", [(("com/example/satisfy/satisfy/reasoner/Trail", "concepts", "[I"), (.ref con)), (("com/example/satisfy/satisfy/reasoner/Trail", "reasons", "[Lcom/example/satisfy/satisfy/reasoner/Reason;"), (.ref rea)), (("com/example/satisfy/satisfy/reasoner/Trail", "positions", "Lcom/example/satisfy/satisfy/reasoner/IntMap;"), (.ref m)), (("com/example/satisfy/satisfy/reasoner/Trail", "size", "I"), (.int 2))])))]) (hk_x0 : x0 ≠ -1) (hk_x1 : x1 ≠ -1) :
    Con false l Z (⟨"com/example/satisfy/satisfy/reasoner/Trail", "truncate", "(I)V"⟩ : MethodName) prog_91_method_8_code 2 none ({ frames := 3, cells := 0, slots := 0, locals := 45 } : Room) #[(.ref t), (.int 0)] h0 n0 (R0 fun h' => ∃ n' ks' vs', n' ≤ n ∧ own_Rep b ks' vs' n' (own_up (own_up F x1 (-1)) x0 (-1)) ∧ Hp Z n0 h' [(m, (.inl ("com/example/satisfy/satisfy/reasoner/IntMap", [(("com/example/satisfy/satisfy/reasoner/IntMap", "bits", "I"), (.int (Int32.ofNat b))), (("com/example/satisfy/satisfy/reasoner/IntMap", "keys", "[I"), (.ref ka)), (("com/example/satisfy/satisfy/reasoner/IntMap", "values", "[I"), (.ref va)), (("com/example/satisfy/satisfy/reasoner/IntMap", "size", "I"), (.int (Int32.ofNat n')))]))), (ka, (own_ia ks')), (va, (own_ia vs')), (rea, (.inr ((.object "com/example/satisfy/satisfy/reasoner/Reason"), "[Lcom/example/satisfy/satisfy/reasoner/Reason;", [.null, .null, y2, y3, y4, y5, y6, y7]))), (con, (.inr (.int, "[I", [(.int x0), (.int x1), (.int x2), (.int x3), (.int x4), (.int x5), (.int x6), (.int x7)]))), (t, (.inl ("com/example/satisfy/satisfy/reasoner/Trail", [(("com/example/satisfy/satisfy/reasoner/Trail", "concepts", "[I"), (.ref con)), (("com/example/satisfy/satisfy/reasoner/Trail", "reasons", "[Lcom/example/satisfy/satisfy/reasoner/Reason;"), (.ref rea)), (("com/example/satisfy/satisfy/reasoner/Trail", "positions", "Lcom/example/satisfy/satisfy/reasoner/IntMap;"), (.ref m)), (("com/example/satisfy/satisfy/reasoner/Trail", "size", "I"), (.int 0))])))]) := by
  refine con_of (ls := [.val (.ref t), .val (.int 0)]) (plainFor_of_name pn2) rfl ?_
  refine go_aload c6_0 rfl rfl ?_
  refine go_get (y := (⟨"com/example/satisfy/satisfy/reasoner/Trail", "truncate", "(I)V"⟩ : MethodName)) P0 (5) 3 c6_1 rfl rfl (t50 hw) ?_
  refine go_iload c6_4 rfl ?_
  refine go_icmp_le c6_5 (fun q => absurd q (by decide)) (fun _ => ?_)
  refine go_aload c6_8 rfl rfl ?_
  refine go_dup c6_9 rfl ?_
  refine go_get (y := (⟨"com/example/satisfy/satisfy/reasoner/Trail", "truncate", "(I)V"⟩ : MethodName)) P0 (5) 3 c6_10 rfl rfl (t50 hw) ?_
  refine go_push c6_13 ?_
  refine go_isub c6_14 ?_
  refine go_isI 1 (by decide) ?_
  refine go_put (y := (⟨"com/example/satisfy/satisfy/reasoner/Trail", "truncate", "(I)V"⟩ : MethodName)) P0 5 3 .int c6_15 rfl rfl (t50 hw) (Or.inl (t51 hw)) (t7 hw) (by decide) rfl rfl ?_
  intro h1 P2
  dsimp only [lupd] at P2
  refine go_aload c6_18 rfl rfl ?_
  refine go_get (y := (⟨"com/example/satisfy/satisfy/reasoner/Trail", "truncate", "(I)V"⟩ : MethodName)) P2 (5) 2 c6_19 rfl rfl (t43 hw) ?_
  refine go_aload c6_22 rfl rfl ?_
  refine go_get (y := (⟨"com/example/satisfy/satisfy/reasoner/Trail", "truncate", "(I)V"⟩ : MethodName)) P2 (5) 0 c6_23 rfl rfl (t16 hw) ?_
  refine go_aload c6_26 rfl rfl ?_
  refine go_get (y := (⟨"com/example/satisfy/satisfy/reasoner/Trail", "truncate", "(I)V"⟩ : MethodName)) P2 (5) 3 c6_27 rfl rfl (t50 hw) ?_
  refine go_ialoadH P2 (4) c6_30 rfl (by decide) rfl ?_
  refine go_callV0 (y := (⟨"com/example/satisfy/satisfy/reasoner/Trail", "truncate", "(I)V"⟩ : MethodName)) (W := 0) (argsL := [(.int x1)]) (st := []) c6_31 (rm_remove l Z a0 hw h1 n0 _ m x1 hk_x1 ka va b n ks vs F Rp P2) (P2.exa (i := 0) rfl) (t111 hw) (t112 hw) (fun _ q => notFace_of_selects (args := #[]) (mvT q (t114 hw))) (t114 hw) (t113 hw) (t24 hw) (t115 hw) (by decide) (lenOf pd2 rfl) rfl rfl (by decide) (by decide) (by decide) (by decide) rfl ?_
  rintro h3 ⟨n3, ks3, vs3, hle3, Rp3, P3⟩
  refine go_more (k' := 0) (n' := 0) (by decide) (by decide) ?_
  refine go_aload c6_34 rfl rfl ?_
  refine go_get (y := (⟨"com/example/satisfy/satisfy/reasoner/Trail", "truncate", "(I)V"⟩ : MethodName)) P3 (5) 1 c6_35 rfl rfl (t20 hw) ?_
  refine go_aload c6_38 rfl rfl ?_
  refine go_get (y := (⟨"com/example/satisfy/satisfy/reasoner/Trail", "truncate", "(I)V"⟩ : MethodName)) P3 (5) 3 c6_39 rfl rfl (t50 hw) ?_
  refine go_null c6_42 ?_
  refine go_aastoreH P3 3 c6_43 rfl rfl rfl (by decide) (Nat.le_of_ble_eq_true rfl) (Or.inl rfl) ?_
  intro h4 P5
  dsimp only [lupd] at P5
  refine go_goto c6_44 ?_
  refine go_aload c6_0 rfl rfl ?_
  refine go_get (y := (⟨"com/example/satisfy/satisfy/reasoner/Trail", "truncate", "(I)V"⟩ : MethodName)) P5 (5) 3 c6_1 rfl rfl (t50 hw) ?_
  refine go_iload c6_4 rfl ?_
  refine go_icmp_le c6_5 (fun q => absurd q (by decide)) (fun _ => ?_)
  refine go_aload c6_8 rfl rfl ?_
  refine go_dup c6_9 rfl ?_
  refine go_get (y := (⟨"com/example/satisfy/satisfy/reasoner/Trail", "truncate", "(I)V"⟩ : MethodName)) P5 (5) 3 c6_10 rfl rfl (t50 hw) ?_
  refine go_push c6_13 ?_
  refine go_isub c6_14 ?_
  refine go_isI 0 (by decide) ?_
  refine go_put (y := (⟨"com/example/satisfy/satisfy/reasoner/Trail", "truncate", "(I)V"⟩ : MethodName)) P5 5 3 .int c6_15 rfl rfl (t50 hw) (Or.inl (t51 hw)) (t7 hw) (by decide) rfl rfl ?_
  intro h6 P7
  dsimp only [lupd] at P7
  refine go_aload c6_18 rfl rfl ?_
  refine go_get (y := (⟨"com/example/satisfy/satisfy/reasoner/Trail", "truncate", "(I)V"⟩ : MethodName)) P7 (5) 2 c6_19 rfl rfl (t43 hw) ?_
  refine go_aload c6_22 rfl rfl ?_
  refine go_get (y := (⟨"com/example/satisfy/satisfy/reasoner/Trail", "truncate", "(I)V"⟩ : MethodName)) P7 (5) 0 c6_23 rfl rfl (t16 hw) ?_
  refine go_aload c6_26 rfl rfl ?_
  refine go_get (y := (⟨"com/example/satisfy/satisfy/reasoner/Trail", "truncate", "(I)V"⟩ : MethodName)) P7 (5) 3 c6_27 rfl rfl (t50 hw) ?_
  refine go_ialoadH P7 (4) c6_30 rfl (by decide) rfl ?_
  refine go_callV0 (y := (⟨"com/example/satisfy/satisfy/reasoner/Trail", "truncate", "(I)V"⟩ : MethodName)) (W := 0) (argsL := [(.int x0)]) (st := []) c6_31 (rm_remove l Z a0 hw h6 n0 _ m x0 hk_x0 ka va b n3 ks3 vs3 (own_up F x1 (-1)) Rp3 P7) (P7.exa (i := 0) rfl) (t111 hw) (t112 hw) (fun _ q => notFace_of_selects (args := #[]) (mvT q (t114 hw))) (t114 hw) (t113 hw) (t24 hw) (t115 hw) (by decide) (lenOf pd2 rfl) rfl rfl (by decide) (by decide) (by decide) (by decide) rfl ?_
  rintro h8 ⟨n8, ks8, vs8, hle8, Rp8, P8⟩
  refine go_more (k' := 0) (n' := 0) (by decide) (by decide) ?_
  refine go_aload c6_34 rfl rfl ?_
  refine go_get (y := (⟨"com/example/satisfy/satisfy/reasoner/Trail", "truncate", "(I)V"⟩ : MethodName)) P8 (5) 1 c6_35 rfl rfl (t20 hw) ?_
  refine go_aload c6_38 rfl rfl ?_
  refine go_get (y := (⟨"com/example/satisfy/satisfy/reasoner/Trail", "truncate", "(I)V"⟩ : MethodName)) P8 (5) 3 c6_39 rfl rfl (t50 hw) ?_
  refine go_null c6_42 ?_
  refine go_aastoreH P8 3 c6_43 rfl rfl rfl (by decide) (Nat.le_of_ble_eq_true rfl) (Or.inl rfl) ?_
  intro h9 P10
  dsimp only [lupd] at P10
  refine go_goto c6_44 ?_
  refine go_aload c6_0 rfl rfl ?_
  refine go_get (y := (⟨"com/example/satisfy/satisfy/reasoner/Trail", "truncate", "(I)V"⟩ : MethodName)) P10 (5) 3 c6_1 rfl rfl (t50 hw) ?_
  refine go_iload c6_4 rfl ?_
  refine go_icmp_le c6_5 (fun _ => ?_) (fun q => absurd q (by decide))
  exact go_ret rfl c6_47 (by decide) (by decide) ⟨rfl, _, _, _, by omega, Rp8, P10⟩
set_option maxRecDepth 65536 in
set_option maxHeartbeats 4000000 in
theorem rm_tr2_1 (l : Launch) (Z : State) (a0 : Array Value) (hw : ∀ d ∈ tables_1, d.before a0 Z = true) (h0 : Heap) (n0 : Nat) (t m con rea : Addr) (x0 x1 x2 x3 x4 x5 x6 x7 : Int32) (y0 y1 y2 y3 y4 y5 y6 y7 : Value) (ka va : Addr) (b n : Nat) (ks vs : List Int32) (F : Int32 → Int32) (Rp : own_Rep b ks vs n F) (P0 : Hp Z n0 h0 [(m, (.inl ("com/example/satisfy/satisfy/reasoner/IntMap", [(("com/example/satisfy/satisfy/reasoner/IntMap", "bits", "I"), (.int (Int32.ofNat b))), (("com/example/satisfy/satisfy/reasoner/IntMap", "keys", "[I"), (.ref ka)), (("com/example/satisfy/satisfy/reasoner/IntMap", "values", "[I"), (.ref va)), (("com/example/satisfy/satisfy/reasoner/IntMap", "size", "I"), (.int (Int32.ofNat n)))]))), (ka, (own_ia ks)), (va, (own_ia vs)), (rea, (.inr ((.object "com/example/satisfy/satisfy/reasoner/Reason"), "[Lcom/example/satisfy/satisfy/reasoner/Reason;", [y0, y1, y2, y3, y4, y5, y6, y7]))), (con, (.inr (.int, "[I", [(.int x0), (.int x1), (.int x2), (.int x3), (.int x4), (.int x5), (.int x6), (.int x7)]))), (t, (.inl ("com/example/satisfy/satisfy/reasoner/Trail", [(("com/example/satisfy/satisfy/reasoner/Trail", "concepts", "[I"), (.ref con)), (("com/example/satisfy/satisfy/reasoner/Trail", "reasons", "[Lcom/example/satisfy/satisfy/reasoner/Reason;"), (.ref rea)), (("com/example/satisfy/satisfy/reasoner/Trail", "positions", "Lcom/example/satisfy/satisfy/reasoner/IntMap;"), (.ref m)), (("com/example/satisfy/satisfy/reasoner/Trail", "size", "I"), (.int 2))])))]) (hk_x1 : x1 ≠ -1) :
    Con false l Z (⟨"com/example/satisfy/satisfy/reasoner/Trail", "truncate", "(I)V"⟩ : MethodName) prog_91_method_8_code 2 none ({ frames := 3, cells := 0, slots := 0, locals := 45 } : Room) #[(.ref t), (.int 1)] h0 n0 (R0 fun h' => ∃ n' ks' vs', n' ≤ n ∧ own_Rep b ks' vs' n' (own_up F x1 (-1)) ∧ Hp Z n0 h' [(m, (.inl ("com/example/satisfy/satisfy/reasoner/IntMap", [(("com/example/satisfy/satisfy/reasoner/IntMap", "bits", "I"), (.int (Int32.ofNat b))), (("com/example/satisfy/satisfy/reasoner/IntMap", "keys", "[I"), (.ref ka)), (("com/example/satisfy/satisfy/reasoner/IntMap", "values", "[I"), (.ref va)), (("com/example/satisfy/satisfy/reasoner/IntMap", "size", "I"), (.int (Int32.ofNat n')))]))), (ka, (own_ia ks')), (va, (own_ia vs')), (rea, (.inr ((.object "com/example/satisfy/satisfy/reasoner/Reason"), "[Lcom/example/satisfy/satisfy/reasoner/Reason;", [y0, .null, y2, y3, y4, y5, y6, y7]))), (con, (.inr (.int, "[I", [(.int x0), (.int x1), (.int x2), (.int x3), (.int x4), (.int x5), (.int x6), (.int x7)]))), (t, (.inl ("com/example/satisfy/satisfy/reasoner/Trail", [(("com/example/satisfy/satisfy/reasoner/Trail", "concepts", "[I"), (.ref con)), (("com/example/satisfy/satisfy/reasoner/Trail", "reasons", "[Lcom/example/satisfy/satisfy/reasoner/Reason;"), (.ref rea)), (("com/example/satisfy/satisfy/reasoner/Trail", "positions", "Lcom/example/satisfy/satisfy/reasoner/IntMap;"), (.ref m)), (("com/example/satisfy/satisfy/reasoner/Trail", "size", "I"), (.int 1))])))]) := by
  refine con_of (ls := [.val (.ref t), .val (.int 1)]) (plainFor_of_name pn2) rfl ?_
  refine go_aload c6_0 rfl rfl ?_
  refine go_get (y := (⟨"com/example/satisfy/satisfy/reasoner/Trail", "truncate", "(I)V"⟩ : MethodName)) P0 (5) 3 c6_1 rfl rfl (t50 hw) ?_
  refine go_iload c6_4 rfl ?_
  refine go_icmp_le c6_5 (fun q => absurd q (by decide)) (fun _ => ?_)
  refine go_aload c6_8 rfl rfl ?_
  refine go_dup c6_9 rfl ?_
  refine go_get (y := (⟨"com/example/satisfy/satisfy/reasoner/Trail", "truncate", "(I)V"⟩ : MethodName)) P0 (5) 3 c6_10 rfl rfl (t50 hw) ?_
  refine go_push c6_13 ?_
  refine go_isub c6_14 ?_
  refine go_isI 1 (by decide) ?_
  refine go_put (y := (⟨"com/example/satisfy/satisfy/reasoner/Trail", "truncate", "(I)V"⟩ : MethodName)) P0 5 3 .int c6_15 rfl rfl (t50 hw) (Or.inl (t51 hw)) (t7 hw) (by decide) rfl rfl ?_
  intro h1 P2
  dsimp only [lupd] at P2
  refine go_aload c6_18 rfl rfl ?_
  refine go_get (y := (⟨"com/example/satisfy/satisfy/reasoner/Trail", "truncate", "(I)V"⟩ : MethodName)) P2 (5) 2 c6_19 rfl rfl (t43 hw) ?_
  refine go_aload c6_22 rfl rfl ?_
  refine go_get (y := (⟨"com/example/satisfy/satisfy/reasoner/Trail", "truncate", "(I)V"⟩ : MethodName)) P2 (5) 0 c6_23 rfl rfl (t16 hw) ?_
  refine go_aload c6_26 rfl rfl ?_
  refine go_get (y := (⟨"com/example/satisfy/satisfy/reasoner/Trail", "truncate", "(I)V"⟩ : MethodName)) P2 (5) 3 c6_27 rfl rfl (t50 hw) ?_
  refine go_ialoadH P2 (4) c6_30 rfl (by decide) rfl ?_
  refine go_callV0 (y := (⟨"com/example/satisfy/satisfy/reasoner/Trail", "truncate", "(I)V"⟩ : MethodName)) (W := 0) (argsL := [(.int x1)]) (st := []) c6_31 (rm_remove l Z a0 hw h1 n0 _ m x1 hk_x1 ka va b n ks vs F Rp P2) (P2.exa (i := 0) rfl) (t111 hw) (t112 hw) (fun _ q => notFace_of_selects (args := #[]) (mvT q (t114 hw))) (t114 hw) (t113 hw) (t24 hw) (t115 hw) (by decide) (lenOf pd2 rfl) rfl rfl (by decide) (by decide) (by decide) (by decide) rfl ?_
  rintro h3 ⟨n3, ks3, vs3, hle3, Rp3, P3⟩
  refine go_more (k' := 0) (n' := 0) (by decide) (by decide) ?_
  refine go_aload c6_34 rfl rfl ?_
  refine go_get (y := (⟨"com/example/satisfy/satisfy/reasoner/Trail", "truncate", "(I)V"⟩ : MethodName)) P3 (5) 1 c6_35 rfl rfl (t20 hw) ?_
  refine go_aload c6_38 rfl rfl ?_
  refine go_get (y := (⟨"com/example/satisfy/satisfy/reasoner/Trail", "truncate", "(I)V"⟩ : MethodName)) P3 (5) 3 c6_39 rfl rfl (t50 hw) ?_
  refine go_null c6_42 ?_
  refine go_aastoreH P3 3 c6_43 rfl rfl rfl (by decide) (Nat.le_of_ble_eq_true rfl) (Or.inl rfl) ?_
  intro h4 P5
  dsimp only [lupd] at P5
  refine go_goto c6_44 ?_
  refine go_aload c6_0 rfl rfl ?_
  refine go_get (y := (⟨"com/example/satisfy/satisfy/reasoner/Trail", "truncate", "(I)V"⟩ : MethodName)) P5 (5) 3 c6_1 rfl rfl (t50 hw) ?_
  refine go_iload c6_4 rfl ?_
  refine go_icmp_le c6_5 (fun _ => ?_) (fun q => absurd q (by decide))
  exact go_ret rfl c6_47 (by decide) (by decide) ⟨rfl, _, _, _, by omega, Rp3, P5⟩
set_option maxRecDepth 65536 in
set_option maxHeartbeats 4000000 in
theorem rm_tr2_2 (l : Launch) (Z : State) (a0 : Array Value) (hw : ∀ d ∈ tables_1, d.before a0 Z = true) (h0 : Heap) (n0 : Nat) (t m con rea : Addr) (x0 x1 x2 x3 x4 x5 x6 x7 : Int32) (y0 y1 y2 y3 y4 y5 y6 y7 : Value) (ka va : Addr) (b n : Nat) (ks vs : List Int32) (F : Int32 → Int32) (Rp : own_Rep b ks vs n F) (P0 : Hp Z n0 h0 [(m, (.inl ("com/example/satisfy/satisfy/reasoner/IntMap", [(("com/example/satisfy/satisfy/reasoner/IntMap", "bits", "I"), (.int (Int32.ofNat b))), (("com/example/satisfy/satisfy/reasoner/IntMap", "keys", "[I"), (.ref ka)), (("com/example/satisfy/satisfy/reasoner/IntMap", "values", "[I"), (.ref va)), (("com/example/satisfy/satisfy/reasoner/IntMap", "size", "I"), (.int (Int32.ofNat n)))]))), (ka, (own_ia ks)), (va, (own_ia vs)), (rea, (.inr ((.object "com/example/satisfy/satisfy/reasoner/Reason"), "[Lcom/example/satisfy/satisfy/reasoner/Reason;", [y0, y1, y2, y3, y4, y5, y6, y7]))), (con, (.inr (.int, "[I", [(.int x0), (.int x1), (.int x2), (.int x3), (.int x4), (.int x5), (.int x6), (.int x7)]))), (t, (.inl ("com/example/satisfy/satisfy/reasoner/Trail", [(("com/example/satisfy/satisfy/reasoner/Trail", "concepts", "[I"), (.ref con)), (("com/example/satisfy/satisfy/reasoner/Trail", "reasons", "[Lcom/example/satisfy/satisfy/reasoner/Reason;"), (.ref rea)), (("com/example/satisfy/satisfy/reasoner/Trail", "positions", "Lcom/example/satisfy/satisfy/reasoner/IntMap;"), (.ref m)), (("com/example/satisfy/satisfy/reasoner/Trail", "size", "I"), (.int 2))])))]) (p : Int32) (hp : ¬ p < 2) :
    Con false l Z (⟨"com/example/satisfy/satisfy/reasoner/Trail", "truncate", "(I)V"⟩ : MethodName) prog_91_method_8_code 2 none ({ frames := 3, cells := 0, slots := 0, locals := 45 } : Room) #[(.ref t), (.int p)] h0 n0 (R0 fun h' => ∃ n' ks' vs', n' ≤ n ∧ own_Rep b ks' vs' n' F ∧ Hp Z n0 h' [(m, (.inl ("com/example/satisfy/satisfy/reasoner/IntMap", [(("com/example/satisfy/satisfy/reasoner/IntMap", "bits", "I"), (.int (Int32.ofNat b))), (("com/example/satisfy/satisfy/reasoner/IntMap", "keys", "[I"), (.ref ka)), (("com/example/satisfy/satisfy/reasoner/IntMap", "values", "[I"), (.ref va)), (("com/example/satisfy/satisfy/reasoner/IntMap", "size", "I"), (.int (Int32.ofNat n')))]))), (ka, (own_ia ks')), (va, (own_ia vs')), (rea, (.inr ((.object "com/example/satisfy/satisfy/reasoner/Reason"), "[Lcom/example/satisfy/satisfy/reasoner/Reason;", [y0, y1, y2, y3, y4, y5, y6, y7]))), (con, (.inr (.int, "[I", [(.int x0), (.int x1), (.int x2), (.int x3), (.int x4), (.int x5), (.int x6), (.int x7)]))), (t, (.inl ("com/example/satisfy/satisfy/reasoner/Trail", [(("com/example/satisfy/satisfy/reasoner/Trail", "concepts", "[I"), (.ref con)), (("com/example/satisfy/satisfy/reasoner/Trail", "reasons", "[Lcom/example/satisfy/satisfy/reasoner/Reason;"), (.ref rea)), (("com/example/satisfy/satisfy/reasoner/Trail", "positions", "Lcom/example/satisfy/satisfy/reasoner/IntMap;"), (.ref m)), (("com/example/satisfy/satisfy/reasoner/Trail", "size", "I"), (.int 2))])))]) := by
  refine con_of (ls := [.val (.ref t), .val (.int p)]) (plainFor_of_name pn2) rfl ?_
  refine go_aload c6_0 rfl rfl ?_
  refine go_get (y := (⟨"com/example/satisfy/satisfy/reasoner/Trail", "truncate", "(I)V"⟩ : MethodName)) P0 (5) 3 c6_1 rfl rfl (t50 hw) ?_
  refine go_iload c6_4 rfl ?_
  refine go_icmp_le c6_5 (fun b5 => ?_) (fun b5 => ?_)
  · exact go_ret rfl c6_47 (by decide) (by decide) ⟨rfl, _, _, _, by omega, Rp, P0⟩
  · exact absurd b5 hp
set_option maxRecDepth 65536 in
set_option maxHeartbeats 4000000 in
theorem rm_tr3_0 (l : Launch) (Z : State) (a0 : Array Value) (hw : ∀ d ∈ tables_1, d.before a0 Z = true) (h0 : Heap) (n0 : Nat) (t m con rea : Addr) (x0 x1 x2 x3 x4 x5 x6 x7 : Int32) (y0 y1 y2 y3 y4 y5 y6 y7 : Value) (ka va : Addr) (b n : Nat) (ks vs : List Int32) (F : Int32 → Int32) (Rp : own_Rep b ks vs n F) (P0 : Hp Z n0 h0 [(m, (.inl ("com/example/satisfy/satisfy/reasoner/IntMap", [(("com/example/satisfy/satisfy/reasoner/IntMap", "bits", "I"), (.int (Int32.ofNat b))), (("com/example/satisfy/satisfy/reasoner/IntMap", "keys", "[I"), (.ref ka)), (("com/example/satisfy/satisfy/reasoner/IntMap", "values", "[I"), (.ref va)), (("com/example/satisfy/satisfy/reasoner/IntMap", "size", "I"), (.int (Int32.ofNat n)))]))), (ka, (own_ia ks)), (va, (own_ia vs)), (rea, (.inr ((.object "com/example/satisfy/satisfy/reasoner/Reason"), "[Lcom/example/satisfy/satisfy/reasoner/Reason;", [y0, y1, y2, y3, y4, y5, y6, y7]))), (con, (.inr (.int, "[I", [(.int x0), (.int x1), (.int x2), (.int x3), (.int x4), (.int x5), (.int x6), (.int x7)]))), (t, (.inl ("com/example/satisfy/satisfy/reasoner/Trail", [(("com/example/satisfy/satisfy/reasoner/Trail", "concepts", "[I"), (.ref con)), (("com/example/satisfy/satisfy/reasoner/Trail", "reasons", "[Lcom/example/satisfy/satisfy/reasoner/Reason;"), (.ref rea)), (("com/example/satisfy/satisfy/reasoner/Trail", "positions", "Lcom/example/satisfy/satisfy/reasoner/IntMap;"), (.ref m)), (("com/example/satisfy/satisfy/reasoner/Trail", "size", "I"), (.int 3))])))]) (hk_x0 : x0 ≠ -1) (hk_x1 : x1 ≠ -1) (hk_x2 : x2 ≠ -1) :
    Con false l Z (⟨"com/example/satisfy/satisfy/reasoner/Trail", "truncate", "(I)V"⟩ : MethodName) prog_91_method_8_code 2 none ({ frames := 3, cells := 0, slots := 0, locals := 45 } : Room) #[(.ref t), (.int 0)] h0 n0 (R0 fun h' => ∃ n' ks' vs', n' ≤ n ∧ own_Rep b ks' vs' n' (own_up (own_up (own_up F x2 (-1)) x1 (-1)) x0 (-1)) ∧ Hp Z n0 h' [(m, (.inl ("com/example/satisfy/satisfy/reasoner/IntMap", [(("com/example/satisfy/satisfy/reasoner/IntMap", "bits", "I"), (.int (Int32.ofNat b))), (("com/example/satisfy/satisfy/reasoner/IntMap", "keys", "[I"), (.ref ka)), (("com/example/satisfy/satisfy/reasoner/IntMap", "values", "[I"), (.ref va)), (("com/example/satisfy/satisfy/reasoner/IntMap", "size", "I"), (.int (Int32.ofNat n')))]))), (ka, (own_ia ks')), (va, (own_ia vs')), (rea, (.inr ((.object "com/example/satisfy/satisfy/reasoner/Reason"), "[Lcom/example/satisfy/satisfy/reasoner/Reason;", [.null, .null, .null, y3, y4, y5, y6, y7]))), (con, (.inr (.int, "[I", [(.int x0), (.int x1), (.int x2), (.int x3), (.int x4), (.int x5), (.int x6), (.int x7)]))), (t, (.inl ("com/example/satisfy/satisfy/reasoner/Trail", [(("com/example/satisfy/satisfy/reasoner/Trail", "concepts", "[I"), (.ref con)), (("com/example/satisfy/satisfy/reasoner/Trail", "reasons", "[Lcom/example/satisfy/satisfy/reasoner/Reason;"), (.ref rea)), (("com/example/satisfy/satisfy/reasoner/Trail", "positions", "Lcom/example/satisfy/satisfy/reasoner/IntMap;"), (.ref m)), (("com/example/satisfy/satisfy/reasoner/Trail", "size", "I"), (.int 0))])))]) := by
  refine con_of (ls := [.val (.ref t), .val (.int 0)]) (plainFor_of_name pn2) rfl ?_
  refine go_aload c6_0 rfl rfl ?_
  refine go_get (y := (⟨"com/example/satisfy/satisfy/reasoner/Trail", "truncate", "(I)V"⟩ : MethodName)) P0 (5) 3 c6_1 rfl rfl (t50 hw) ?_
  refine go_iload c6_4 rfl ?_
  refine go_icmp_le c6_5 (fun q => absurd q (by decide)) (fun _ => ?_)
  refine go_aload c6_8 rfl rfl ?_
  refine go_dup c6_9 rfl ?_
  refine go_get (y := (⟨"com/example/satisfy/satisfy/reasoner/Trail", "truncate", "(I)V"⟩ : MethodName)) P0 (5) 3 c6_10 rfl rfl (t50 hw) ?_
  refine go_push c6_13 ?_
  refine go_isub c6_14 ?_
  refine go_isI 2 (by decide) ?_
  refine go_put (y := (⟨"com/example/satisfy/satisfy/reasoner/Trail", "truncate", "(I)V"⟩ : MethodName)) P0 5 3 .int c6_15 rfl rfl (t50 hw) (Or.inl (t51 hw)) (t7 hw) (by decide) rfl rfl ?_
  intro h1 P2
  dsimp only [lupd] at P2
  refine go_aload c6_18 rfl rfl ?_
  refine go_get (y := (⟨"com/example/satisfy/satisfy/reasoner/Trail", "truncate", "(I)V"⟩ : MethodName)) P2 (5) 2 c6_19 rfl rfl (t43 hw) ?_
  refine go_aload c6_22 rfl rfl ?_
  refine go_get (y := (⟨"com/example/satisfy/satisfy/reasoner/Trail", "truncate", "(I)V"⟩ : MethodName)) P2 (5) 0 c6_23 rfl rfl (t16 hw) ?_
  refine go_aload c6_26 rfl rfl ?_
  refine go_get (y := (⟨"com/example/satisfy/satisfy/reasoner/Trail", "truncate", "(I)V"⟩ : MethodName)) P2 (5) 3 c6_27 rfl rfl (t50 hw) ?_
  refine go_ialoadH P2 (4) c6_30 rfl (by decide) rfl ?_
  refine go_callV0 (y := (⟨"com/example/satisfy/satisfy/reasoner/Trail", "truncate", "(I)V"⟩ : MethodName)) (W := 0) (argsL := [(.int x2)]) (st := []) c6_31 (rm_remove l Z a0 hw h1 n0 _ m x2 hk_x2 ka va b n ks vs F Rp P2) (P2.exa (i := 0) rfl) (t111 hw) (t112 hw) (fun _ q => notFace_of_selects (args := #[]) (mvT q (t114 hw))) (t114 hw) (t113 hw) (t24 hw) (t115 hw) (by decide) (lenOf pd2 rfl) rfl rfl (by decide) (by decide) (by decide) (by decide) rfl ?_
  rintro h3 ⟨n3, ks3, vs3, hle3, Rp3, P3⟩
  refine go_more (k' := 0) (n' := 0) (by decide) (by decide) ?_
  refine go_aload c6_34 rfl rfl ?_
  refine go_get (y := (⟨"com/example/satisfy/satisfy/reasoner/Trail", "truncate", "(I)V"⟩ : MethodName)) P3 (5) 1 c6_35 rfl rfl (t20 hw) ?_
  refine go_aload c6_38 rfl rfl ?_
  refine go_get (y := (⟨"com/example/satisfy/satisfy/reasoner/Trail", "truncate", "(I)V"⟩ : MethodName)) P3 (5) 3 c6_39 rfl rfl (t50 hw) ?_
  refine go_null c6_42 ?_
  refine go_aastoreH P3 3 c6_43 rfl rfl rfl (by decide) (Nat.le_of_ble_eq_true rfl) (Or.inl rfl) ?_
  intro h4 P5
  dsimp only [lupd] at P5
  refine go_goto c6_44 ?_
  refine go_aload c6_0 rfl rfl ?_
  refine go_get (y := (⟨"com/example/satisfy/satisfy/reasoner/Trail", "truncate", "(I)V"⟩ : MethodName)) P5 (5) 3 c6_1 rfl rfl (t50 hw) ?_
  refine go_iload c6_4 rfl ?_
  refine go_icmp_le c6_5 (fun q => absurd q (by decide)) (fun _ => ?_)
  refine go_aload c6_8 rfl rfl ?_
  refine go_dup c6_9 rfl ?_
  refine go_get (y := (⟨"com/example/satisfy/satisfy/reasoner/Trail", "truncate", "(I)V"⟩ : MethodName)) P5 (5) 3 c6_10 rfl rfl (t50 hw) ?_
  refine go_push c6_13 ?_
  refine go_isub c6_14 ?_
  refine go_isI 1 (by decide) ?_
  refine go_put (y := (⟨"com/example/satisfy/satisfy/reasoner/Trail", "truncate", "(I)V"⟩ : MethodName)) P5 5 3 .int c6_15 rfl rfl (t50 hw) (Or.inl (t51 hw)) (t7 hw) (by decide) rfl rfl ?_
  intro h6 P7
  dsimp only [lupd] at P7
  refine go_aload c6_18 rfl rfl ?_
  refine go_get (y := (⟨"com/example/satisfy/satisfy/reasoner/Trail", "truncate", "(I)V"⟩ : MethodName)) P7 (5) 2 c6_19 rfl rfl (t43 hw) ?_
  refine go_aload c6_22 rfl rfl ?_
  refine go_get (y := (⟨"com/example/satisfy/satisfy/reasoner/Trail", "truncate", "(I)V"⟩ : MethodName)) P7 (5) 0 c6_23 rfl rfl (t16 hw) ?_
  refine go_aload c6_26 rfl rfl ?_
  refine go_get (y := (⟨"com/example/satisfy/satisfy/reasoner/Trail", "truncate", "(I)V"⟩ : MethodName)) P7 (5) 3 c6_27 rfl rfl (t50 hw) ?_
  refine go_ialoadH P7 (4) c6_30 rfl (by decide) rfl ?_
  refine go_callV0 (y := (⟨"com/example/satisfy/satisfy/reasoner/Trail", "truncate", "(I)V"⟩ : MethodName)) (W := 0) (argsL := [(.int x1)]) (st := []) c6_31 (rm_remove l Z a0 hw h6 n0 _ m x1 hk_x1 ka va b n3 ks3 vs3 (own_up F x2 (-1)) Rp3 P7) (P7.exa (i := 0) rfl) (t111 hw) (t112 hw) (fun _ q => notFace_of_selects (args := #[]) (mvT q (t114 hw))) (t114 hw) (t113 hw) (t24 hw) (t115 hw) (by decide) (lenOf pd2 rfl) rfl rfl (by decide) (by decide) (by decide) (by decide) rfl ?_
  rintro h8 ⟨n8, ks8, vs8, hle8, Rp8, P8⟩
  refine go_more (k' := 0) (n' := 0) (by decide) (by decide) ?_
  refine go_aload c6_34 rfl rfl ?_
  refine go_get (y := (⟨"com/example/satisfy/satisfy/reasoner/Trail", "truncate", "(I)V"⟩ : MethodName)) P8 (5) 1 c6_35 rfl rfl (t20 hw) ?_
  refine go_aload c6_38 rfl rfl ?_
  refine go_get (y := (⟨"com/example/satisfy/satisfy/reasoner/Trail", "truncate", "(I)V"⟩ : MethodName)) P8 (5) 3 c6_39 rfl rfl (t50 hw) ?_
  refine go_null c6_42 ?_
  refine go_aastoreH P8 3 c6_43 rfl rfl rfl (by decide) (Nat.le_of_ble_eq_true rfl) (Or.inl rfl) ?_
  intro h9 P10
  dsimp only [lupd] at P10
  refine go_goto c6_44 ?_
  refine go_aload c6_0 rfl rfl ?_
  refine go_get (y := (⟨"com/example/satisfy/satisfy/reasoner/Trail", "truncate", "(I)V"⟩ : MethodName)) P10 (5) 3 c6_1 rfl rfl (t50 hw) ?_
  refine go_iload c6_4 rfl ?_
  refine go_icmp_le c6_5 (fun q => absurd q (by decide)) (fun _ => ?_)
  refine go_aload c6_8 rfl rfl ?_
  refine go_dup c6_9 rfl ?_
  refine go_get (y := (⟨"com/example/satisfy/satisfy/reasoner/Trail", "truncate", "(I)V"⟩ : MethodName)) P10 (5) 3 c6_10 rfl rfl (t50 hw) ?_
  refine go_push c6_13 ?_
  refine go_isub c6_14 ?_
  refine go_isI 0 (by decide) ?_
  refine go_put (y := (⟨"com/example/satisfy/satisfy/reasoner/Trail", "truncate", "(I)V"⟩ : MethodName)) P10 5 3 .int c6_15 rfl rfl (t50 hw) (Or.inl (t51 hw)) (t7 hw) (by decide) rfl rfl ?_
  intro h11 P12
  dsimp only [lupd] at P12
  refine go_aload c6_18 rfl rfl ?_
  refine go_get (y := (⟨"com/example/satisfy/satisfy/reasoner/Trail", "truncate", "(I)V"⟩ : MethodName)) P12 (5) 2 c6_19 rfl rfl (t43 hw) ?_
  refine go_aload c6_22 rfl rfl ?_
  refine go_get (y := (⟨"com/example/satisfy/satisfy/reasoner/Trail", "truncate", "(I)V"⟩ : MethodName)) P12 (5) 0 c6_23 rfl rfl (t16 hw) ?_
  refine go_aload c6_26 rfl rfl ?_
  refine go_get (y := (⟨"com/example/satisfy/satisfy/reasoner/Trail", "truncate", "(I)V"⟩ : MethodName)) P12 (5) 3 c6_27 rfl rfl (t50 hw) ?_
  refine go_ialoadH P12 (4) c6_30 rfl (by decide) rfl ?_
  refine go_callV0 (y := (⟨"com/example/satisfy/satisfy/reasoner/Trail", "truncate", "(I)V"⟩ : MethodName)) (W := 0) (argsL := [(.int x0)]) (st := []) c6_31 (rm_remove l Z a0 hw h11 n0 _ m x0 hk_x0 ka va b n8 ks8 vs8 (own_up (own_up F x2 (-1)) x1 (-1)) Rp8 P12) (P12.exa (i := 0) rfl) (t111 hw) (t112 hw) (fun _ q => notFace_of_selects (args := #[]) (mvT q (t114 hw))) (t114 hw) (t113 hw) (t24 hw) (t115 hw) (by decide) (lenOf pd2 rfl) rfl rfl (by decide) (by decide) (by decide) (by decide) rfl ?_
  rintro h13 ⟨n13, ks13, vs13, hle13, Rp13, P13⟩
  refine go_more (k' := 0) (n' := 0) (by decide) (by decide) ?_
  refine go_aload c6_34 rfl rfl ?_
  refine go_get (y := (⟨"com/example/satisfy/satisfy/reasoner/Trail", "truncate", "(I)V"⟩ : MethodName)) P13 (5) 1 c6_35 rfl rfl (t20 hw) ?_
  refine go_aload c6_38 rfl rfl ?_
  refine go_get (y := (⟨"com/example/satisfy/satisfy/reasoner/Trail", "truncate", "(I)V"⟩ : MethodName)) P13 (5) 3 c6_39 rfl rfl (t50 hw) ?_
  refine go_null c6_42 ?_
  refine go_aastoreH P13 3 c6_43 rfl rfl rfl (by decide) (Nat.le_of_ble_eq_true rfl) (Or.inl rfl) ?_
  intro h14 P15
  dsimp only [lupd] at P15
  refine go_goto c6_44 ?_
  refine go_aload c6_0 rfl rfl ?_
  refine go_get (y := (⟨"com/example/satisfy/satisfy/reasoner/Trail", "truncate", "(I)V"⟩ : MethodName)) P15 (5) 3 c6_1 rfl rfl (t50 hw) ?_
  refine go_iload c6_4 rfl ?_
  refine go_icmp_le c6_5 (fun _ => ?_) (fun q => absurd q (by decide))
  exact go_ret rfl c6_47 (by decide) (by decide) ⟨rfl, _, _, _, by omega, Rp13, P15⟩
set_option maxRecDepth 65536 in
set_option maxHeartbeats 4000000 in
theorem rm_tr3_1 (l : Launch) (Z : State) (a0 : Array Value) (hw : ∀ d ∈ tables_1, d.before a0 Z = true) (h0 : Heap) (n0 : Nat) (t m con rea : Addr) (x0 x1 x2 x3 x4 x5 x6 x7 : Int32) (y0 y1 y2 y3 y4 y5 y6 y7 : Value) (ka va : Addr) (b n : Nat) (ks vs : List Int32) (F : Int32 → Int32) (Rp : own_Rep b ks vs n F) (P0 : Hp Z n0 h0 [(m, (.inl ("com/example/satisfy/satisfy/reasoner/IntMap", [(("com/example/satisfy/satisfy/reasoner/IntMap", "bits", "I"), (.int (Int32.ofNat b))), (("com/example/satisfy/satisfy/reasoner/IntMap", "keys", "[I"), (.ref ka)), (("com/example/satisfy/satisfy/reasoner/IntMap", "values", "[I"), (.ref va)), (("com/example/satisfy/satisfy/reasoner/IntMap", "size", "I"), (.int (Int32.ofNat n)))]))), (ka, (own_ia ks)), (va, (own_ia vs)), (rea, (.inr ((.object "com/example/satisfy/satisfy/reasoner/Reason"), "[Lcom/example/satisfy/satisfy/reasoner/Reason;", [y0, y1, y2, y3, y4, y5, y6, y7]))), (con, (.inr (.int, "[I", [(.int x0), (.int x1), (.int x2), (.int x3), (.int x4), (.int x5), (.int x6), (.int x7)]))), (t, (.inl ("com/example/satisfy/satisfy/reasoner/Trail", [(("com/example/satisfy/satisfy/reasoner/Trail", "concepts", "[I"), (.ref con)), (("com/example/satisfy/satisfy/reasoner/Trail", "reasons", "[Lcom/example/satisfy/satisfy/reasoner/Reason;"), (.ref rea)), (("com/example/satisfy/satisfy/reasoner/Trail", "positions", "Lcom/example/satisfy/satisfy/reasoner/IntMap;"), (.ref m)), (("com/example/satisfy/satisfy/reasoner/Trail", "size", "I"), (.int 3))])))]) (hk_x1 : x1 ≠ -1) (hk_x2 : x2 ≠ -1) :
    Con false l Z (⟨"com/example/satisfy/satisfy/reasoner/Trail", "truncate", "(I)V"⟩ : MethodName) prog_91_method_8_code 2 none ({ frames := 3, cells := 0, slots := 0, locals := 45 } : Room) #[(.ref t), (.int 1)] h0 n0 (R0 fun h' => ∃ n' ks' vs', n' ≤ n ∧ own_Rep b ks' vs' n' (own_up (own_up F x2 (-1)) x1 (-1)) ∧ Hp Z n0 h' [(m, (.inl ("com/example/satisfy/satisfy/reasoner/IntMap", [(("com/example/satisfy/satisfy/reasoner/IntMap", "bits", "I"), (.int (Int32.ofNat b))), (("com/example/satisfy/satisfy/reasoner/IntMap", "keys", "[I"), (.ref ka)), (("com/example/satisfy/satisfy/reasoner/IntMap", "values", "[I"), (.ref va)), (("com/example/satisfy/satisfy/reasoner/IntMap", "size", "I"), (.int (Int32.ofNat n')))]))), (ka, (own_ia ks')), (va, (own_ia vs')), (rea, (.inr ((.object "com/example/satisfy/satisfy/reasoner/Reason"), "[Lcom/example/satisfy/satisfy/reasoner/Reason;", [y0, .null, .null, y3, y4, y5, y6, y7]))), (con, (.inr (.int, "[I", [(.int x0), (.int x1), (.int x2), (.int x3), (.int x4), (.int x5), (.int x6), (.int x7)]))), (t, (.inl ("com/example/satisfy/satisfy/reasoner/Trail", [(("com/example/satisfy/satisfy/reasoner/Trail", "concepts", "[I"), (.ref con)), (("com/example/satisfy/satisfy/reasoner/Trail", "reasons", "[Lcom/example/satisfy/satisfy/reasoner/Reason;"), (.ref rea)), (("com/example/satisfy/satisfy/reasoner/Trail", "positions", "Lcom/example/satisfy/satisfy/reasoner/IntMap;"), (.ref m)), (("com/example/satisfy/satisfy/reasoner/Trail", "size", "I"), (.int 1))])))]) := by
  refine con_of (ls := [.val (.ref t), .val (.int 1)]) (plainFor_of_name pn2) rfl ?_
  refine go_aload c6_0 rfl rfl ?_
  refine go_get (y := (⟨"com/example/satisfy/satisfy/reasoner/Trail", "truncate", "(I)V"⟩ : MethodName)) P0 (5) 3 c6_1 rfl rfl (t50 hw) ?_
  refine go_iload c6_4 rfl ?_
  refine go_icmp_le c6_5 (fun q => absurd q (by decide)) (fun _ => ?_)
  refine go_aload c6_8 rfl rfl ?_
  refine go_dup c6_9 rfl ?_
  refine go_get (y := (⟨"com/example/satisfy/satisfy/reasoner/Trail", "truncate", "(I)V"⟩ : MethodName)) P0 (5) 3 c6_10 rfl rfl (t50 hw) ?_
  refine go_push c6_13 ?_
  refine go_isub c6_14 ?_
  refine go_isI 2 (by decide) ?_
  refine go_put (y := (⟨"com/example/satisfy/satisfy/reasoner/Trail", "truncate", "(I)V"⟩ : MethodName)) P0 5 3 .int c6_15 rfl rfl (t50 hw) (Or.inl (t51 hw)) (t7 hw) (by decide) rfl rfl ?_
  intro h1 P2
  dsimp only [lupd] at P2
  refine go_aload c6_18 rfl rfl ?_
  refine go_get (y := (⟨"com/example/satisfy/satisfy/reasoner/Trail", "truncate", "(I)V"⟩ : MethodName)) P2 (5) 2 c6_19 rfl rfl (t43 hw) ?_
  refine go_aload c6_22 rfl rfl ?_
  refine go_get (y := (⟨"com/example/satisfy/satisfy/reasoner/Trail", "truncate", "(I)V"⟩ : MethodName)) P2 (5) 0 c6_23 rfl rfl (t16 hw) ?_
  refine go_aload c6_26 rfl rfl ?_
  refine go_get (y := (⟨"com/example/satisfy/satisfy/reasoner/Trail", "truncate", "(I)V"⟩ : MethodName)) P2 (5) 3 c6_27 rfl rfl (t50 hw) ?_
  refine go_ialoadH P2 (4) c6_30 rfl (by decide) rfl ?_
  refine go_callV0 (y := (⟨"com/example/satisfy/satisfy/reasoner/Trail", "truncate", "(I)V"⟩ : MethodName)) (W := 0) (argsL := [(.int x2)]) (st := []) c6_31 (rm_remove l Z a0 hw h1 n0 _ m x2 hk_x2 ka va b n ks vs F Rp P2) (P2.exa (i := 0) rfl) (t111 hw) (t112 hw) (fun _ q => notFace_of_selects (args := #[]) (mvT q (t114 hw))) (t114 hw) (t113 hw) (t24 hw) (t115 hw) (by decide) (lenOf pd2 rfl) rfl rfl (by decide) (by decide) (by decide) (by decide) rfl ?_
  rintro h3 ⟨n3, ks3, vs3, hle3, Rp3, P3⟩
  refine go_more (k' := 0) (n' := 0) (by decide) (by decide) ?_
  refine go_aload c6_34 rfl rfl ?_
  refine go_get (y := (⟨"com/example/satisfy/satisfy/reasoner/Trail", "truncate", "(I)V"⟩ : MethodName)) P3 (5) 1 c6_35 rfl rfl (t20 hw) ?_
  refine go_aload c6_38 rfl rfl ?_
  refine go_get (y := (⟨"com/example/satisfy/satisfy/reasoner/Trail", "truncate", "(I)V"⟩ : MethodName)) P3 (5) 3 c6_39 rfl rfl (t50 hw) ?_
  refine go_null c6_42 ?_
  refine go_aastoreH P3 3 c6_43 rfl rfl rfl (by decide) (Nat.le_of_ble_eq_true rfl) (Or.inl rfl) ?_
  intro h4 P5
  dsimp only [lupd] at P5
  refine go_goto c6_44 ?_
  refine go_aload c6_0 rfl rfl ?_
  refine go_get (y := (⟨"com/example/satisfy/satisfy/reasoner/Trail", "truncate", "(I)V"⟩ : MethodName)) P5 (5) 3 c6_1 rfl rfl (t50 hw) ?_
  refine go_iload c6_4 rfl ?_
  refine go_icmp_le c6_5 (fun q => absurd q (by decide)) (fun _ => ?_)
  refine go_aload c6_8 rfl rfl ?_
  refine go_dup c6_9 rfl ?_
  refine go_get (y := (⟨"com/example/satisfy/satisfy/reasoner/Trail", "truncate", "(I)V"⟩ : MethodName)) P5 (5) 3 c6_10 rfl rfl (t50 hw) ?_
  refine go_push c6_13 ?_
  refine go_isub c6_14 ?_
  refine go_isI 1 (by decide) ?_
  refine go_put (y := (⟨"com/example/satisfy/satisfy/reasoner/Trail", "truncate", "(I)V"⟩ : MethodName)) P5 5 3 .int c6_15 rfl rfl (t50 hw) (Or.inl (t51 hw)) (t7 hw) (by decide) rfl rfl ?_
  intro h6 P7
  dsimp only [lupd] at P7
  refine go_aload c6_18 rfl rfl ?_
  refine go_get (y := (⟨"com/example/satisfy/satisfy/reasoner/Trail", "truncate", "(I)V"⟩ : MethodName)) P7 (5) 2 c6_19 rfl rfl (t43 hw) ?_
  refine go_aload c6_22 rfl rfl ?_
  refine go_get (y := (⟨"com/example/satisfy/satisfy/reasoner/Trail", "truncate", "(I)V"⟩ : MethodName)) P7 (5) 0 c6_23 rfl rfl (t16 hw) ?_
  refine go_aload c6_26 rfl rfl ?_
  refine go_get (y := (⟨"com/example/satisfy/satisfy/reasoner/Trail", "truncate", "(I)V"⟩ : MethodName)) P7 (5) 3 c6_27 rfl rfl (t50 hw) ?_
  refine go_ialoadH P7 (4) c6_30 rfl (by decide) rfl ?_
  refine go_callV0 (y := (⟨"com/example/satisfy/satisfy/reasoner/Trail", "truncate", "(I)V"⟩ : MethodName)) (W := 0) (argsL := [(.int x1)]) (st := []) c6_31 (rm_remove l Z a0 hw h6 n0 _ m x1 hk_x1 ka va b n3 ks3 vs3 (own_up F x2 (-1)) Rp3 P7) (P7.exa (i := 0) rfl) (t111 hw) (t112 hw) (fun _ q => notFace_of_selects (args := #[]) (mvT q (t114 hw))) (t114 hw) (t113 hw) (t24 hw) (t115 hw) (by decide) (lenOf pd2 rfl) rfl rfl (by decide) (by decide) (by decide) (by decide) rfl ?_
  rintro h8 ⟨n8, ks8, vs8, hle8, Rp8, P8⟩
  refine go_more (k' := 0) (n' := 0) (by decide) (by decide) ?_
  refine go_aload c6_34 rfl rfl ?_
  refine go_get (y := (⟨"com/example/satisfy/satisfy/reasoner/Trail", "truncate", "(I)V"⟩ : MethodName)) P8 (5) 1 c6_35 rfl rfl (t20 hw) ?_
  refine go_aload c6_38 rfl rfl ?_
  refine go_get (y := (⟨"com/example/satisfy/satisfy/reasoner/Trail", "truncate", "(I)V"⟩ : MethodName)) P8 (5) 3 c6_39 rfl rfl (t50 hw) ?_
  refine go_null c6_42 ?_
  refine go_aastoreH P8 3 c6_43 rfl rfl rfl (by decide) (Nat.le_of_ble_eq_true rfl) (Or.inl rfl) ?_
  intro h9 P10
  dsimp only [lupd] at P10
  refine go_goto c6_44 ?_
  refine go_aload c6_0 rfl rfl ?_
  refine go_get (y := (⟨"com/example/satisfy/satisfy/reasoner/Trail", "truncate", "(I)V"⟩ : MethodName)) P10 (5) 3 c6_1 rfl rfl (t50 hw) ?_
  refine go_iload c6_4 rfl ?_
  refine go_icmp_le c6_5 (fun _ => ?_) (fun q => absurd q (by decide))
  exact go_ret rfl c6_47 (by decide) (by decide) ⟨rfl, _, _, _, by omega, Rp8, P10⟩
set_option maxRecDepth 65536 in
set_option maxHeartbeats 4000000 in
theorem rm_tr3_2 (l : Launch) (Z : State) (a0 : Array Value) (hw : ∀ d ∈ tables_1, d.before a0 Z = true) (h0 : Heap) (n0 : Nat) (t m con rea : Addr) (x0 x1 x2 x3 x4 x5 x6 x7 : Int32) (y0 y1 y2 y3 y4 y5 y6 y7 : Value) (ka va : Addr) (b n : Nat) (ks vs : List Int32) (F : Int32 → Int32) (Rp : own_Rep b ks vs n F) (P0 : Hp Z n0 h0 [(m, (.inl ("com/example/satisfy/satisfy/reasoner/IntMap", [(("com/example/satisfy/satisfy/reasoner/IntMap", "bits", "I"), (.int (Int32.ofNat b))), (("com/example/satisfy/satisfy/reasoner/IntMap", "keys", "[I"), (.ref ka)), (("com/example/satisfy/satisfy/reasoner/IntMap", "values", "[I"), (.ref va)), (("com/example/satisfy/satisfy/reasoner/IntMap", "size", "I"), (.int (Int32.ofNat n)))]))), (ka, (own_ia ks)), (va, (own_ia vs)), (rea, (.inr ((.object "com/example/satisfy/satisfy/reasoner/Reason"), "[Lcom/example/satisfy/satisfy/reasoner/Reason;", [y0, y1, y2, y3, y4, y5, y6, y7]))), (con, (.inr (.int, "[I", [(.int x0), (.int x1), (.int x2), (.int x3), (.int x4), (.int x5), (.int x6), (.int x7)]))), (t, (.inl ("com/example/satisfy/satisfy/reasoner/Trail", [(("com/example/satisfy/satisfy/reasoner/Trail", "concepts", "[I"), (.ref con)), (("com/example/satisfy/satisfy/reasoner/Trail", "reasons", "[Lcom/example/satisfy/satisfy/reasoner/Reason;"), (.ref rea)), (("com/example/satisfy/satisfy/reasoner/Trail", "positions", "Lcom/example/satisfy/satisfy/reasoner/IntMap;"), (.ref m)), (("com/example/satisfy/satisfy/reasoner/Trail", "size", "I"), (.int 3))])))]) (hk_x2 : x2 ≠ -1) :
    Con false l Z (⟨"com/example/satisfy/satisfy/reasoner/Trail", "truncate", "(I)V"⟩ : MethodName) prog_91_method_8_code 2 none ({ frames := 3, cells := 0, slots := 0, locals := 45 } : Room) #[(.ref t), (.int 2)] h0 n0 (R0 fun h' => ∃ n' ks' vs', n' ≤ n ∧ own_Rep b ks' vs' n' (own_up F x2 (-1)) ∧ Hp Z n0 h' [(m, (.inl ("com/example/satisfy/satisfy/reasoner/IntMap", [(("com/example/satisfy/satisfy/reasoner/IntMap", "bits", "I"), (.int (Int32.ofNat b))), (("com/example/satisfy/satisfy/reasoner/IntMap", "keys", "[I"), (.ref ka)), (("com/example/satisfy/satisfy/reasoner/IntMap", "values", "[I"), (.ref va)), (("com/example/satisfy/satisfy/reasoner/IntMap", "size", "I"), (.int (Int32.ofNat n')))]))), (ka, (own_ia ks')), (va, (own_ia vs')), (rea, (.inr ((.object "com/example/satisfy/satisfy/reasoner/Reason"), "[Lcom/example/satisfy/satisfy/reasoner/Reason;", [y0, y1, .null, y3, y4, y5, y6, y7]))), (con, (.inr (.int, "[I", [(.int x0), (.int x1), (.int x2), (.int x3), (.int x4), (.int x5), (.int x6), (.int x7)]))), (t, (.inl ("com/example/satisfy/satisfy/reasoner/Trail", [(("com/example/satisfy/satisfy/reasoner/Trail", "concepts", "[I"), (.ref con)), (("com/example/satisfy/satisfy/reasoner/Trail", "reasons", "[Lcom/example/satisfy/satisfy/reasoner/Reason;"), (.ref rea)), (("com/example/satisfy/satisfy/reasoner/Trail", "positions", "Lcom/example/satisfy/satisfy/reasoner/IntMap;"), (.ref m)), (("com/example/satisfy/satisfy/reasoner/Trail", "size", "I"), (.int 2))])))]) := by
  refine con_of (ls := [.val (.ref t), .val (.int 2)]) (plainFor_of_name pn2) rfl ?_
  refine go_aload c6_0 rfl rfl ?_
  refine go_get (y := (⟨"com/example/satisfy/satisfy/reasoner/Trail", "truncate", "(I)V"⟩ : MethodName)) P0 (5) 3 c6_1 rfl rfl (t50 hw) ?_
  refine go_iload c6_4 rfl ?_
  refine go_icmp_le c6_5 (fun q => absurd q (by decide)) (fun _ => ?_)
  refine go_aload c6_8 rfl rfl ?_
  refine go_dup c6_9 rfl ?_
  refine go_get (y := (⟨"com/example/satisfy/satisfy/reasoner/Trail", "truncate", "(I)V"⟩ : MethodName)) P0 (5) 3 c6_10 rfl rfl (t50 hw) ?_
  refine go_push c6_13 ?_
  refine go_isub c6_14 ?_
  refine go_isI 2 (by decide) ?_
  refine go_put (y := (⟨"com/example/satisfy/satisfy/reasoner/Trail", "truncate", "(I)V"⟩ : MethodName)) P0 5 3 .int c6_15 rfl rfl (t50 hw) (Or.inl (t51 hw)) (t7 hw) (by decide) rfl rfl ?_
  intro h1 P2
  dsimp only [lupd] at P2
  refine go_aload c6_18 rfl rfl ?_
  refine go_get (y := (⟨"com/example/satisfy/satisfy/reasoner/Trail", "truncate", "(I)V"⟩ : MethodName)) P2 (5) 2 c6_19 rfl rfl (t43 hw) ?_
  refine go_aload c6_22 rfl rfl ?_
  refine go_get (y := (⟨"com/example/satisfy/satisfy/reasoner/Trail", "truncate", "(I)V"⟩ : MethodName)) P2 (5) 0 c6_23 rfl rfl (t16 hw) ?_
  refine go_aload c6_26 rfl rfl ?_
  refine go_get (y := (⟨"com/example/satisfy/satisfy/reasoner/Trail", "truncate", "(I)V"⟩ : MethodName)) P2 (5) 3 c6_27 rfl rfl (t50 hw) ?_
  refine go_ialoadH P2 (4) c6_30 rfl (by decide) rfl ?_
  refine go_callV0 (y := (⟨"com/example/satisfy/satisfy/reasoner/Trail", "truncate", "(I)V"⟩ : MethodName)) (W := 0) (argsL := [(.int x2)]) (st := []) c6_31 (rm_remove l Z a0 hw h1 n0 _ m x2 hk_x2 ka va b n ks vs F Rp P2) (P2.exa (i := 0) rfl) (t111 hw) (t112 hw) (fun _ q => notFace_of_selects (args := #[]) (mvT q (t114 hw))) (t114 hw) (t113 hw) (t24 hw) (t115 hw) (by decide) (lenOf pd2 rfl) rfl rfl (by decide) (by decide) (by decide) (by decide) rfl ?_
  rintro h3 ⟨n3, ks3, vs3, hle3, Rp3, P3⟩
  refine go_more (k' := 0) (n' := 0) (by decide) (by decide) ?_
  refine go_aload c6_34 rfl rfl ?_
  refine go_get (y := (⟨"com/example/satisfy/satisfy/reasoner/Trail", "truncate", "(I)V"⟩ : MethodName)) P3 (5) 1 c6_35 rfl rfl (t20 hw) ?_
  refine go_aload c6_38 rfl rfl ?_
  refine go_get (y := (⟨"com/example/satisfy/satisfy/reasoner/Trail", "truncate", "(I)V"⟩ : MethodName)) P3 (5) 3 c6_39 rfl rfl (t50 hw) ?_
  refine go_null c6_42 ?_
  refine go_aastoreH P3 3 c6_43 rfl rfl rfl (by decide) (Nat.le_of_ble_eq_true rfl) (Or.inl rfl) ?_
  intro h4 P5
  dsimp only [lupd] at P5
  refine go_goto c6_44 ?_
  refine go_aload c6_0 rfl rfl ?_
  refine go_get (y := (⟨"com/example/satisfy/satisfy/reasoner/Trail", "truncate", "(I)V"⟩ : MethodName)) P5 (5) 3 c6_1 rfl rfl (t50 hw) ?_
  refine go_iload c6_4 rfl ?_
  refine go_icmp_le c6_5 (fun _ => ?_) (fun q => absurd q (by decide))
  exact go_ret rfl c6_47 (by decide) (by decide) ⟨rfl, _, _, _, by omega, Rp3, P5⟩
set_option maxRecDepth 65536 in
set_option maxHeartbeats 4000000 in
theorem rm_tr3_3 (l : Launch) (Z : State) (a0 : Array Value) (hw : ∀ d ∈ tables_1, d.before a0 Z = true) (h0 : Heap) (n0 : Nat) (t m con rea : Addr) (x0 x1 x2 x3 x4 x5 x6 x7 : Int32) (y0 y1 y2 y3 y4 y5 y6 y7 : Value) (ka va : Addr) (b n : Nat) (ks vs : List Int32) (F : Int32 → Int32) (Rp : own_Rep b ks vs n F) (P0 : Hp Z n0 h0 [(m, (.inl ("com/example/satisfy/satisfy/reasoner/IntMap", [(("com/example/satisfy/satisfy/reasoner/IntMap", "bits", "I"), (.int (Int32.ofNat b))), (("com/example/satisfy/satisfy/reasoner/IntMap", "keys", "[I"), (.ref ka)), (("com/example/satisfy/satisfy/reasoner/IntMap", "values", "[I"), (.ref va)), (("com/example/satisfy/satisfy/reasoner/IntMap", "size", "I"), (.int (Int32.ofNat n)))]))), (ka, (own_ia ks)), (va, (own_ia vs)), (rea, (.inr ((.object "com/example/satisfy/satisfy/reasoner/Reason"), "[Lcom/example/satisfy/satisfy/reasoner/Reason;", [y0, y1, y2, y3, y4, y5, y6, y7]))), (con, (.inr (.int, "[I", [(.int x0), (.int x1), (.int x2), (.int x3), (.int x4), (.int x5), (.int x6), (.int x7)]))), (t, (.inl ("com/example/satisfy/satisfy/reasoner/Trail", [(("com/example/satisfy/satisfy/reasoner/Trail", "concepts", "[I"), (.ref con)), (("com/example/satisfy/satisfy/reasoner/Trail", "reasons", "[Lcom/example/satisfy/satisfy/reasoner/Reason;"), (.ref rea)), (("com/example/satisfy/satisfy/reasoner/Trail", "positions", "Lcom/example/satisfy/satisfy/reasoner/IntMap;"), (.ref m)), (("com/example/satisfy/satisfy/reasoner/Trail", "size", "I"), (.int 3))])))]) (p : Int32) (hp : ¬ p < 3) :
    Con false l Z (⟨"com/example/satisfy/satisfy/reasoner/Trail", "truncate", "(I)V"⟩ : MethodName) prog_91_method_8_code 2 none ({ frames := 3, cells := 0, slots := 0, locals := 45 } : Room) #[(.ref t), (.int p)] h0 n0 (R0 fun h' => ∃ n' ks' vs', n' ≤ n ∧ own_Rep b ks' vs' n' F ∧ Hp Z n0 h' [(m, (.inl ("com/example/satisfy/satisfy/reasoner/IntMap", [(("com/example/satisfy/satisfy/reasoner/IntMap", "bits", "I"), (.int (Int32.ofNat b))), (("com/example/satisfy/satisfy/reasoner/IntMap", "keys", "[I"), (.ref ka)), (("com/example/satisfy/satisfy/reasoner/IntMap", "values", "[I"), (.ref va)), (("com/example/satisfy/satisfy/reasoner/IntMap", "size", "I"), (.int (Int32.ofNat n')))]))), (ka, (own_ia ks')), (va, (own_ia vs')), (rea, (.inr ((.object "com/example/satisfy/satisfy/reasoner/Reason"), "[Lcom/example/satisfy/satisfy/reasoner/Reason;", [y0, y1, y2, y3, y4, y5, y6, y7]))), (con, (.inr (.int, "[I", [(.int x0), (.int x1), (.int x2), (.int x3), (.int x4), (.int x5), (.int x6), (.int x7)]))), (t, (.inl ("com/example/satisfy/satisfy/reasoner/Trail", [(("com/example/satisfy/satisfy/reasoner/Trail", "concepts", "[I"), (.ref con)), (("com/example/satisfy/satisfy/reasoner/Trail", "reasons", "[Lcom/example/satisfy/satisfy/reasoner/Reason;"), (.ref rea)), (("com/example/satisfy/satisfy/reasoner/Trail", "positions", "Lcom/example/satisfy/satisfy/reasoner/IntMap;"), (.ref m)), (("com/example/satisfy/satisfy/reasoner/Trail", "size", "I"), (.int 3))])))]) := by
  refine con_of (ls := [.val (.ref t), .val (.int p)]) (plainFor_of_name pn2) rfl ?_
  refine go_aload c6_0 rfl rfl ?_
  refine go_get (y := (⟨"com/example/satisfy/satisfy/reasoner/Trail", "truncate", "(I)V"⟩ : MethodName)) P0 (5) 3 c6_1 rfl rfl (t50 hw) ?_
  refine go_iload c6_4 rfl ?_
  refine go_icmp_le c6_5 (fun b5 => ?_) (fun b5 => ?_)
  · exact go_ret rfl c6_47 (by decide) (by decide) ⟨rfl, _, _, _, by omega, Rp, P0⟩
  · exact absurd b5 hp
set_option maxRecDepth 65536 in
set_option maxHeartbeats 4000000 in
theorem rm_tr4_0 (l : Launch) (Z : State) (a0 : Array Value) (hw : ∀ d ∈ tables_1, d.before a0 Z = true) (h0 : Heap) (n0 : Nat) (t m con rea : Addr) (x0 x1 x2 x3 x4 x5 x6 x7 : Int32) (y0 y1 y2 y3 y4 y5 y6 y7 : Value) (ka va : Addr) (b n : Nat) (ks vs : List Int32) (F : Int32 → Int32) (Rp : own_Rep b ks vs n F) (P0 : Hp Z n0 h0 [(m, (.inl ("com/example/satisfy/satisfy/reasoner/IntMap", [(("com/example/satisfy/satisfy/reasoner/IntMap", "bits", "I"), (.int (Int32.ofNat b))), (("com/example/satisfy/satisfy/reasoner/IntMap", "keys", "[I"), (.ref ka)), (("com/example/satisfy/satisfy/reasoner/IntMap", "values", "[I"), (.ref va)), (("com/example/satisfy/satisfy/reasoner/IntMap", "size", "I"), (.int (Int32.ofNat n)))]))), (ka, (own_ia ks)), (va, (own_ia vs)), (rea, (.inr ((.object "com/example/satisfy/satisfy/reasoner/Reason"), "[Lcom/example/satisfy/satisfy/reasoner/Reason;", [y0, y1, y2, y3, y4, y5, y6, y7]))), (con, (.inr (.int, "[I", [(.int x0), (.int x1), (.int x2), (.int x3), (.int x4), (.int x5), (.int x6), (.int x7)]))), (t, (.inl ("com/example/satisfy/satisfy/reasoner/Trail", [(("com/example/satisfy/satisfy/reasoner/Trail", "concepts", "[I"), (.ref con)), (("com/example/satisfy/satisfy/reasoner/Trail", "reasons", "[Lcom/example/satisfy/satisfy/reasoner/Reason;"), (.ref rea)), (("com/example/satisfy/satisfy/reasoner/Trail", "positions", "Lcom/example/satisfy/satisfy/reasoner/IntMap;"), (.ref m)), (("com/example/satisfy/satisfy/reasoner/Trail", "size", "I"), (.int 4))])))]) (hk_x0 : x0 ≠ -1) (hk_x1 : x1 ≠ -1) (hk_x2 : x2 ≠ -1) (hk_x3 : x3 ≠ -1) :
    Con false l Z (⟨"com/example/satisfy/satisfy/reasoner/Trail", "truncate", "(I)V"⟩ : MethodName) prog_91_method_8_code 2 none ({ frames := 3, cells := 0, slots := 0, locals := 45 } : Room) #[(.ref t), (.int 0)] h0 n0 (R0 fun h' => ∃ n' ks' vs', n' ≤ n ∧ own_Rep b ks' vs' n' (own_up (own_up (own_up (own_up F x3 (-1)) x2 (-1)) x1 (-1)) x0 (-1)) ∧ Hp Z n0 h' [(m, (.inl ("com/example/satisfy/satisfy/reasoner/IntMap", [(("com/example/satisfy/satisfy/reasoner/IntMap", "bits", "I"), (.int (Int32.ofNat b))), (("com/example/satisfy/satisfy/reasoner/IntMap", "keys", "[I"), (.ref ka)), (("com/example/satisfy/satisfy/reasoner/IntMap", "values", "[I"), (.ref va)), (("com/example/satisfy/satisfy/reasoner/IntMap", "size", "I"), (.int (Int32.ofNat n')))]))), (ka, (own_ia ks')), (va, (own_ia vs')), (rea, (.inr ((.object "com/example/satisfy/satisfy/reasoner/Reason"), "[Lcom/example/satisfy/satisfy/reasoner/Reason;", [.null, .null, .null, .null, y4, y5, y6, y7]))), (con, (.inr (.int, "[I", [(.int x0), (.int x1), (.int x2), (.int x3), (.int x4), (.int x5), (.int x6), (.int x7)]))), (t, (.inl ("com/example/satisfy/satisfy/reasoner/Trail", [(("com/example/satisfy/satisfy/reasoner/Trail", "concepts", "[I"), (.ref con)), (("com/example/satisfy/satisfy/reasoner/Trail", "reasons", "[Lcom/example/satisfy/satisfy/reasoner/Reason;"), (.ref rea)), (("com/example/satisfy/satisfy/reasoner/Trail", "positions", "Lcom/example/satisfy/satisfy/reasoner/IntMap;"), (.ref m)), (("com/example/satisfy/satisfy/reasoner/Trail", "size", "I"), (.int 0))])))]) := by
  refine con_of (ls := [.val (.ref t), .val (.int 0)]) (plainFor_of_name pn2) rfl ?_
  refine go_aload c6_0 rfl rfl ?_
  refine go_get (y := (⟨"com/example/satisfy/satisfy/reasoner/Trail", "truncate", "(I)V"⟩ : MethodName)) P0 (5) 3 c6_1 rfl rfl (t50 hw) ?_
  refine go_iload c6_4 rfl ?_
  refine go_icmp_le c6_5 (fun q => absurd q (by decide)) (fun _ => ?_)
  refine go_aload c6_8 rfl rfl ?_
  refine go_dup c6_9 rfl ?_
  refine go_get (y := (⟨"com/example/satisfy/satisfy/reasoner/Trail", "truncate", "(I)V"⟩ : MethodName)) P0 (5) 3 c6_10 rfl rfl (t50 hw) ?_
  refine go_push c6_13 ?_
  refine go_isub c6_14 ?_
  refine go_isI 3 (by decide) ?_
  refine go_put (y := (⟨"com/example/satisfy/satisfy/reasoner/Trail", "truncate", "(I)V"⟩ : MethodName)) P0 5 3 .int c6_15 rfl rfl (t50 hw) (Or.inl (t51 hw)) (t7 hw) (by decide) rfl rfl ?_
  intro h1 P2
  dsimp only [lupd] at P2
  refine go_aload c6_18 rfl rfl ?_
  refine go_get (y := (⟨"com/example/satisfy/satisfy/reasoner/Trail", "truncate", "(I)V"⟩ : MethodName)) P2 (5) 2 c6_19 rfl rfl (t43 hw) ?_
  refine go_aload c6_22 rfl rfl ?_
  refine go_get (y := (⟨"com/example/satisfy/satisfy/reasoner/Trail", "truncate", "(I)V"⟩ : MethodName)) P2 (5) 0 c6_23 rfl rfl (t16 hw) ?_
  refine go_aload c6_26 rfl rfl ?_
  refine go_get (y := (⟨"com/example/satisfy/satisfy/reasoner/Trail", "truncate", "(I)V"⟩ : MethodName)) P2 (5) 3 c6_27 rfl rfl (t50 hw) ?_
  refine go_ialoadH P2 (4) c6_30 rfl (by decide) rfl ?_
  refine go_callV0 (y := (⟨"com/example/satisfy/satisfy/reasoner/Trail", "truncate", "(I)V"⟩ : MethodName)) (W := 0) (argsL := [(.int x3)]) (st := []) c6_31 (rm_remove l Z a0 hw h1 n0 _ m x3 hk_x3 ka va b n ks vs F Rp P2) (P2.exa (i := 0) rfl) (t111 hw) (t112 hw) (fun _ q => notFace_of_selects (args := #[]) (mvT q (t114 hw))) (t114 hw) (t113 hw) (t24 hw) (t115 hw) (by decide) (lenOf pd2 rfl) rfl rfl (by decide) (by decide) (by decide) (by decide) rfl ?_
  rintro h3 ⟨n3, ks3, vs3, hle3, Rp3, P3⟩
  refine go_more (k' := 0) (n' := 0) (by decide) (by decide) ?_
  refine go_aload c6_34 rfl rfl ?_
  refine go_get (y := (⟨"com/example/satisfy/satisfy/reasoner/Trail", "truncate", "(I)V"⟩ : MethodName)) P3 (5) 1 c6_35 rfl rfl (t20 hw) ?_
  refine go_aload c6_38 rfl rfl ?_
  refine go_get (y := (⟨"com/example/satisfy/satisfy/reasoner/Trail", "truncate", "(I)V"⟩ : MethodName)) P3 (5) 3 c6_39 rfl rfl (t50 hw) ?_
  refine go_null c6_42 ?_
  refine go_aastoreH P3 3 c6_43 rfl rfl rfl (by decide) (Nat.le_of_ble_eq_true rfl) (Or.inl rfl) ?_
  intro h4 P5
  dsimp only [lupd] at P5
  refine go_goto c6_44 ?_
  refine go_aload c6_0 rfl rfl ?_
  refine go_get (y := (⟨"com/example/satisfy/satisfy/reasoner/Trail", "truncate", "(I)V"⟩ : MethodName)) P5 (5) 3 c6_1 rfl rfl (t50 hw) ?_
  refine go_iload c6_4 rfl ?_
  refine go_icmp_le c6_5 (fun q => absurd q (by decide)) (fun _ => ?_)
  refine go_aload c6_8 rfl rfl ?_
  refine go_dup c6_9 rfl ?_
  refine go_get (y := (⟨"com/example/satisfy/satisfy/reasoner/Trail", "truncate", "(I)V"⟩ : MethodName)) P5 (5) 3 c6_10 rfl rfl (t50 hw) ?_
  refine go_push c6_13 ?_
  refine go_isub c6_14 ?_
  refine go_isI 2 (by decide) ?_
  refine go_put (y := (⟨"com/example/satisfy/satisfy/reasoner/Trail", "truncate", "(I)V"⟩ : MethodName)) P5 5 3 .int c6_15 rfl rfl (t50 hw) (Or.inl (t51 hw)) (t7 hw) (by decide) rfl rfl ?_
  intro h6 P7
  dsimp only [lupd] at P7
  refine go_aload c6_18 rfl rfl ?_
  refine go_get (y := (⟨"com/example/satisfy/satisfy/reasoner/Trail", "truncate", "(I)V"⟩ : MethodName)) P7 (5) 2 c6_19 rfl rfl (t43 hw) ?_
  refine go_aload c6_22 rfl rfl ?_
  refine go_get (y := (⟨"com/example/satisfy/satisfy/reasoner/Trail", "truncate", "(I)V"⟩ : MethodName)) P7 (5) 0 c6_23 rfl rfl (t16 hw) ?_
  refine go_aload c6_26 rfl rfl ?_
  refine go_get (y := (⟨"com/example/satisfy/satisfy/reasoner/Trail", "truncate", "(I)V"⟩ : MethodName)) P7 (5) 3 c6_27 rfl rfl (t50 hw) ?_
  refine go_ialoadH P7 (4) c6_30 rfl (by decide) rfl ?_
  refine go_callV0 (y := (⟨"com/example/satisfy/satisfy/reasoner/Trail", "truncate", "(I)V"⟩ : MethodName)) (W := 0) (argsL := [(.int x2)]) (st := []) c6_31 (rm_remove l Z a0 hw h6 n0 _ m x2 hk_x2 ka va b n3 ks3 vs3 (own_up F x3 (-1)) Rp3 P7) (P7.exa (i := 0) rfl) (t111 hw) (t112 hw) (fun _ q => notFace_of_selects (args := #[]) (mvT q (t114 hw))) (t114 hw) (t113 hw) (t24 hw) (t115 hw) (by decide) (lenOf pd2 rfl) rfl rfl (by decide) (by decide) (by decide) (by decide) rfl ?_
  rintro h8 ⟨n8, ks8, vs8, hle8, Rp8, P8⟩
  refine go_more (k' := 0) (n' := 0) (by decide) (by decide) ?_
  refine go_aload c6_34 rfl rfl ?_
  refine go_get (y := (⟨"com/example/satisfy/satisfy/reasoner/Trail", "truncate", "(I)V"⟩ : MethodName)) P8 (5) 1 c6_35 rfl rfl (t20 hw) ?_
  refine go_aload c6_38 rfl rfl ?_
  refine go_get (y := (⟨"com/example/satisfy/satisfy/reasoner/Trail", "truncate", "(I)V"⟩ : MethodName)) P8 (5) 3 c6_39 rfl rfl (t50 hw) ?_
  refine go_null c6_42 ?_
  refine go_aastoreH P8 3 c6_43 rfl rfl rfl (by decide) (Nat.le_of_ble_eq_true rfl) (Or.inl rfl) ?_
  intro h9 P10
  dsimp only [lupd] at P10
  refine go_goto c6_44 ?_
  refine go_aload c6_0 rfl rfl ?_
  refine go_get (y := (⟨"com/example/satisfy/satisfy/reasoner/Trail", "truncate", "(I)V"⟩ : MethodName)) P10 (5) 3 c6_1 rfl rfl (t50 hw) ?_
  refine go_iload c6_4 rfl ?_
  refine go_icmp_le c6_5 (fun q => absurd q (by decide)) (fun _ => ?_)
  refine go_aload c6_8 rfl rfl ?_
  refine go_dup c6_9 rfl ?_
  refine go_get (y := (⟨"com/example/satisfy/satisfy/reasoner/Trail", "truncate", "(I)V"⟩ : MethodName)) P10 (5) 3 c6_10 rfl rfl (t50 hw) ?_
  refine go_push c6_13 ?_
  refine go_isub c6_14 ?_
  refine go_isI 1 (by decide) ?_
  refine go_put (y := (⟨"com/example/satisfy/satisfy/reasoner/Trail", "truncate", "(I)V"⟩ : MethodName)) P10 5 3 .int c6_15 rfl rfl (t50 hw) (Or.inl (t51 hw)) (t7 hw) (by decide) rfl rfl ?_
  intro h11 P12
  dsimp only [lupd] at P12
  refine go_aload c6_18 rfl rfl ?_
  refine go_get (y := (⟨"com/example/satisfy/satisfy/reasoner/Trail", "truncate", "(I)V"⟩ : MethodName)) P12 (5) 2 c6_19 rfl rfl (t43 hw) ?_
  refine go_aload c6_22 rfl rfl ?_
  refine go_get (y := (⟨"com/example/satisfy/satisfy/reasoner/Trail", "truncate", "(I)V"⟩ : MethodName)) P12 (5) 0 c6_23 rfl rfl (t16 hw) ?_
  refine go_aload c6_26 rfl rfl ?_
  refine go_get (y := (⟨"com/example/satisfy/satisfy/reasoner/Trail", "truncate", "(I)V"⟩ : MethodName)) P12 (5) 3 c6_27 rfl rfl (t50 hw) ?_
  refine go_ialoadH P12 (4) c6_30 rfl (by decide) rfl ?_
  refine go_callV0 (y := (⟨"com/example/satisfy/satisfy/reasoner/Trail", "truncate", "(I)V"⟩ : MethodName)) (W := 0) (argsL := [(.int x1)]) (st := []) c6_31 (rm_remove l Z a0 hw h11 n0 _ m x1 hk_x1 ka va b n8 ks8 vs8 (own_up (own_up F x3 (-1)) x2 (-1)) Rp8 P12) (P12.exa (i := 0) rfl) (t111 hw) (t112 hw) (fun _ q => notFace_of_selects (args := #[]) (mvT q (t114 hw))) (t114 hw) (t113 hw) (t24 hw) (t115 hw) (by decide) (lenOf pd2 rfl) rfl rfl (by decide) (by decide) (by decide) (by decide) rfl ?_
  rintro h13 ⟨n13, ks13, vs13, hle13, Rp13, P13⟩
  refine go_more (k' := 0) (n' := 0) (by decide) (by decide) ?_
  refine go_aload c6_34 rfl rfl ?_
  refine go_get (y := (⟨"com/example/satisfy/satisfy/reasoner/Trail", "truncate", "(I)V"⟩ : MethodName)) P13 (5) 1 c6_35 rfl rfl (t20 hw) ?_
  refine go_aload c6_38 rfl rfl ?_
  refine go_get (y := (⟨"com/example/satisfy/satisfy/reasoner/Trail", "truncate", "(I)V"⟩ : MethodName)) P13 (5) 3 c6_39 rfl rfl (t50 hw) ?_
  refine go_null c6_42 ?_
  refine go_aastoreH P13 3 c6_43 rfl rfl rfl (by decide) (Nat.le_of_ble_eq_true rfl) (Or.inl rfl) ?_
  intro h14 P15
  dsimp only [lupd] at P15
  refine go_goto c6_44 ?_
  refine go_aload c6_0 rfl rfl ?_
  refine go_get (y := (⟨"com/example/satisfy/satisfy/reasoner/Trail", "truncate", "(I)V"⟩ : MethodName)) P15 (5) 3 c6_1 rfl rfl (t50 hw) ?_
  refine go_iload c6_4 rfl ?_
  refine go_icmp_le c6_5 (fun q => absurd q (by decide)) (fun _ => ?_)
  refine go_aload c6_8 rfl rfl ?_
  refine go_dup c6_9 rfl ?_
  refine go_get (y := (⟨"com/example/satisfy/satisfy/reasoner/Trail", "truncate", "(I)V"⟩ : MethodName)) P15 (5) 3 c6_10 rfl rfl (t50 hw) ?_
  refine go_push c6_13 ?_
  refine go_isub c6_14 ?_
  refine go_isI 0 (by decide) ?_
  refine go_put (y := (⟨"com/example/satisfy/satisfy/reasoner/Trail", "truncate", "(I)V"⟩ : MethodName)) P15 5 3 .int c6_15 rfl rfl (t50 hw) (Or.inl (t51 hw)) (t7 hw) (by decide) rfl rfl ?_
  intro h16 P17
  dsimp only [lupd] at P17
  refine go_aload c6_18 rfl rfl ?_
  refine go_get (y := (⟨"com/example/satisfy/satisfy/reasoner/Trail", "truncate", "(I)V"⟩ : MethodName)) P17 (5) 2 c6_19 rfl rfl (t43 hw) ?_
  refine go_aload c6_22 rfl rfl ?_
  refine go_get (y := (⟨"com/example/satisfy/satisfy/reasoner/Trail", "truncate", "(I)V"⟩ : MethodName)) P17 (5) 0 c6_23 rfl rfl (t16 hw) ?_
  refine go_aload c6_26 rfl rfl ?_
  refine go_get (y := (⟨"com/example/satisfy/satisfy/reasoner/Trail", "truncate", "(I)V"⟩ : MethodName)) P17 (5) 3 c6_27 rfl rfl (t50 hw) ?_
  refine go_ialoadH P17 (4) c6_30 rfl (by decide) rfl ?_
  refine go_callV0 (y := (⟨"com/example/satisfy/satisfy/reasoner/Trail", "truncate", "(I)V"⟩ : MethodName)) (W := 0) (argsL := [(.int x0)]) (st := []) c6_31 (rm_remove l Z a0 hw h16 n0 _ m x0 hk_x0 ka va b n13 ks13 vs13 (own_up (own_up (own_up F x3 (-1)) x2 (-1)) x1 (-1)) Rp13 P17) (P17.exa (i := 0) rfl) (t111 hw) (t112 hw) (fun _ q => notFace_of_selects (args := #[]) (mvT q (t114 hw))) (t114 hw) (t113 hw) (t24 hw) (t115 hw) (by decide) (lenOf pd2 rfl) rfl rfl (by decide) (by decide) (by decide) (by decide) rfl ?_
  rintro h18 ⟨n18, ks18, vs18, hle18, Rp18, P18⟩
  refine go_more (k' := 0) (n' := 0) (by decide) (by decide) ?_
  refine go_aload c6_34 rfl rfl ?_
  refine go_get (y := (⟨"com/example/satisfy/satisfy/reasoner/Trail", "truncate", "(I)V"⟩ : MethodName)) P18 (5) 1 c6_35 rfl rfl (t20 hw) ?_
  refine go_aload c6_38 rfl rfl ?_
  refine go_get (y := (⟨"com/example/satisfy/satisfy/reasoner/Trail", "truncate", "(I)V"⟩ : MethodName)) P18 (5) 3 c6_39 rfl rfl (t50 hw) ?_
  refine go_null c6_42 ?_
  refine go_aastoreH P18 3 c6_43 rfl rfl rfl (by decide) (Nat.le_of_ble_eq_true rfl) (Or.inl rfl) ?_
  intro h19 P20
  dsimp only [lupd] at P20
  refine go_goto c6_44 ?_
  refine go_aload c6_0 rfl rfl ?_
  refine go_get (y := (⟨"com/example/satisfy/satisfy/reasoner/Trail", "truncate", "(I)V"⟩ : MethodName)) P20 (5) 3 c6_1 rfl rfl (t50 hw) ?_
  refine go_iload c6_4 rfl ?_
  refine go_icmp_le c6_5 (fun _ => ?_) (fun q => absurd q (by decide))
  exact go_ret rfl c6_47 (by decide) (by decide) ⟨rfl, _, _, _, by omega, Rp18, P20⟩
set_option maxRecDepth 65536 in
set_option maxHeartbeats 4000000 in
theorem rm_tr4_1 (l : Launch) (Z : State) (a0 : Array Value) (hw : ∀ d ∈ tables_1, d.before a0 Z = true) (h0 : Heap) (n0 : Nat) (t m con rea : Addr) (x0 x1 x2 x3 x4 x5 x6 x7 : Int32) (y0 y1 y2 y3 y4 y5 y6 y7 : Value) (ka va : Addr) (b n : Nat) (ks vs : List Int32) (F : Int32 → Int32) (Rp : own_Rep b ks vs n F) (P0 : Hp Z n0 h0 [(m, (.inl ("com/example/satisfy/satisfy/reasoner/IntMap", [(("com/example/satisfy/satisfy/reasoner/IntMap", "bits", "I"), (.int (Int32.ofNat b))), (("com/example/satisfy/satisfy/reasoner/IntMap", "keys", "[I"), (.ref ka)), (("com/example/satisfy/satisfy/reasoner/IntMap", "values", "[I"), (.ref va)), (("com/example/satisfy/satisfy/reasoner/IntMap", "size", "I"), (.int (Int32.ofNat n)))]))), (ka, (own_ia ks)), (va, (own_ia vs)), (rea, (.inr ((.object "com/example/satisfy/satisfy/reasoner/Reason"), "[Lcom/example/satisfy/satisfy/reasoner/Reason;", [y0, y1, y2, y3, y4, y5, y6, y7]))), (con, (.inr (.int, "[I", [(.int x0), (.int x1), (.int x2), (.int x3), (.int x4), (.int x5), (.int x6), (.int x7)]))), (t, (.inl ("com/example/satisfy/satisfy/reasoner/Trail", [(("com/example/satisfy/satisfy/reasoner/Trail", "concepts", "[I"), (.ref con)), (("com/example/satisfy/satisfy/reasoner/Trail", "reasons", "[Lcom/example/satisfy/satisfy/reasoner/Reason;"), (.ref rea)), (("com/example/satisfy/satisfy/reasoner/Trail", "positions", "Lcom/example/satisfy/satisfy/reasoner/IntMap;"), (.ref m)), (("com/example/satisfy/satisfy/reasoner/Trail", "size", "I"), (.int 4))])))]) (hk_x1 : x1 ≠ -1) (hk_x2 : x2 ≠ -1) (hk_x3 : x3 ≠ -1) :
    Con false l Z (⟨"com/example/satisfy/satisfy/reasoner/Trail", "truncate", "(I)V"⟩ : MethodName) prog_91_method_8_code 2 none ({ frames := 3, cells := 0, slots := 0, locals := 45 } : Room) #[(.ref t), (.int 1)] h0 n0 (R0 fun h' => ∃ n' ks' vs', n' ≤ n ∧ own_Rep b ks' vs' n' (own_up (own_up (own_up F x3 (-1)) x2 (-1)) x1 (-1)) ∧ Hp Z n0 h' [(m, (.inl ("com/example/satisfy/satisfy/reasoner/IntMap", [(("com/example/satisfy/satisfy/reasoner/IntMap", "bits", "I"), (.int (Int32.ofNat b))), (("com/example/satisfy/satisfy/reasoner/IntMap", "keys", "[I"), (.ref ka)), (("com/example/satisfy/satisfy/reasoner/IntMap", "values", "[I"), (.ref va)), (("com/example/satisfy/satisfy/reasoner/IntMap", "size", "I"), (.int (Int32.ofNat n')))]))), (ka, (own_ia ks')), (va, (own_ia vs')), (rea, (.inr ((.object "com/example/satisfy/satisfy/reasoner/Reason"), "[Lcom/example/satisfy/satisfy/reasoner/Reason;", [y0, .null, .null, .null, y4, y5, y6, y7]))), (con, (.inr (.int, "[I", [(.int x0), (.int x1), (.int x2), (.int x3), (.int x4), (.int x5), (.int x6), (.int x7)]))), (t, (.inl ("com/example/satisfy/satisfy/reasoner/Trail", [(("com/example/satisfy/satisfy/reasoner/Trail", "concepts", "[I"), (.ref con)), (("com/example/satisfy/satisfy/reasoner/Trail", "reasons", "[Lcom/example/satisfy/satisfy/reasoner/Reason;"), (.ref rea)), (("com/example/satisfy/satisfy/reasoner/Trail", "positions", "Lcom/example/satisfy/satisfy/reasoner/IntMap;"), (.ref m)), (("com/example/satisfy/satisfy/reasoner/Trail", "size", "I"), (.int 1))])))]) := by
  refine con_of (ls := [.val (.ref t), .val (.int 1)]) (plainFor_of_name pn2) rfl ?_
  refine go_aload c6_0 rfl rfl ?_
  refine go_get (y := (⟨"com/example/satisfy/satisfy/reasoner/Trail", "truncate", "(I)V"⟩ : MethodName)) P0 (5) 3 c6_1 rfl rfl (t50 hw) ?_
  refine go_iload c6_4 rfl ?_
  refine go_icmp_le c6_5 (fun q => absurd q (by decide)) (fun _ => ?_)
  refine go_aload c6_8 rfl rfl ?_
  refine go_dup c6_9 rfl ?_
  refine go_get (y := (⟨"com/example/satisfy/satisfy/reasoner/Trail", "truncate", "(I)V"⟩ : MethodName)) P0 (5) 3 c6_10 rfl rfl (t50 hw) ?_
  refine go_push c6_13 ?_
  refine go_isub c6_14 ?_
  refine go_isI 3 (by decide) ?_
  refine go_put (y := (⟨"com/example/satisfy/satisfy/reasoner/Trail", "truncate", "(I)V"⟩ : MethodName)) P0 5 3 .int c6_15 rfl rfl (t50 hw) (Or.inl (t51 hw)) (t7 hw) (by decide) rfl rfl ?_
  intro h1 P2
  dsimp only [lupd] at P2
  refine go_aload c6_18 rfl rfl ?_
  refine go_get (y := (⟨"com/example/satisfy/satisfy/reasoner/Trail", "truncate", "(I)V"⟩ : MethodName)) P2 (5) 2 c6_19 rfl rfl (t43 hw) ?_
  refine go_aload c6_22 rfl rfl ?_
  refine go_get (y := (⟨"com/example/satisfy/satisfy/reasoner/Trail", "truncate", "(I)V"⟩ : MethodName)) P2 (5) 0 c6_23 rfl rfl (t16 hw) ?_
  refine go_aload c6_26 rfl rfl ?_
  refine go_get (y := (⟨"com/example/satisfy/satisfy/reasoner/Trail", "truncate", "(I)V"⟩ : MethodName)) P2 (5) 3 c6_27 rfl rfl (t50 hw) ?_
  refine go_ialoadH P2 (4) c6_30 rfl (by decide) rfl ?_
  refine go_callV0 (y := (⟨"com/example/satisfy/satisfy/reasoner/Trail", "truncate", "(I)V"⟩ : MethodName)) (W := 0) (argsL := [(.int x3)]) (st := []) c6_31 (rm_remove l Z a0 hw h1 n0 _ m x3 hk_x3 ka va b n ks vs F Rp P2) (P2.exa (i := 0) rfl) (t111 hw) (t112 hw) (fun _ q => notFace_of_selects (args := #[]) (mvT q (t114 hw))) (t114 hw) (t113 hw) (t24 hw) (t115 hw) (by decide) (lenOf pd2 rfl) rfl rfl (by decide) (by decide) (by decide) (by decide) rfl ?_
  rintro h3 ⟨n3, ks3, vs3, hle3, Rp3, P3⟩
  refine go_more (k' := 0) (n' := 0) (by decide) (by decide) ?_
  refine go_aload c6_34 rfl rfl ?_
  refine go_get (y := (⟨"com/example/satisfy/satisfy/reasoner/Trail", "truncate", "(I)V"⟩ : MethodName)) P3 (5) 1 c6_35 rfl rfl (t20 hw) ?_
  refine go_aload c6_38 rfl rfl ?_
  refine go_get (y := (⟨"com/example/satisfy/satisfy/reasoner/Trail", "truncate", "(I)V"⟩ : MethodName)) P3 (5) 3 c6_39 rfl rfl (t50 hw) ?_
  refine go_null c6_42 ?_
  refine go_aastoreH P3 3 c6_43 rfl rfl rfl (by decide) (Nat.le_of_ble_eq_true rfl) (Or.inl rfl) ?_
  intro h4 P5
  dsimp only [lupd] at P5
  refine go_goto c6_44 ?_
  refine go_aload c6_0 rfl rfl ?_
  refine go_get (y := (⟨"com/example/satisfy/satisfy/reasoner/Trail", "truncate", "(I)V"⟩ : MethodName)) P5 (5) 3 c6_1 rfl rfl (t50 hw) ?_
  refine go_iload c6_4 rfl ?_
  refine go_icmp_le c6_5 (fun q => absurd q (by decide)) (fun _ => ?_)
  refine go_aload c6_8 rfl rfl ?_
  refine go_dup c6_9 rfl ?_
  refine go_get (y := (⟨"com/example/satisfy/satisfy/reasoner/Trail", "truncate", "(I)V"⟩ : MethodName)) P5 (5) 3 c6_10 rfl rfl (t50 hw) ?_
  refine go_push c6_13 ?_
  refine go_isub c6_14 ?_
  refine go_isI 2 (by decide) ?_
  refine go_put (y := (⟨"com/example/satisfy/satisfy/reasoner/Trail", "truncate", "(I)V"⟩ : MethodName)) P5 5 3 .int c6_15 rfl rfl (t50 hw) (Or.inl (t51 hw)) (t7 hw) (by decide) rfl rfl ?_
  intro h6 P7
  dsimp only [lupd] at P7
  refine go_aload c6_18 rfl rfl ?_
  refine go_get (y := (⟨"com/example/satisfy/satisfy/reasoner/Trail", "truncate", "(I)V"⟩ : MethodName)) P7 (5) 2 c6_19 rfl rfl (t43 hw) ?_
  refine go_aload c6_22 rfl rfl ?_
  refine go_get (y := (⟨"com/example/satisfy/satisfy/reasoner/Trail", "truncate", "(I)V"⟩ : MethodName)) P7 (5) 0 c6_23 rfl rfl (t16 hw) ?_
  refine go_aload c6_26 rfl rfl ?_
  refine go_get (y := (⟨"com/example/satisfy/satisfy/reasoner/Trail", "truncate", "(I)V"⟩ : MethodName)) P7 (5) 3 c6_27 rfl rfl (t50 hw) ?_
  refine go_ialoadH P7 (4) c6_30 rfl (by decide) rfl ?_
  refine go_callV0 (y := (⟨"com/example/satisfy/satisfy/reasoner/Trail", "truncate", "(I)V"⟩ : MethodName)) (W := 0) (argsL := [(.int x2)]) (st := []) c6_31 (rm_remove l Z a0 hw h6 n0 _ m x2 hk_x2 ka va b n3 ks3 vs3 (own_up F x3 (-1)) Rp3 P7) (P7.exa (i := 0) rfl) (t111 hw) (t112 hw) (fun _ q => notFace_of_selects (args := #[]) (mvT q (t114 hw))) (t114 hw) (t113 hw) (t24 hw) (t115 hw) (by decide) (lenOf pd2 rfl) rfl rfl (by decide) (by decide) (by decide) (by decide) rfl ?_
  rintro h8 ⟨n8, ks8, vs8, hle8, Rp8, P8⟩
  refine go_more (k' := 0) (n' := 0) (by decide) (by decide) ?_
  refine go_aload c6_34 rfl rfl ?_
  refine go_get (y := (⟨"com/example/satisfy/satisfy/reasoner/Trail", "truncate", "(I)V"⟩ : MethodName)) P8 (5) 1 c6_35 rfl rfl (t20 hw) ?_
  refine go_aload c6_38 rfl rfl ?_
  refine go_get (y := (⟨"com/example/satisfy/satisfy/reasoner/Trail", "truncate", "(I)V"⟩ : MethodName)) P8 (5) 3 c6_39 rfl rfl (t50 hw) ?_
  refine go_null c6_42 ?_
  refine go_aastoreH P8 3 c6_43 rfl rfl rfl (by decide) (Nat.le_of_ble_eq_true rfl) (Or.inl rfl) ?_
  intro h9 P10
  dsimp only [lupd] at P10
  refine go_goto c6_44 ?_
  refine go_aload c6_0 rfl rfl ?_
  refine go_get (y := (⟨"com/example/satisfy/satisfy/reasoner/Trail", "truncate", "(I)V"⟩ : MethodName)) P10 (5) 3 c6_1 rfl rfl (t50 hw) ?_
  refine go_iload c6_4 rfl ?_
  refine go_icmp_le c6_5 (fun q => absurd q (by decide)) (fun _ => ?_)
  refine go_aload c6_8 rfl rfl ?_
  refine go_dup c6_9 rfl ?_
  refine go_get (y := (⟨"com/example/satisfy/satisfy/reasoner/Trail", "truncate", "(I)V"⟩ : MethodName)) P10 (5) 3 c6_10 rfl rfl (t50 hw) ?_
  refine go_push c6_13 ?_
  refine go_isub c6_14 ?_
  refine go_isI 1 (by decide) ?_
  refine go_put (y := (⟨"com/example/satisfy/satisfy/reasoner/Trail", "truncate", "(I)V"⟩ : MethodName)) P10 5 3 .int c6_15 rfl rfl (t50 hw) (Or.inl (t51 hw)) (t7 hw) (by decide) rfl rfl ?_
  intro h11 P12
  dsimp only [lupd] at P12
  refine go_aload c6_18 rfl rfl ?_
  refine go_get (y := (⟨"com/example/satisfy/satisfy/reasoner/Trail", "truncate", "(I)V"⟩ : MethodName)) P12 (5) 2 c6_19 rfl rfl (t43 hw) ?_
  refine go_aload c6_22 rfl rfl ?_
  refine go_get (y := (⟨"com/example/satisfy/satisfy/reasoner/Trail", "truncate", "(I)V"⟩ : MethodName)) P12 (5) 0 c6_23 rfl rfl (t16 hw) ?_
  refine go_aload c6_26 rfl rfl ?_
  refine go_get (y := (⟨"com/example/satisfy/satisfy/reasoner/Trail", "truncate", "(I)V"⟩ : MethodName)) P12 (5) 3 c6_27 rfl rfl (t50 hw) ?_
  refine go_ialoadH P12 (4) c6_30 rfl (by decide) rfl ?_
  refine go_callV0 (y := (⟨"com/example/satisfy/satisfy/reasoner/Trail", "truncate", "(I)V"⟩ : MethodName)) (W := 0) (argsL := [(.int x1)]) (st := []) c6_31 (rm_remove l Z a0 hw h11 n0 _ m x1 hk_x1 ka va b n8 ks8 vs8 (own_up (own_up F x3 (-1)) x2 (-1)) Rp8 P12) (P12.exa (i := 0) rfl) (t111 hw) (t112 hw) (fun _ q => notFace_of_selects (args := #[]) (mvT q (t114 hw))) (t114 hw) (t113 hw) (t24 hw) (t115 hw) (by decide) (lenOf pd2 rfl) rfl rfl (by decide) (by decide) (by decide) (by decide) rfl ?_
  rintro h13 ⟨n13, ks13, vs13, hle13, Rp13, P13⟩
  refine go_more (k' := 0) (n' := 0) (by decide) (by decide) ?_
  refine go_aload c6_34 rfl rfl ?_
  refine go_get (y := (⟨"com/example/satisfy/satisfy/reasoner/Trail", "truncate", "(I)V"⟩ : MethodName)) P13 (5) 1 c6_35 rfl rfl (t20 hw) ?_
  refine go_aload c6_38 rfl rfl ?_
  refine go_get (y := (⟨"com/example/satisfy/satisfy/reasoner/Trail", "truncate", "(I)V"⟩ : MethodName)) P13 (5) 3 c6_39 rfl rfl (t50 hw) ?_
  refine go_null c6_42 ?_
  refine go_aastoreH P13 3 c6_43 rfl rfl rfl (by decide) (Nat.le_of_ble_eq_true rfl) (Or.inl rfl) ?_
  intro h14 P15
  dsimp only [lupd] at P15
  refine go_goto c6_44 ?_
  refine go_aload c6_0 rfl rfl ?_
  refine go_get (y := (⟨"com/example/satisfy/satisfy/reasoner/Trail", "truncate", "(I)V"⟩ : MethodName)) P15 (5) 3 c6_1 rfl rfl (t50 hw) ?_
  refine go_iload c6_4 rfl ?_
  refine go_icmp_le c6_5 (fun _ => ?_) (fun q => absurd q (by decide))
  exact go_ret rfl c6_47 (by decide) (by decide) ⟨rfl, _, _, _, by omega, Rp13, P15⟩
set_option maxRecDepth 65536 in
set_option maxHeartbeats 4000000 in
theorem rm_tr4_2 (l : Launch) (Z : State) (a0 : Array Value) (hw : ∀ d ∈ tables_1, d.before a0 Z = true) (h0 : Heap) (n0 : Nat) (t m con rea : Addr) (x0 x1 x2 x3 x4 x5 x6 x7 : Int32) (y0 y1 y2 y3 y4 y5 y6 y7 : Value) (ka va : Addr) (b n : Nat) (ks vs : List Int32) (F : Int32 → Int32) (Rp : own_Rep b ks vs n F) (P0 : Hp Z n0 h0 [(m, (.inl ("com/example/satisfy/satisfy/reasoner/IntMap", [(("com/example/satisfy/satisfy/reasoner/IntMap", "bits", "I"), (.int (Int32.ofNat b))), (("com/example/satisfy/satisfy/reasoner/IntMap", "keys", "[I"), (.ref ka)), (("com/example/satisfy/satisfy/reasoner/IntMap", "values", "[I"), (.ref va)), (("com/example/satisfy/satisfy/reasoner/IntMap", "size", "I"), (.int (Int32.ofNat n)))]))), (ka, (own_ia ks)), (va, (own_ia vs)), (rea, (.inr ((.object "com/example/satisfy/satisfy/reasoner/Reason"), "[Lcom/example/satisfy/satisfy/reasoner/Reason;", [y0, y1, y2, y3, y4, y5, y6, y7]))), (con, (.inr (.int, "[I", [(.int x0), (.int x1), (.int x2), (.int x3), (.int x4), (.int x5), (.int x6), (.int x7)]))), (t, (.inl ("com/example/satisfy/satisfy/reasoner/Trail", [(("com/example/satisfy/satisfy/reasoner/Trail", "concepts", "[I"), (.ref con)), (("com/example/satisfy/satisfy/reasoner/Trail", "reasons", "[Lcom/example/satisfy/satisfy/reasoner/Reason;"), (.ref rea)), (("com/example/satisfy/satisfy/reasoner/Trail", "positions", "Lcom/example/satisfy/satisfy/reasoner/IntMap;"), (.ref m)), (("com/example/satisfy/satisfy/reasoner/Trail", "size", "I"), (.int 4))])))]) (hk_x2 : x2 ≠ -1) (hk_x3 : x3 ≠ -1) :
    Con false l Z (⟨"com/example/satisfy/satisfy/reasoner/Trail", "truncate", "(I)V"⟩ : MethodName) prog_91_method_8_code 2 none ({ frames := 3, cells := 0, slots := 0, locals := 45 } : Room) #[(.ref t), (.int 2)] h0 n0 (R0 fun h' => ∃ n' ks' vs', n' ≤ n ∧ own_Rep b ks' vs' n' (own_up (own_up F x3 (-1)) x2 (-1)) ∧ Hp Z n0 h' [(m, (.inl ("com/example/satisfy/satisfy/reasoner/IntMap", [(("com/example/satisfy/satisfy/reasoner/IntMap", "bits", "I"), (.int (Int32.ofNat b))), (("com/example/satisfy/satisfy/reasoner/IntMap", "keys", "[I"), (.ref ka)), (("com/example/satisfy/satisfy/reasoner/IntMap", "values", "[I"), (.ref va)), (("com/example/satisfy/satisfy/reasoner/IntMap", "size", "I"), (.int (Int32.ofNat n')))]))), (ka, (own_ia ks')), (va, (own_ia vs')), (rea, (.inr ((.object "com/example/satisfy/satisfy/reasoner/Reason"), "[Lcom/example/satisfy/satisfy/reasoner/Reason;", [y0, y1, .null, .null, y4, y5, y6, y7]))), (con, (.inr (.int, "[I", [(.int x0), (.int x1), (.int x2), (.int x3), (.int x4), (.int x5), (.int x6), (.int x7)]))), (t, (.inl ("com/example/satisfy/satisfy/reasoner/Trail", [(("com/example/satisfy/satisfy/reasoner/Trail", "concepts", "[I"), (.ref con)), (("com/example/satisfy/satisfy/reasoner/Trail", "reasons", "[Lcom/example/satisfy/satisfy/reasoner/Reason;"), (.ref rea)), (("com/example/satisfy/satisfy/reasoner/Trail", "positions", "Lcom/example/satisfy/satisfy/reasoner/IntMap;"), (.ref m)), (("com/example/satisfy/satisfy/reasoner/Trail", "size", "I"), (.int 2))])))]) := by
  refine con_of (ls := [.val (.ref t), .val (.int 2)]) (plainFor_of_name pn2) rfl ?_
  refine go_aload c6_0 rfl rfl ?_
  refine go_get (y := (⟨"com/example/satisfy/satisfy/reasoner/Trail", "truncate", "(I)V"⟩ : MethodName)) P0 (5) 3 c6_1 rfl rfl (t50 hw) ?_
  refine go_iload c6_4 rfl ?_
  refine go_icmp_le c6_5 (fun q => absurd q (by decide)) (fun _ => ?_)
  refine go_aload c6_8 rfl rfl ?_
  refine go_dup c6_9 rfl ?_
  refine go_get (y := (⟨"com/example/satisfy/satisfy/reasoner/Trail", "truncate", "(I)V"⟩ : MethodName)) P0 (5) 3 c6_10 rfl rfl (t50 hw) ?_
  refine go_push c6_13 ?_
  refine go_isub c6_14 ?_
  refine go_isI 3 (by decide) ?_
  refine go_put (y := (⟨"com/example/satisfy/satisfy/reasoner/Trail", "truncate", "(I)V"⟩ : MethodName)) P0 5 3 .int c6_15 rfl rfl (t50 hw) (Or.inl (t51 hw)) (t7 hw) (by decide) rfl rfl ?_
  intro h1 P2
  dsimp only [lupd] at P2
  refine go_aload c6_18 rfl rfl ?_
  refine go_get (y := (⟨"com/example/satisfy/satisfy/reasoner/Trail", "truncate", "(I)V"⟩ : MethodName)) P2 (5) 2 c6_19 rfl rfl (t43 hw) ?_
  refine go_aload c6_22 rfl rfl ?_
  refine go_get (y := (⟨"com/example/satisfy/satisfy/reasoner/Trail", "truncate", "(I)V"⟩ : MethodName)) P2 (5) 0 c6_23 rfl rfl (t16 hw) ?_
  refine go_aload c6_26 rfl rfl ?_
  refine go_get (y := (⟨"com/example/satisfy/satisfy/reasoner/Trail", "truncate", "(I)V"⟩ : MethodName)) P2 (5) 3 c6_27 rfl rfl (t50 hw) ?_
  refine go_ialoadH P2 (4) c6_30 rfl (by decide) rfl ?_
  refine go_callV0 (y := (⟨"com/example/satisfy/satisfy/reasoner/Trail", "truncate", "(I)V"⟩ : MethodName)) (W := 0) (argsL := [(.int x3)]) (st := []) c6_31 (rm_remove l Z a0 hw h1 n0 _ m x3 hk_x3 ka va b n ks vs F Rp P2) (P2.exa (i := 0) rfl) (t111 hw) (t112 hw) (fun _ q => notFace_of_selects (args := #[]) (mvT q (t114 hw))) (t114 hw) (t113 hw) (t24 hw) (t115 hw) (by decide) (lenOf pd2 rfl) rfl rfl (by decide) (by decide) (by decide) (by decide) rfl ?_
  rintro h3 ⟨n3, ks3, vs3, hle3, Rp3, P3⟩
  refine go_more (k' := 0) (n' := 0) (by decide) (by decide) ?_
  refine go_aload c6_34 rfl rfl ?_
  refine go_get (y := (⟨"com/example/satisfy/satisfy/reasoner/Trail", "truncate", "(I)V"⟩ : MethodName)) P3 (5) 1 c6_35 rfl rfl (t20 hw) ?_
  refine go_aload c6_38 rfl rfl ?_
  refine go_get (y := (⟨"com/example/satisfy/satisfy/reasoner/Trail", "truncate", "(I)V"⟩ : MethodName)) P3 (5) 3 c6_39 rfl rfl (t50 hw) ?_
  refine go_null c6_42 ?_
  refine go_aastoreH P3 3 c6_43 rfl rfl rfl (by decide) (Nat.le_of_ble_eq_true rfl) (Or.inl rfl) ?_
  intro h4 P5
  dsimp only [lupd] at P5
  refine go_goto c6_44 ?_
  refine go_aload c6_0 rfl rfl ?_
  refine go_get (y := (⟨"com/example/satisfy/satisfy/reasoner/Trail", "truncate", "(I)V"⟩ : MethodName)) P5 (5) 3 c6_1 rfl rfl (t50 hw) ?_
  refine go_iload c6_4 rfl ?_
  refine go_icmp_le c6_5 (fun q => absurd q (by decide)) (fun _ => ?_)
  refine go_aload c6_8 rfl rfl ?_
  refine go_dup c6_9 rfl ?_
  refine go_get (y := (⟨"com/example/satisfy/satisfy/reasoner/Trail", "truncate", "(I)V"⟩ : MethodName)) P5 (5) 3 c6_10 rfl rfl (t50 hw) ?_
  refine go_push c6_13 ?_
  refine go_isub c6_14 ?_
  refine go_isI 2 (by decide) ?_
  refine go_put (y := (⟨"com/example/satisfy/satisfy/reasoner/Trail", "truncate", "(I)V"⟩ : MethodName)) P5 5 3 .int c6_15 rfl rfl (t50 hw) (Or.inl (t51 hw)) (t7 hw) (by decide) rfl rfl ?_
  intro h6 P7
  dsimp only [lupd] at P7
  refine go_aload c6_18 rfl rfl ?_
  refine go_get (y := (⟨"com/example/satisfy/satisfy/reasoner/Trail", "truncate", "(I)V"⟩ : MethodName)) P7 (5) 2 c6_19 rfl rfl (t43 hw) ?_
  refine go_aload c6_22 rfl rfl ?_
  refine go_get (y := (⟨"com/example/satisfy/satisfy/reasoner/Trail", "truncate", "(I)V"⟩ : MethodName)) P7 (5) 0 c6_23 rfl rfl (t16 hw) ?_
  refine go_aload c6_26 rfl rfl ?_
  refine go_get (y := (⟨"com/example/satisfy/satisfy/reasoner/Trail", "truncate", "(I)V"⟩ : MethodName)) P7 (5) 3 c6_27 rfl rfl (t50 hw) ?_
  refine go_ialoadH P7 (4) c6_30 rfl (by decide) rfl ?_
  refine go_callV0 (y := (⟨"com/example/satisfy/satisfy/reasoner/Trail", "truncate", "(I)V"⟩ : MethodName)) (W := 0) (argsL := [(.int x2)]) (st := []) c6_31 (rm_remove l Z a0 hw h6 n0 _ m x2 hk_x2 ka va b n3 ks3 vs3 (own_up F x3 (-1)) Rp3 P7) (P7.exa (i := 0) rfl) (t111 hw) (t112 hw) (fun _ q => notFace_of_selects (args := #[]) (mvT q (t114 hw))) (t114 hw) (t113 hw) (t24 hw) (t115 hw) (by decide) (lenOf pd2 rfl) rfl rfl (by decide) (by decide) (by decide) (by decide) rfl ?_
  rintro h8 ⟨n8, ks8, vs8, hle8, Rp8, P8⟩
  refine go_more (k' := 0) (n' := 0) (by decide) (by decide) ?_
  refine go_aload c6_34 rfl rfl ?_
  refine go_get (y := (⟨"com/example/satisfy/satisfy/reasoner/Trail", "truncate", "(I)V"⟩ : MethodName)) P8 (5) 1 c6_35 rfl rfl (t20 hw) ?_
  refine go_aload c6_38 rfl rfl ?_
  refine go_get (y := (⟨"com/example/satisfy/satisfy/reasoner/Trail", "truncate", "(I)V"⟩ : MethodName)) P8 (5) 3 c6_39 rfl rfl (t50 hw) ?_
  refine go_null c6_42 ?_
  refine go_aastoreH P8 3 c6_43 rfl rfl rfl (by decide) (Nat.le_of_ble_eq_true rfl) (Or.inl rfl) ?_
  intro h9 P10
  dsimp only [lupd] at P10
  refine go_goto c6_44 ?_
  refine go_aload c6_0 rfl rfl ?_
  refine go_get (y := (⟨"com/example/satisfy/satisfy/reasoner/Trail", "truncate", "(I)V"⟩ : MethodName)) P10 (5) 3 c6_1 rfl rfl (t50 hw) ?_
  refine go_iload c6_4 rfl ?_
  refine go_icmp_le c6_5 (fun _ => ?_) (fun q => absurd q (by decide))
  exact go_ret rfl c6_47 (by decide) (by decide) ⟨rfl, _, _, _, by omega, Rp8, P10⟩
set_option maxRecDepth 65536 in
set_option maxHeartbeats 4000000 in
theorem rm_tr4_3 (l : Launch) (Z : State) (a0 : Array Value) (hw : ∀ d ∈ tables_1, d.before a0 Z = true) (h0 : Heap) (n0 : Nat) (t m con rea : Addr) (x0 x1 x2 x3 x4 x5 x6 x7 : Int32) (y0 y1 y2 y3 y4 y5 y6 y7 : Value) (ka va : Addr) (b n : Nat) (ks vs : List Int32) (F : Int32 → Int32) (Rp : own_Rep b ks vs n F) (P0 : Hp Z n0 h0 [(m, (.inl ("com/example/satisfy/satisfy/reasoner/IntMap", [(("com/example/satisfy/satisfy/reasoner/IntMap", "bits", "I"), (.int (Int32.ofNat b))), (("com/example/satisfy/satisfy/reasoner/IntMap", "keys", "[I"), (.ref ka)), (("com/example/satisfy/satisfy/reasoner/IntMap", "values", "[I"), (.ref va)), (("com/example/satisfy/satisfy/reasoner/IntMap", "size", "I"), (.int (Int32.ofNat n)))]))), (ka, (own_ia ks)), (va, (own_ia vs)), (rea, (.inr ((.object "com/example/satisfy/satisfy/reasoner/Reason"), "[Lcom/example/satisfy/satisfy/reasoner/Reason;", [y0, y1, y2, y3, y4, y5, y6, y7]))), (con, (.inr (.int, "[I", [(.int x0), (.int x1), (.int x2), (.int x3), (.int x4), (.int x5), (.int x6), (.int x7)]))), (t, (.inl ("com/example/satisfy/satisfy/reasoner/Trail", [(("com/example/satisfy/satisfy/reasoner/Trail", "concepts", "[I"), (.ref con)), (("com/example/satisfy/satisfy/reasoner/Trail", "reasons", "[Lcom/example/satisfy/satisfy/reasoner/Reason;"), (.ref rea)), (("com/example/satisfy/satisfy/reasoner/Trail", "positions", "Lcom/example/satisfy/satisfy/reasoner/IntMap;"), (.ref m)), (("com/example/satisfy/satisfy/reasoner/Trail", "size", "I"), (.int 4))])))]) (hk_x3 : x3 ≠ -1) :
    Con false l Z (⟨"com/example/satisfy/satisfy/reasoner/Trail", "truncate", "(I)V"⟩ : MethodName) prog_91_method_8_code 2 none ({ frames := 3, cells := 0, slots := 0, locals := 45 } : Room) #[(.ref t), (.int 3)] h0 n0 (R0 fun h' => ∃ n' ks' vs', n' ≤ n ∧ own_Rep b ks' vs' n' (own_up F x3 (-1)) ∧ Hp Z n0 h' [(m, (.inl ("com/example/satisfy/satisfy/reasoner/IntMap", [(("com/example/satisfy/satisfy/reasoner/IntMap", "bits", "I"), (.int (Int32.ofNat b))), (("com/example/satisfy/satisfy/reasoner/IntMap", "keys", "[I"), (.ref ka)), (("com/example/satisfy/satisfy/reasoner/IntMap", "values", "[I"), (.ref va)), (("com/example/satisfy/satisfy/reasoner/IntMap", "size", "I"), (.int (Int32.ofNat n')))]))), (ka, (own_ia ks')), (va, (own_ia vs')), (rea, (.inr ((.object "com/example/satisfy/satisfy/reasoner/Reason"), "[Lcom/example/satisfy/satisfy/reasoner/Reason;", [y0, y1, y2, .null, y4, y5, y6, y7]))), (con, (.inr (.int, "[I", [(.int x0), (.int x1), (.int x2), (.int x3), (.int x4), (.int x5), (.int x6), (.int x7)]))), (t, (.inl ("com/example/satisfy/satisfy/reasoner/Trail", [(("com/example/satisfy/satisfy/reasoner/Trail", "concepts", "[I"), (.ref con)), (("com/example/satisfy/satisfy/reasoner/Trail", "reasons", "[Lcom/example/satisfy/satisfy/reasoner/Reason;"), (.ref rea)), (("com/example/satisfy/satisfy/reasoner/Trail", "positions", "Lcom/example/satisfy/satisfy/reasoner/IntMap;"), (.ref m)), (("com/example/satisfy/satisfy/reasoner/Trail", "size", "I"), (.int 3))])))]) := by
  refine con_of (ls := [.val (.ref t), .val (.int 3)]) (plainFor_of_name pn2) rfl ?_
  refine go_aload c6_0 rfl rfl ?_
  refine go_get (y := (⟨"com/example/satisfy/satisfy/reasoner/Trail", "truncate", "(I)V"⟩ : MethodName)) P0 (5) 3 c6_1 rfl rfl (t50 hw) ?_
  refine go_iload c6_4 rfl ?_
  refine go_icmp_le c6_5 (fun q => absurd q (by decide)) (fun _ => ?_)
  refine go_aload c6_8 rfl rfl ?_
  refine go_dup c6_9 rfl ?_
  refine go_get (y := (⟨"com/example/satisfy/satisfy/reasoner/Trail", "truncate", "(I)V"⟩ : MethodName)) P0 (5) 3 c6_10 rfl rfl (t50 hw) ?_
  refine go_push c6_13 ?_
  refine go_isub c6_14 ?_
  refine go_isI 3 (by decide) ?_
  refine go_put (y := (⟨"com/example/satisfy/satisfy/reasoner/Trail", "truncate", "(I)V"⟩ : MethodName)) P0 5 3 .int c6_15 rfl rfl (t50 hw) (Or.inl (t51 hw)) (t7 hw) (by decide) rfl rfl ?_
  intro h1 P2
  dsimp only [lupd] at P2
  refine go_aload c6_18 rfl rfl ?_
  refine go_get (y := (⟨"com/example/satisfy/satisfy/reasoner/Trail", "truncate", "(I)V"⟩ : MethodName)) P2 (5) 2 c6_19 rfl rfl (t43 hw) ?_
  refine go_aload c6_22 rfl rfl ?_
  refine go_get (y := (⟨"com/example/satisfy/satisfy/reasoner/Trail", "truncate", "(I)V"⟩ : MethodName)) P2 (5) 0 c6_23 rfl rfl (t16 hw) ?_
  refine go_aload c6_26 rfl rfl ?_
  refine go_get (y := (⟨"com/example/satisfy/satisfy/reasoner/Trail", "truncate", "(I)V"⟩ : MethodName)) P2 (5) 3 c6_27 rfl rfl (t50 hw) ?_
  refine go_ialoadH P2 (4) c6_30 rfl (by decide) rfl ?_
  refine go_callV0 (y := (⟨"com/example/satisfy/satisfy/reasoner/Trail", "truncate", "(I)V"⟩ : MethodName)) (W := 0) (argsL := [(.int x3)]) (st := []) c6_31 (rm_remove l Z a0 hw h1 n0 _ m x3 hk_x3 ka va b n ks vs F Rp P2) (P2.exa (i := 0) rfl) (t111 hw) (t112 hw) (fun _ q => notFace_of_selects (args := #[]) (mvT q (t114 hw))) (t114 hw) (t113 hw) (t24 hw) (t115 hw) (by decide) (lenOf pd2 rfl) rfl rfl (by decide) (by decide) (by decide) (by decide) rfl ?_
  rintro h3 ⟨n3, ks3, vs3, hle3, Rp3, P3⟩
  refine go_more (k' := 0) (n' := 0) (by decide) (by decide) ?_
  refine go_aload c6_34 rfl rfl ?_
  refine go_get (y := (⟨"com/example/satisfy/satisfy/reasoner/Trail", "truncate", "(I)V"⟩ : MethodName)) P3 (5) 1 c6_35 rfl rfl (t20 hw) ?_
  refine go_aload c6_38 rfl rfl ?_
  refine go_get (y := (⟨"com/example/satisfy/satisfy/reasoner/Trail", "truncate", "(I)V"⟩ : MethodName)) P3 (5) 3 c6_39 rfl rfl (t50 hw) ?_
  refine go_null c6_42 ?_
  refine go_aastoreH P3 3 c6_43 rfl rfl rfl (by decide) (Nat.le_of_ble_eq_true rfl) (Or.inl rfl) ?_
  intro h4 P5
  dsimp only [lupd] at P5
  refine go_goto c6_44 ?_
  refine go_aload c6_0 rfl rfl ?_
  refine go_get (y := (⟨"com/example/satisfy/satisfy/reasoner/Trail", "truncate", "(I)V"⟩ : MethodName)) P5 (5) 3 c6_1 rfl rfl (t50 hw) ?_
  refine go_iload c6_4 rfl ?_
  refine go_icmp_le c6_5 (fun _ => ?_) (fun q => absurd q (by decide))
  exact go_ret rfl c6_47 (by decide) (by decide) ⟨rfl, _, _, _, by omega, Rp3, P5⟩
set_option maxRecDepth 65536 in
set_option maxHeartbeats 4000000 in
theorem rm_tr4_4 (l : Launch) (Z : State) (a0 : Array Value) (hw : ∀ d ∈ tables_1, d.before a0 Z = true) (h0 : Heap) (n0 : Nat) (t m con rea : Addr) (x0 x1 x2 x3 x4 x5 x6 x7 : Int32) (y0 y1 y2 y3 y4 y5 y6 y7 : Value) (ka va : Addr) (b n : Nat) (ks vs : List Int32) (F : Int32 → Int32) (Rp : own_Rep b ks vs n F) (P0 : Hp Z n0 h0 [(m, (.inl ("com/example/satisfy/satisfy/reasoner/IntMap", [(("com/example/satisfy/satisfy/reasoner/IntMap", "bits", "I"), (.int (Int32.ofNat b))), (("com/example/satisfy/satisfy/reasoner/IntMap", "keys", "[I"), (.ref ka)), (("com/example/satisfy/satisfy/reasoner/IntMap", "values", "[I"), (.ref va)), (("com/example/satisfy/satisfy/reasoner/IntMap", "size", "I"), (.int (Int32.ofNat n)))]))), (ka, (own_ia ks)), (va, (own_ia vs)), (rea, (.inr ((.object "com/example/satisfy/satisfy/reasoner/Reason"), "[Lcom/example/satisfy/satisfy/reasoner/Reason;", [y0, y1, y2, y3, y4, y5, y6, y7]))), (con, (.inr (.int, "[I", [(.int x0), (.int x1), (.int x2), (.int x3), (.int x4), (.int x5), (.int x6), (.int x7)]))), (t, (.inl ("com/example/satisfy/satisfy/reasoner/Trail", [(("com/example/satisfy/satisfy/reasoner/Trail", "concepts", "[I"), (.ref con)), (("com/example/satisfy/satisfy/reasoner/Trail", "reasons", "[Lcom/example/satisfy/satisfy/reasoner/Reason;"), (.ref rea)), (("com/example/satisfy/satisfy/reasoner/Trail", "positions", "Lcom/example/satisfy/satisfy/reasoner/IntMap;"), (.ref m)), (("com/example/satisfy/satisfy/reasoner/Trail", "size", "I"), (.int 4))])))]) (p : Int32) (hp : ¬ p < 4) :
    Con false l Z (⟨"com/example/satisfy/satisfy/reasoner/Trail", "truncate", "(I)V"⟩ : MethodName) prog_91_method_8_code 2 none ({ frames := 3, cells := 0, slots := 0, locals := 45 } : Room) #[(.ref t), (.int p)] h0 n0 (R0 fun h' => ∃ n' ks' vs', n' ≤ n ∧ own_Rep b ks' vs' n' F ∧ Hp Z n0 h' [(m, (.inl ("com/example/satisfy/satisfy/reasoner/IntMap", [(("com/example/satisfy/satisfy/reasoner/IntMap", "bits", "I"), (.int (Int32.ofNat b))), (("com/example/satisfy/satisfy/reasoner/IntMap", "keys", "[I"), (.ref ka)), (("com/example/satisfy/satisfy/reasoner/IntMap", "values", "[I"), (.ref va)), (("com/example/satisfy/satisfy/reasoner/IntMap", "size", "I"), (.int (Int32.ofNat n')))]))), (ka, (own_ia ks')), (va, (own_ia vs')), (rea, (.inr ((.object "com/example/satisfy/satisfy/reasoner/Reason"), "[Lcom/example/satisfy/satisfy/reasoner/Reason;", [y0, y1, y2, y3, y4, y5, y6, y7]))), (con, (.inr (.int, "[I", [(.int x0), (.int x1), (.int x2), (.int x3), (.int x4), (.int x5), (.int x6), (.int x7)]))), (t, (.inl ("com/example/satisfy/satisfy/reasoner/Trail", [(("com/example/satisfy/satisfy/reasoner/Trail", "concepts", "[I"), (.ref con)), (("com/example/satisfy/satisfy/reasoner/Trail", "reasons", "[Lcom/example/satisfy/satisfy/reasoner/Reason;"), (.ref rea)), (("com/example/satisfy/satisfy/reasoner/Trail", "positions", "Lcom/example/satisfy/satisfy/reasoner/IntMap;"), (.ref m)), (("com/example/satisfy/satisfy/reasoner/Trail", "size", "I"), (.int 4))])))]) := by
  refine con_of (ls := [.val (.ref t), .val (.int p)]) (plainFor_of_name pn2) rfl ?_
  refine go_aload c6_0 rfl rfl ?_
  refine go_get (y := (⟨"com/example/satisfy/satisfy/reasoner/Trail", "truncate", "(I)V"⟩ : MethodName)) P0 (5) 3 c6_1 rfl rfl (t50 hw) ?_
  refine go_iload c6_4 rfl ?_
  refine go_icmp_le c6_5 (fun b5 => ?_) (fun b5 => ?_)
  · exact go_ret rfl c6_47 (by decide) (by decide) ⟨rfl, _, _, _, by omega, Rp, P0⟩
  · exact absurd b5 hp
set_option maxRecDepth 65536 in
set_option maxHeartbeats 4000000 in
theorem rm_pos (l : Launch) (Z : State) (a0 : Array Value) (hw : ∀ d ∈ tables_1, d.before a0 Z = true) (h0 : Heap) (n0 : Nat) (sz : Int32) (t m con rea : Addr) (x0 x1 x2 x3 x4 x5 x6 x7 : Int32) (y0 y1 y2 y3 y4 y5 y6 y7 : Value) (ka va : Addr) (b n : Nat) (ks vs : List Int32) (F : Int32 → Int32) (Rp : own_Rep b ks vs n F) (P0 : Hp Z n0 h0 [(m, (.inl ("com/example/satisfy/satisfy/reasoner/IntMap", [(("com/example/satisfy/satisfy/reasoner/IntMap", "bits", "I"), (.int (Int32.ofNat b))), (("com/example/satisfy/satisfy/reasoner/IntMap", "keys", "[I"), (.ref ka)), (("com/example/satisfy/satisfy/reasoner/IntMap", "values", "[I"), (.ref va)), (("com/example/satisfy/satisfy/reasoner/IntMap", "size", "I"), (.int (Int32.ofNat n)))]))), (ka, (own_ia ks)), (va, (own_ia vs)), (rea, (.inr ((.object "com/example/satisfy/satisfy/reasoner/Reason"), "[Lcom/example/satisfy/satisfy/reasoner/Reason;", [y0, y1, y2, y3, y4, y5, y6, y7]))), (con, (.inr (.int, "[I", [(.int x0), (.int x1), (.int x2), (.int x3), (.int x4), (.int x5), (.int x6), (.int x7)]))), (t, (.inl ("com/example/satisfy/satisfy/reasoner/Trail", [(("com/example/satisfy/satisfy/reasoner/Trail", "concepts", "[I"), (.ref con)), (("com/example/satisfy/satisfy/reasoner/Trail", "reasons", "[Lcom/example/satisfy/satisfy/reasoner/Reason;"), (.ref rea)), (("com/example/satisfy/satisfy/reasoner/Trail", "positions", "Lcom/example/satisfy/satisfy/reasoner/IntMap;"), (.ref m)), (("com/example/satisfy/satisfy/reasoner/Trail", "size", "I"), (.int sz))])))]) (c : Int32) (hk : c ≠ -1) :
    Con false l Z (⟨"com/example/satisfy/satisfy/reasoner/Trail", "position", "(I)I"⟩ : MethodName) prog_91_method_6_code 2 (some .int) ({ frames := 3, cells := 0, slots := 0, locals := 42 } : Room) #[(.ref t), (.int c)] h0 n0 (Ret (.int (F c)) h0) := by
  refine con_of (ls := [.val (.ref t), .val (.int c)]) (plainFor_of_name pn2) rfl ?_
  refine go_aload c10_0 rfl rfl ?_
  refine go_get (y := (⟨"com/example/satisfy/satisfy/reasoner/Trail", "position", "(I)I"⟩ : MethodName)) P0 (5) 2 c10_1 rfl rfl (t43 hw) ?_
  refine go_iload c10_4 rfl ?_
  refine go_callV1 (y := (⟨"com/example/satisfy/satisfy/reasoner/Trail", "position", "(I)I"⟩ : MethodName)) (W := 0) (argsL := [(.int c)]) (st := []) c10_5 (rm_get l Z a0 hw h0 n0 _ m c hk ka va b n ks vs F Rp P0) (P0.exa (i := 0) rfl) (t70 hw) (t71 hw) (fun _ q => notFace_of_selects (args := #[]) (mvT q (t73 hw))) (t73 hw) (t72 hw) (t24 hw) (t74 hw) (by decide) (lenOf pd0 rfl) rfl rfl (by decide) (by decide) (by decide) (by decide) rfl ?_
  rintro _ _ ⟨rfl, rfl⟩
  refine go_more (k' := 0) (n' := 0) (by decide) (by decide) ?_
  exact go_iret rfl c10_8 (by decide) (by decide) ⟨_, rfl, rfl, rfl⟩
set_option maxRecDepth 65536 in
set_option maxHeartbeats 4000000 in
theorem rm_concept0 (l : Launch) (Z : State) (a0 : Array Value) (hw : ∀ d ∈ tables_1, d.before a0 Z = true) (h0 : Heap) (n0 : Nat) (sz : Int32) (t m con rea : Addr) (x0 x1 x2 x3 x4 x5 x6 x7 : Int32) (y0 y1 y2 y3 y4 y5 y6 y7 : Value) (ka va : Addr) (b n : Nat) (ks vs : List Int32) (F : Int32 → Int32) (Rp : own_Rep b ks vs n F) (P0 : Hp Z n0 h0 [(m, (.inl ("com/example/satisfy/satisfy/reasoner/IntMap", [(("com/example/satisfy/satisfy/reasoner/IntMap", "bits", "I"), (.int (Int32.ofNat b))), (("com/example/satisfy/satisfy/reasoner/IntMap", "keys", "[I"), (.ref ka)), (("com/example/satisfy/satisfy/reasoner/IntMap", "values", "[I"), (.ref va)), (("com/example/satisfy/satisfy/reasoner/IntMap", "size", "I"), (.int (Int32.ofNat n)))]))), (ka, (own_ia ks)), (va, (own_ia vs)), (rea, (.inr ((.object "com/example/satisfy/satisfy/reasoner/Reason"), "[Lcom/example/satisfy/satisfy/reasoner/Reason;", [y0, y1, y2, y3, y4, y5, y6, y7]))), (con, (.inr (.int, "[I", [(.int x0), (.int x1), (.int x2), (.int x3), (.int x4), (.int x5), (.int x6), (.int x7)]))), (t, (.inl ("com/example/satisfy/satisfy/reasoner/Trail", [(("com/example/satisfy/satisfy/reasoner/Trail", "concepts", "[I"), (.ref con)), (("com/example/satisfy/satisfy/reasoner/Trail", "reasons", "[Lcom/example/satisfy/satisfy/reasoner/Reason;"), (.ref rea)), (("com/example/satisfy/satisfy/reasoner/Trail", "positions", "Lcom/example/satisfy/satisfy/reasoner/IntMap;"), (.ref m)), (("com/example/satisfy/satisfy/reasoner/Trail", "size", "I"), (.int sz))])))]) :
    Con false l Z (⟨"com/example/satisfy/satisfy/reasoner/Trail", "concept", "(I)I"⟩ : MethodName) prog_91_method_3_code 2 (some .int) ({ frames := 0, cells := 0, slots := 0, locals := 0 } : Room) #[(.ref t), (.int 0)] h0 n0 (Ret (.int x0) h0) := by
  refine con_of (ls := [.val (.ref t), .val (.int 0)]) (plainFor_of_name pn2) rfl ?_
  refine go_aload c17_0 rfl rfl ?_
  refine go_get (y := (⟨"com/example/satisfy/satisfy/reasoner/Trail", "concept", "(I)I"⟩ : MethodName)) P0 (5) 0 c17_1 rfl rfl (t16 hw) ?_
  refine go_iload c17_4 rfl ?_
  refine go_ialoadH P0 (4) c17_5 rfl (by decide) rfl ?_
  exact go_iret rfl c17_6 (by decide) (by decide) ⟨_, rfl, rfl, rfl⟩
set_option maxRecDepth 65536 in
set_option maxHeartbeats 4000000 in
theorem rm_concept1 (l : Launch) (Z : State) (a0 : Array Value) (hw : ∀ d ∈ tables_1, d.before a0 Z = true) (h0 : Heap) (n0 : Nat) (sz : Int32) (t m con rea : Addr) (x0 x1 x2 x3 x4 x5 x6 x7 : Int32) (y0 y1 y2 y3 y4 y5 y6 y7 : Value) (ka va : Addr) (b n : Nat) (ks vs : List Int32) (F : Int32 → Int32) (Rp : own_Rep b ks vs n F) (P0 : Hp Z n0 h0 [(m, (.inl ("com/example/satisfy/satisfy/reasoner/IntMap", [(("com/example/satisfy/satisfy/reasoner/IntMap", "bits", "I"), (.int (Int32.ofNat b))), (("com/example/satisfy/satisfy/reasoner/IntMap", "keys", "[I"), (.ref ka)), (("com/example/satisfy/satisfy/reasoner/IntMap", "values", "[I"), (.ref va)), (("com/example/satisfy/satisfy/reasoner/IntMap", "size", "I"), (.int (Int32.ofNat n)))]))), (ka, (own_ia ks)), (va, (own_ia vs)), (rea, (.inr ((.object "com/example/satisfy/satisfy/reasoner/Reason"), "[Lcom/example/satisfy/satisfy/reasoner/Reason;", [y0, y1, y2, y3, y4, y5, y6, y7]))), (con, (.inr (.int, "[I", [(.int x0), (.int x1), (.int x2), (.int x3), (.int x4), (.int x5), (.int x6), (.int x7)]))), (t, (.inl ("com/example/satisfy/satisfy/reasoner/Trail", [(("com/example/satisfy/satisfy/reasoner/Trail", "concepts", "[I"), (.ref con)), (("com/example/satisfy/satisfy/reasoner/Trail", "reasons", "[Lcom/example/satisfy/satisfy/reasoner/Reason;"), (.ref rea)), (("com/example/satisfy/satisfy/reasoner/Trail", "positions", "Lcom/example/satisfy/satisfy/reasoner/IntMap;"), (.ref m)), (("com/example/satisfy/satisfy/reasoner/Trail", "size", "I"), (.int sz))])))]) :
    Con false l Z (⟨"com/example/satisfy/satisfy/reasoner/Trail", "concept", "(I)I"⟩ : MethodName) prog_91_method_3_code 2 (some .int) ({ frames := 0, cells := 0, slots := 0, locals := 0 } : Room) #[(.ref t), (.int 1)] h0 n0 (Ret (.int x1) h0) := by
  refine con_of (ls := [.val (.ref t), .val (.int 1)]) (plainFor_of_name pn2) rfl ?_
  refine go_aload c17_0 rfl rfl ?_
  refine go_get (y := (⟨"com/example/satisfy/satisfy/reasoner/Trail", "concept", "(I)I"⟩ : MethodName)) P0 (5) 0 c17_1 rfl rfl (t16 hw) ?_
  refine go_iload c17_4 rfl ?_
  refine go_ialoadH P0 (4) c17_5 rfl (by decide) rfl ?_
  exact go_iret rfl c17_6 (by decide) (by decide) ⟨_, rfl, rfl, rfl⟩
set_option maxRecDepth 65536 in
set_option maxHeartbeats 4000000 in
theorem rm_concept2 (l : Launch) (Z : State) (a0 : Array Value) (hw : ∀ d ∈ tables_1, d.before a0 Z = true) (h0 : Heap) (n0 : Nat) (sz : Int32) (t m con rea : Addr) (x0 x1 x2 x3 x4 x5 x6 x7 : Int32) (y0 y1 y2 y3 y4 y5 y6 y7 : Value) (ka va : Addr) (b n : Nat) (ks vs : List Int32) (F : Int32 → Int32) (Rp : own_Rep b ks vs n F) (P0 : Hp Z n0 h0 [(m, (.inl ("com/example/satisfy/satisfy/reasoner/IntMap", [(("com/example/satisfy/satisfy/reasoner/IntMap", "bits", "I"), (.int (Int32.ofNat b))), (("com/example/satisfy/satisfy/reasoner/IntMap", "keys", "[I"), (.ref ka)), (("com/example/satisfy/satisfy/reasoner/IntMap", "values", "[I"), (.ref va)), (("com/example/satisfy/satisfy/reasoner/IntMap", "size", "I"), (.int (Int32.ofNat n)))]))), (ka, (own_ia ks)), (va, (own_ia vs)), (rea, (.inr ((.object "com/example/satisfy/satisfy/reasoner/Reason"), "[Lcom/example/satisfy/satisfy/reasoner/Reason;", [y0, y1, y2, y3, y4, y5, y6, y7]))), (con, (.inr (.int, "[I", [(.int x0), (.int x1), (.int x2), (.int x3), (.int x4), (.int x5), (.int x6), (.int x7)]))), (t, (.inl ("com/example/satisfy/satisfy/reasoner/Trail", [(("com/example/satisfy/satisfy/reasoner/Trail", "concepts", "[I"), (.ref con)), (("com/example/satisfy/satisfy/reasoner/Trail", "reasons", "[Lcom/example/satisfy/satisfy/reasoner/Reason;"), (.ref rea)), (("com/example/satisfy/satisfy/reasoner/Trail", "positions", "Lcom/example/satisfy/satisfy/reasoner/IntMap;"), (.ref m)), (("com/example/satisfy/satisfy/reasoner/Trail", "size", "I"), (.int sz))])))]) :
    Con false l Z (⟨"com/example/satisfy/satisfy/reasoner/Trail", "concept", "(I)I"⟩ : MethodName) prog_91_method_3_code 2 (some .int) ({ frames := 0, cells := 0, slots := 0, locals := 0 } : Room) #[(.ref t), (.int 2)] h0 n0 (Ret (.int x2) h0) := by
  refine con_of (ls := [.val (.ref t), .val (.int 2)]) (plainFor_of_name pn2) rfl ?_
  refine go_aload c17_0 rfl rfl ?_
  refine go_get (y := (⟨"com/example/satisfy/satisfy/reasoner/Trail", "concept", "(I)I"⟩ : MethodName)) P0 (5) 0 c17_1 rfl rfl (t16 hw) ?_
  refine go_iload c17_4 rfl ?_
  refine go_ialoadH P0 (4) c17_5 rfl (by decide) rfl ?_
  exact go_iret rfl c17_6 (by decide) (by decide) ⟨_, rfl, rfl, rfl⟩
set_option maxRecDepth 65536 in
set_option maxHeartbeats 4000000 in
theorem rm_concept3 (l : Launch) (Z : State) (a0 : Array Value) (hw : ∀ d ∈ tables_1, d.before a0 Z = true) (h0 : Heap) (n0 : Nat) (sz : Int32) (t m con rea : Addr) (x0 x1 x2 x3 x4 x5 x6 x7 : Int32) (y0 y1 y2 y3 y4 y5 y6 y7 : Value) (ka va : Addr) (b n : Nat) (ks vs : List Int32) (F : Int32 → Int32) (Rp : own_Rep b ks vs n F) (P0 : Hp Z n0 h0 [(m, (.inl ("com/example/satisfy/satisfy/reasoner/IntMap", [(("com/example/satisfy/satisfy/reasoner/IntMap", "bits", "I"), (.int (Int32.ofNat b))), (("com/example/satisfy/satisfy/reasoner/IntMap", "keys", "[I"), (.ref ka)), (("com/example/satisfy/satisfy/reasoner/IntMap", "values", "[I"), (.ref va)), (("com/example/satisfy/satisfy/reasoner/IntMap", "size", "I"), (.int (Int32.ofNat n)))]))), (ka, (own_ia ks)), (va, (own_ia vs)), (rea, (.inr ((.object "com/example/satisfy/satisfy/reasoner/Reason"), "[Lcom/example/satisfy/satisfy/reasoner/Reason;", [y0, y1, y2, y3, y4, y5, y6, y7]))), (con, (.inr (.int, "[I", [(.int x0), (.int x1), (.int x2), (.int x3), (.int x4), (.int x5), (.int x6), (.int x7)]))), (t, (.inl ("com/example/satisfy/satisfy/reasoner/Trail", [(("com/example/satisfy/satisfy/reasoner/Trail", "concepts", "[I"), (.ref con)), (("com/example/satisfy/satisfy/reasoner/Trail", "reasons", "[Lcom/example/satisfy/satisfy/reasoner/Reason;"), (.ref rea)), (("com/example/satisfy/satisfy/reasoner/Trail", "positions", "Lcom/example/satisfy/satisfy/reasoner/IntMap;"), (.ref m)), (("com/example/satisfy/satisfy/reasoner/Trail", "size", "I"), (.int sz))])))]) :
    Con false l Z (⟨"com/example/satisfy/satisfy/reasoner/Trail", "concept", "(I)I"⟩ : MethodName) prog_91_method_3_code 2 (some .int) ({ frames := 0, cells := 0, slots := 0, locals := 0 } : Room) #[(.ref t), (.int 3)] h0 n0 (Ret (.int x3) h0) := by
  refine con_of (ls := [.val (.ref t), .val (.int 3)]) (plainFor_of_name pn2) rfl ?_
  refine go_aload c17_0 rfl rfl ?_
  refine go_get (y := (⟨"com/example/satisfy/satisfy/reasoner/Trail", "concept", "(I)I"⟩ : MethodName)) P0 (5) 0 c17_1 rfl rfl (t16 hw) ?_
  refine go_iload c17_4 rfl ?_
  refine go_ialoadH P0 (4) c17_5 rfl (by decide) rfl ?_
  exact go_iret rfl c17_6 (by decide) (by decide) ⟨_, rfl, rfl, rfl⟩
set_option maxRecDepth 65536 in
set_option maxHeartbeats 4000000 in
theorem rm_reason0 (l : Launch) (Z : State) (a0 : Array Value) (hw : ∀ d ∈ tables_1, d.before a0 Z = true) (h0 : Heap) (n0 : Nat) (sz : Int32) (t m con rea : Addr) (x0 x1 x2 x3 x4 x5 x6 x7 : Int32) (y0 y1 y2 y3 y4 y5 y6 y7 : Value) (ka va : Addr) (b n : Nat) (ks vs : List Int32) (F : Int32 → Int32) (Rp : own_Rep b ks vs n F) (P0 : Hp Z n0 h0 [(m, (.inl ("com/example/satisfy/satisfy/reasoner/IntMap", [(("com/example/satisfy/satisfy/reasoner/IntMap", "bits", "I"), (.int (Int32.ofNat b))), (("com/example/satisfy/satisfy/reasoner/IntMap", "keys", "[I"), (.ref ka)), (("com/example/satisfy/satisfy/reasoner/IntMap", "values", "[I"), (.ref va)), (("com/example/satisfy/satisfy/reasoner/IntMap", "size", "I"), (.int (Int32.ofNat n)))]))), (ka, (own_ia ks)), (va, (own_ia vs)), (rea, (.inr ((.object "com/example/satisfy/satisfy/reasoner/Reason"), "[Lcom/example/satisfy/satisfy/reasoner/Reason;", [y0, y1, y2, y3, y4, y5, y6, y7]))), (con, (.inr (.int, "[I", [(.int x0), (.int x1), (.int x2), (.int x3), (.int x4), (.int x5), (.int x6), (.int x7)]))), (t, (.inl ("com/example/satisfy/satisfy/reasoner/Trail", [(("com/example/satisfy/satisfy/reasoner/Trail", "concepts", "[I"), (.ref con)), (("com/example/satisfy/satisfy/reasoner/Trail", "reasons", "[Lcom/example/satisfy/satisfy/reasoner/Reason;"), (.ref rea)), (("com/example/satisfy/satisfy/reasoner/Trail", "positions", "Lcom/example/satisfy/satisfy/reasoner/IntMap;"), (.ref m)), (("com/example/satisfy/satisfy/reasoner/Trail", "size", "I"), (.int sz))])))]) (hy : y0.isRef = true) :
    Con false l Z (⟨"com/example/satisfy/satisfy/reasoner/Trail", "reason", "(I)Lcom/example/satisfy/satisfy/reasoner/Reason;"⟩ : MethodName) prog_91_method_4_code 2 (some (.object "com/example/satisfy/satisfy/reasoner/Reason")) ({ frames := 0, cells := 0, slots := 0, locals := 0 } : Room) #[(.ref t), (.int 0)] h0 n0 (Ret y0 h0) := by
  refine con_of (ls := [.val (.ref t), .val (.int 0)]) (plainFor_of_name pn2) rfl ?_
  refine go_aload c18_0 rfl rfl ?_
  refine go_get (y := (⟨"com/example/satisfy/satisfy/reasoner/Trail", "reason", "(I)Lcom/example/satisfy/satisfy/reasoner/Reason;"⟩ : MethodName)) P0 (5) 1 c18_1 rfl rfl (t20 hw) ?_
  refine go_iload c18_4 rfl ?_
  refine go_aaloadH P0 (3) c18_5 rfl rfl (by decide) rfl ?_
  exact go_aret rfl rfl hy c18_6 (by decide) (by decide) ⟨_, rfl, rfl, rfl⟩
set_option maxRecDepth 65536 in
set_option maxHeartbeats 4000000 in
theorem rm_reason1 (l : Launch) (Z : State) (a0 : Array Value) (hw : ∀ d ∈ tables_1, d.before a0 Z = true) (h0 : Heap) (n0 : Nat) (sz : Int32) (t m con rea : Addr) (x0 x1 x2 x3 x4 x5 x6 x7 : Int32) (y0 y1 y2 y3 y4 y5 y6 y7 : Value) (ka va : Addr) (b n : Nat) (ks vs : List Int32) (F : Int32 → Int32) (Rp : own_Rep b ks vs n F) (P0 : Hp Z n0 h0 [(m, (.inl ("com/example/satisfy/satisfy/reasoner/IntMap", [(("com/example/satisfy/satisfy/reasoner/IntMap", "bits", "I"), (.int (Int32.ofNat b))), (("com/example/satisfy/satisfy/reasoner/IntMap", "keys", "[I"), (.ref ka)), (("com/example/satisfy/satisfy/reasoner/IntMap", "values", "[I"), (.ref va)), (("com/example/satisfy/satisfy/reasoner/IntMap", "size", "I"), (.int (Int32.ofNat n)))]))), (ka, (own_ia ks)), (va, (own_ia vs)), (rea, (.inr ((.object "com/example/satisfy/satisfy/reasoner/Reason"), "[Lcom/example/satisfy/satisfy/reasoner/Reason;", [y0, y1, y2, y3, y4, y5, y6, y7]))), (con, (.inr (.int, "[I", [(.int x0), (.int x1), (.int x2), (.int x3), (.int x4), (.int x5), (.int x6), (.int x7)]))), (t, (.inl ("com/example/satisfy/satisfy/reasoner/Trail", [(("com/example/satisfy/satisfy/reasoner/Trail", "concepts", "[I"), (.ref con)), (("com/example/satisfy/satisfy/reasoner/Trail", "reasons", "[Lcom/example/satisfy/satisfy/reasoner/Reason;"), (.ref rea)), (("com/example/satisfy/satisfy/reasoner/Trail", "positions", "Lcom/example/satisfy/satisfy/reasoner/IntMap;"), (.ref m)), (("com/example/satisfy/satisfy/reasoner/Trail", "size", "I"), (.int sz))])))]) (hy : y1.isRef = true) :
    Con false l Z (⟨"com/example/satisfy/satisfy/reasoner/Trail", "reason", "(I)Lcom/example/satisfy/satisfy/reasoner/Reason;"⟩ : MethodName) prog_91_method_4_code 2 (some (.object "com/example/satisfy/satisfy/reasoner/Reason")) ({ frames := 0, cells := 0, slots := 0, locals := 0 } : Room) #[(.ref t), (.int 1)] h0 n0 (Ret y1 h0) := by
  refine con_of (ls := [.val (.ref t), .val (.int 1)]) (plainFor_of_name pn2) rfl ?_
  refine go_aload c18_0 rfl rfl ?_
  refine go_get (y := (⟨"com/example/satisfy/satisfy/reasoner/Trail", "reason", "(I)Lcom/example/satisfy/satisfy/reasoner/Reason;"⟩ : MethodName)) P0 (5) 1 c18_1 rfl rfl (t20 hw) ?_
  refine go_iload c18_4 rfl ?_
  refine go_aaloadH P0 (3) c18_5 rfl rfl (by decide) rfl ?_
  exact go_aret rfl rfl hy c18_6 (by decide) (by decide) ⟨_, rfl, rfl, rfl⟩
set_option maxRecDepth 65536 in
set_option maxHeartbeats 4000000 in
theorem rm_reason2 (l : Launch) (Z : State) (a0 : Array Value) (hw : ∀ d ∈ tables_1, d.before a0 Z = true) (h0 : Heap) (n0 : Nat) (sz : Int32) (t m con rea : Addr) (x0 x1 x2 x3 x4 x5 x6 x7 : Int32) (y0 y1 y2 y3 y4 y5 y6 y7 : Value) (ka va : Addr) (b n : Nat) (ks vs : List Int32) (F : Int32 → Int32) (Rp : own_Rep b ks vs n F) (P0 : Hp Z n0 h0 [(m, (.inl ("com/example/satisfy/satisfy/reasoner/IntMap", [(("com/example/satisfy/satisfy/reasoner/IntMap", "bits", "I"), (.int (Int32.ofNat b))), (("com/example/satisfy/satisfy/reasoner/IntMap", "keys", "[I"), (.ref ka)), (("com/example/satisfy/satisfy/reasoner/IntMap", "values", "[I"), (.ref va)), (("com/example/satisfy/satisfy/reasoner/IntMap", "size", "I"), (.int (Int32.ofNat n)))]))), (ka, (own_ia ks)), (va, (own_ia vs)), (rea, (.inr ((.object "com/example/satisfy/satisfy/reasoner/Reason"), "[Lcom/example/satisfy/satisfy/reasoner/Reason;", [y0, y1, y2, y3, y4, y5, y6, y7]))), (con, (.inr (.int, "[I", [(.int x0), (.int x1), (.int x2), (.int x3), (.int x4), (.int x5), (.int x6), (.int x7)]))), (t, (.inl ("com/example/satisfy/satisfy/reasoner/Trail", [(("com/example/satisfy/satisfy/reasoner/Trail", "concepts", "[I"), (.ref con)), (("com/example/satisfy/satisfy/reasoner/Trail", "reasons", "[Lcom/example/satisfy/satisfy/reasoner/Reason;"), (.ref rea)), (("com/example/satisfy/satisfy/reasoner/Trail", "positions", "Lcom/example/satisfy/satisfy/reasoner/IntMap;"), (.ref m)), (("com/example/satisfy/satisfy/reasoner/Trail", "size", "I"), (.int sz))])))]) (hy : y2.isRef = true) :
    Con false l Z (⟨"com/example/satisfy/satisfy/reasoner/Trail", "reason", "(I)Lcom/example/satisfy/satisfy/reasoner/Reason;"⟩ : MethodName) prog_91_method_4_code 2 (some (.object "com/example/satisfy/satisfy/reasoner/Reason")) ({ frames := 0, cells := 0, slots := 0, locals := 0 } : Room) #[(.ref t), (.int 2)] h0 n0 (Ret y2 h0) := by
  refine con_of (ls := [.val (.ref t), .val (.int 2)]) (plainFor_of_name pn2) rfl ?_
  refine go_aload c18_0 rfl rfl ?_
  refine go_get (y := (⟨"com/example/satisfy/satisfy/reasoner/Trail", "reason", "(I)Lcom/example/satisfy/satisfy/reasoner/Reason;"⟩ : MethodName)) P0 (5) 1 c18_1 rfl rfl (t20 hw) ?_
  refine go_iload c18_4 rfl ?_
  refine go_aaloadH P0 (3) c18_5 rfl rfl (by decide) rfl ?_
  exact go_aret rfl rfl hy c18_6 (by decide) (by decide) ⟨_, rfl, rfl, rfl⟩
set_option maxRecDepth 65536 in
set_option maxHeartbeats 4000000 in
theorem rm_reason3 (l : Launch) (Z : State) (a0 : Array Value) (hw : ∀ d ∈ tables_1, d.before a0 Z = true) (h0 : Heap) (n0 : Nat) (sz : Int32) (t m con rea : Addr) (x0 x1 x2 x3 x4 x5 x6 x7 : Int32) (y0 y1 y2 y3 y4 y5 y6 y7 : Value) (ka va : Addr) (b n : Nat) (ks vs : List Int32) (F : Int32 → Int32) (Rp : own_Rep b ks vs n F) (P0 : Hp Z n0 h0 [(m, (.inl ("com/example/satisfy/satisfy/reasoner/IntMap", [(("com/example/satisfy/satisfy/reasoner/IntMap", "bits", "I"), (.int (Int32.ofNat b))), (("com/example/satisfy/satisfy/reasoner/IntMap", "keys", "[I"), (.ref ka)), (("com/example/satisfy/satisfy/reasoner/IntMap", "values", "[I"), (.ref va)), (("com/example/satisfy/satisfy/reasoner/IntMap", "size", "I"), (.int (Int32.ofNat n)))]))), (ka, (own_ia ks)), (va, (own_ia vs)), (rea, (.inr ((.object "com/example/satisfy/satisfy/reasoner/Reason"), "[Lcom/example/satisfy/satisfy/reasoner/Reason;", [y0, y1, y2, y3, y4, y5, y6, y7]))), (con, (.inr (.int, "[I", [(.int x0), (.int x1), (.int x2), (.int x3), (.int x4), (.int x5), (.int x6), (.int x7)]))), (t, (.inl ("com/example/satisfy/satisfy/reasoner/Trail", [(("com/example/satisfy/satisfy/reasoner/Trail", "concepts", "[I"), (.ref con)), (("com/example/satisfy/satisfy/reasoner/Trail", "reasons", "[Lcom/example/satisfy/satisfy/reasoner/Reason;"), (.ref rea)), (("com/example/satisfy/satisfy/reasoner/Trail", "positions", "Lcom/example/satisfy/satisfy/reasoner/IntMap;"), (.ref m)), (("com/example/satisfy/satisfy/reasoner/Trail", "size", "I"), (.int sz))])))]) (hy : y3.isRef = true) :
    Con false l Z (⟨"com/example/satisfy/satisfy/reasoner/Trail", "reason", "(I)Lcom/example/satisfy/satisfy/reasoner/Reason;"⟩ : MethodName) prog_91_method_4_code 2 (some (.object "com/example/satisfy/satisfy/reasoner/Reason")) ({ frames := 0, cells := 0, slots := 0, locals := 0 } : Room) #[(.ref t), (.int 3)] h0 n0 (Ret y3 h0) := by
  refine con_of (ls := [.val (.ref t), .val (.int 3)]) (plainFor_of_name pn2) rfl ?_
  refine go_aload c18_0 rfl rfl ?_
  refine go_get (y := (⟨"com/example/satisfy/satisfy/reasoner/Trail", "reason", "(I)Lcom/example/satisfy/satisfy/reasoner/Reason;"⟩ : MethodName)) P0 (5) 1 c18_1 rfl rfl (t20 hw) ?_
  refine go_iload c18_4 rfl ?_
  refine go_aaloadH P0 (3) c18_5 rfl rfl (by decide) rfl ?_
  exact go_aret rfl rfl hy c18_6 (by decide) (by decide) ⟨_, rfl, rfl, rfl⟩
set_option maxRecDepth 65536 in
set_option maxHeartbeats 4000000 in
theorem rm_size (l : Launch) (Z : State) (a0 : Array Value) (hw : ∀ d ∈ tables_1, d.before a0 Z = true) (h0 : Heap) (n0 : Nat) (sz : Int32) (t m con rea : Addr) (x0 x1 x2 x3 x4 x5 x6 x7 : Int32) (y0 y1 y2 y3 y4 y5 y6 y7 : Value) (ka va : Addr) (b n : Nat) (ks vs : List Int32) (F : Int32 → Int32) (Rp : own_Rep b ks vs n F) (P0 : Hp Z n0 h0 [(m, (.inl ("com/example/satisfy/satisfy/reasoner/IntMap", [(("com/example/satisfy/satisfy/reasoner/IntMap", "bits", "I"), (.int (Int32.ofNat b))), (("com/example/satisfy/satisfy/reasoner/IntMap", "keys", "[I"), (.ref ka)), (("com/example/satisfy/satisfy/reasoner/IntMap", "values", "[I"), (.ref va)), (("com/example/satisfy/satisfy/reasoner/IntMap", "size", "I"), (.int (Int32.ofNat n)))]))), (ka, (own_ia ks)), (va, (own_ia vs)), (rea, (.inr ((.object "com/example/satisfy/satisfy/reasoner/Reason"), "[Lcom/example/satisfy/satisfy/reasoner/Reason;", [y0, y1, y2, y3, y4, y5, y6, y7]))), (con, (.inr (.int, "[I", [(.int x0), (.int x1), (.int x2), (.int x3), (.int x4), (.int x5), (.int x6), (.int x7)]))), (t, (.inl ("com/example/satisfy/satisfy/reasoner/Trail", [(("com/example/satisfy/satisfy/reasoner/Trail", "concepts", "[I"), (.ref con)), (("com/example/satisfy/satisfy/reasoner/Trail", "reasons", "[Lcom/example/satisfy/satisfy/reasoner/Reason;"), (.ref rea)), (("com/example/satisfy/satisfy/reasoner/Trail", "positions", "Lcom/example/satisfy/satisfy/reasoner/IntMap;"), (.ref m)), (("com/example/satisfy/satisfy/reasoner/Trail", "size", "I"), (.int sz))])))]) :
    Con false l Z (⟨"com/example/satisfy/satisfy/reasoner/Trail", "size", "()I"⟩ : MethodName) prog_91_method_2_code 1 (some .int) ({ frames := 0, cells := 0, slots := 0, locals := 0 } : Room) #[(.ref t)] h0 n0 (Ret (.int sz) h0) := by
  refine con_of (ls := [.val (.ref t)]) (plainFor_of_name pn2) rfl ?_
  refine go_aload c8_0 rfl rfl ?_
  refine go_get (y := (⟨"com/example/satisfy/satisfy/reasoner/Trail", "size", "()I"⟩ : MethodName)) P0 (5) 3 c8_1 rfl rfl (t50 hw) ?_
  exact go_iret rfl c8_4 (by decide) (by decide) ⟨_, rfl, rfl, rfl⟩
set_option maxRecDepth 65536 in
set_option maxHeartbeats 4000000 in
theorem rm_chk0 (l : Launch) (Z : State) (a0 : Array Value) (hw : ∀ d ∈ tables_1, d.before a0 Z = true) (h0 : Heap) (n0 : Nat) (sz : Int32) (t m con rea : Addr) (x0 x1 x2 x3 x4 x5 x6 x7 : Int32) (y0 y1 y2 y3 y4 y5 y6 y7 : Value) (ka va : Addr) (b n : Nat) (ks vs : List Int32) (F : Int32 → Int32) (Rp : own_Rep b ks vs n F) (P0 : Hp Z n0 h0 [(m, (.inl ("com/example/satisfy/satisfy/reasoner/IntMap", [(("com/example/satisfy/satisfy/reasoner/IntMap", "bits", "I"), (.int (Int32.ofNat b))), (("com/example/satisfy/satisfy/reasoner/IntMap", "keys", "[I"), (.ref ka)), (("com/example/satisfy/satisfy/reasoner/IntMap", "values", "[I"), (.ref va)), (("com/example/satisfy/satisfy/reasoner/IntMap", "size", "I"), (.int (Int32.ofNat n)))]))), (ka, (own_ia ks)), (va, (own_ia vs)), (rea, (.inr ((.object "com/example/satisfy/satisfy/reasoner/Reason"), "[Lcom/example/satisfy/satisfy/reasoner/Reason;", [y0, y1, y2, y3, y4, y5, y6, y7]))), (con, (.inr (.int, "[I", [(.int x0), (.int x1), (.int x2), (.int x3), (.int x4), (.int x5), (.int x6), (.int x7)]))), (t, (.inl ("com/example/satisfy/satisfy/reasoner/Trail", [(("com/example/satisfy/satisfy/reasoner/Trail", "concepts", "[I"), (.ref con)), (("com/example/satisfy/satisfy/reasoner/Trail", "reasons", "[Lcom/example/satisfy/satisfy/reasoner/Reason;"), (.ref rea)), (("com/example/satisfy/satisfy/reasoner/Trail", "positions", "Lcom/example/satisfy/satisfy/reasoner/IntMap;"), (.ref m)), (("com/example/satisfy/satisfy/reasoner/Trail", "size", "I"), (.int sz))])))]) (hr_y0 : y0.isRef = true) (c kk mm : Int32) (r : Addr) (hk : c ≠ -1) (Hy : (0 < mm ∧ F c = 0 ∧ x0 = c ∧ y0 = .ref r) ∨ (¬ 0 < mm ∧ F c = -1 ∧ (0 < kk → y0 = .null))) :
    Con false l Z (⟨"com/example/satisfy/satisfy/reasoner/TrailTruncatePinLaw", "check", "(Lcom/example/satisfy/satisfy/reasoner/Trail;IIIILcom/example/satisfy/satisfy/reasoner/Reason;)Z"⟩ : MethodName) method_3_code 7 (some .boolean) ({ frames := 4, cells := 0, slots := 0, locals := 55 } : Room) #[(.ref t), (.int 0), (.int c), (.int kk), (.int mm), (.ref r)] h0 n0 (Ret (.int 1) h0) := by
  refine con_of (ls := [.val (.ref t), .val (.int 0), .val (.int c), .val (.int kk), .val (.int mm), .val (.ref r), .unset]) (plainFor_of_name pn3) rfl ?_
  refine go_iload c9_0 rfl ?_
  refine go_iload c9_1 rfl ?_
  refine go_icmp_ge c9_3 (fun b3 => ?_) (fun b3 => ?_)
  · refine go_push c9_10 ?_
    refine go_istore c9_11 rfl rfl ?_
    dsimp only [setl]
    refine go_aload c9_13 rfl rfl ?_
    refine go_iload c9_14 rfl ?_
    refine go_callV1 (y := (⟨"com/example/satisfy/satisfy/reasoner/TrailTruncatePinLaw", "check", "(Lcom/example/satisfy/satisfy/reasoner/Trail;IIIILcom/example/satisfy/satisfy/reasoner/Reason;)Z"⟩ : MethodName)) (W := 0) (argsL := [(.int c)]) (st := []) c9_15 (rm_pos l Z a0 hw h0 n0 sz t m con rea x0 x1 x2 x3 x4 x5 x6 x7 y0 y1 y2 y3 y4 y5 y6 y7 ka va b n ks vs F Rp P0 c hk) (P0.exa (i := 5) rfl) (t65 hw) (t66 hw) (fun _ q => notFace_of_selects (args := #[]) (mvT q (t68 hw))) (t68 hw) (t67 hw) (t8 hw) (t69 hw) (by decide) (lenOf pd0 rfl) rfl rfl (by decide) (by decide) (by decide) (by decide) rfl ?_
    rintro _ _ ⟨rfl, rfl⟩
    refine go_more (k' := 0) (n' := 0) (by decide) (by decide) ?_
    refine go_iload c9_18 rfl ?_
    refine go_icmp_eq c9_20 (fun b20 => ?_) (fun b20 => ?_)
    · refine go_iload c9_25 rfl ?_
      refine go_iload c9_26 rfl ?_
      refine go_icmp_ge c9_28 (fun b28 => ?_) (fun b28 => ?_)
      · refine go_iload c9_56 rfl ?_
        refine go_iload c9_57 rfl ?_
        refine go_icmp_ge c9_58 (fun b58 => ?_) (fun b58 => ?_)
        · refine go_push c9_75 ?_
          exact go_bret rfl c9_76 (by decide) (by decide) (by decide) ⟨_, rfl, rfl, rfl⟩
        · refine go_aload c9_61 rfl rfl ?_
          refine go_iload c9_62 rfl ?_
          refine go_callV1 (y := (⟨"com/example/satisfy/satisfy/reasoner/TrailTruncatePinLaw", "check", "(Lcom/example/satisfy/satisfy/reasoner/Trail;IIIILcom/example/satisfy/satisfy/reasoner/Reason;)Z"⟩ : MethodName)) (W := 0) (argsL := [(.int 0)]) (st := []) c9_63 (rm_reason0 l Z a0 hw h0 n0 sz t m con rea x0 x1 x2 x3 x4 x5 x6 x7 y0 y1 y2 y3 y4 y5 y6 y7 ka va b n ks vs F Rp P0 hr_y0) (P0.exa (i := 5) rfl) (t106 hw) (t107 hw) (fun _ q => notFace_of_selects (args := #[]) (mvT q (t109 hw))) (t109 hw) (t108 hw) (t8 hw) (t110 hw) (by decide) (lenOf pd5 rfl) rfl rfl (by decide) (by decide) (by decide) (by decide) rfl ?_
          rintro _ _ ⟨rfl, rfl⟩
          refine go_more (k' := 0) (n' := 0) (by decide) (by decide) ?_
          refine go_nonnullV c9_66 hr_y0 (fun b66 => ?_) (fun b66 => ?_)
          · refine go_push c9_73 ?_
            exact go_bret rfl c9_74 (by decide) (by decide) (by decide) ⟨_, rfl, (by exfalso; rcases Hy with ⟨q1, q2, q3, q4⟩ | ⟨q1, q2, q3⟩ <;> simp_all), rfl⟩
          · refine go_push c9_69 ?_
            refine go_goto c9_70 ?_
            exact go_bret rfl c9_74 (by decide) (by decide) (by decide) ⟨_, rfl, rfl, rfl⟩
      · refine go_aload c9_31 rfl rfl ?_
        refine go_iload c9_32 rfl ?_
        refine go_callV1 (y := (⟨"com/example/satisfy/satisfy/reasoner/TrailTruncatePinLaw", "check", "(Lcom/example/satisfy/satisfy/reasoner/Trail;IIIILcom/example/satisfy/satisfy/reasoner/Reason;)Z"⟩ : MethodName)) (W := 0) (argsL := [(.int 0)]) (st := []) c9_33 (rm_concept0 l Z a0 hw h0 n0 sz t m con rea x0 x1 x2 x3 x4 x5 x6 x7 y0 y1 y2 y3 y4 y5 y6 y7 ka va b n ks vs F Rp P0) (P0.exa (i := 5) rfl) (t101 hw) (t102 hw) (fun _ q => notFace_of_selects (args := #[]) (mvT q (t104 hw))) (t104 hw) (t103 hw) (t8 hw) (t105 hw) (by decide) (lenOf pd0 rfl) rfl rfl (by decide) (by decide) (by decide) (by decide) rfl ?_
        rintro _ _ ⟨rfl, rfl⟩
        refine go_more (k' := 0) (n' := 0) (by decide) (by decide) ?_
        refine go_iload c9_36 rfl ?_
        refine go_icmp_ne c9_37 (fun b37 => ?_) (fun b37 => ?_)
        · refine go_push c9_54 ?_
          exact go_bret rfl c9_55 (by decide) (by decide) (by decide) ⟨_, rfl, (by exfalso; rcases Hy with ⟨q1, q2, q3, q4⟩ | ⟨q1, q2, q3⟩ <;> simp_all), rfl⟩
        · refine go_aload c9_40 rfl rfl ?_
          refine go_iload c9_41 rfl ?_
          refine go_callV1 (y := (⟨"com/example/satisfy/satisfy/reasoner/TrailTruncatePinLaw", "check", "(Lcom/example/satisfy/satisfy/reasoner/Trail;IIIILcom/example/satisfy/satisfy/reasoner/Reason;)Z"⟩ : MethodName)) (W := 0) (argsL := [(.int 0)]) (st := []) c9_42 (rm_reason0 l Z a0 hw h0 n0 sz t m con rea x0 x1 x2 x3 x4 x5 x6 x7 y0 y1 y2 y3 y4 y5 y6 y7 ka va b n ks vs F Rp P0 hr_y0) (P0.exa (i := 5) rfl) (t106 hw) (t107 hw) (fun _ q => notFace_of_selects (args := #[]) (mvT q (t109 hw))) (t109 hw) (t108 hw) (t8 hw) (t110 hw) (by decide) (lenOf pd5 rfl) rfl rfl (by decide) (by decide) (by decide) (by decide) rfl ?_
          rintro _ _ ⟨rfl, rfl⟩
          refine go_more (k' := 0) (n' := 0) (by decide) (by decide) ?_
          refine go_aload c9_45 rfl rfl ?_
          refine go_acmp_ne c9_47 hr_y0 rfl (fun b47 => ?_) (fun b47 => ?_)
          · refine go_push c9_54 ?_
            exact go_bret rfl c9_55 (by decide) (by decide) (by decide) ⟨_, rfl, (by exfalso; rcases Hy with ⟨q1, q2, q3, q4⟩ | ⟨q1, q2, q3⟩ <;> simp_all), rfl⟩
          · refine go_push c9_50 ?_
            refine go_goto c9_51 ?_
            exact go_bret rfl c9_55 (by decide) (by decide) (by decide) ⟨_, rfl, rfl, rfl⟩
    · refine go_push c9_23 ?_
      exact go_bret rfl c9_24 (by decide) (by decide) (by decide) ⟨_, rfl, (by exfalso; rcases Hy with ⟨q1, q2, q3, q4⟩ | ⟨q1, q2, q3⟩ <;> simp_all), rfl⟩
  · refine go_iload c9_6 rfl ?_
    refine go_goto c9_7 ?_
    refine go_istore c9_11 rfl rfl ?_
    dsimp only [setl]
    refine go_aload c9_13 rfl rfl ?_
    refine go_iload c9_14 rfl ?_
    refine go_callV1 (y := (⟨"com/example/satisfy/satisfy/reasoner/TrailTruncatePinLaw", "check", "(Lcom/example/satisfy/satisfy/reasoner/Trail;IIIILcom/example/satisfy/satisfy/reasoner/Reason;)Z"⟩ : MethodName)) (W := 0) (argsL := [(.int c)]) (st := []) c9_15 (rm_pos l Z a0 hw h0 n0 sz t m con rea x0 x1 x2 x3 x4 x5 x6 x7 y0 y1 y2 y3 y4 y5 y6 y7 ka va b n ks vs F Rp P0 c hk) (P0.exa (i := 5) rfl) (t65 hw) (t66 hw) (fun _ q => notFace_of_selects (args := #[]) (mvT q (t68 hw))) (t68 hw) (t67 hw) (t8 hw) (t69 hw) (by decide) (lenOf pd0 rfl) rfl rfl (by decide) (by decide) (by decide) (by decide) rfl ?_
    rintro _ _ ⟨rfl, rfl⟩
    refine go_more (k' := 0) (n' := 0) (by decide) (by decide) ?_
    refine go_iload c9_18 rfl ?_
    refine go_icmp_eq c9_20 (fun b20 => ?_) (fun b20 => ?_)
    · refine go_iload c9_25 rfl ?_
      refine go_iload c9_26 rfl ?_
      refine go_icmp_ge c9_28 (fun b28 => ?_) (fun b28 => ?_)
      · refine go_iload c9_56 rfl ?_
        refine go_iload c9_57 rfl ?_
        refine go_icmp_ge c9_58 (fun b58 => ?_) (fun b58 => ?_)
        · refine go_push c9_75 ?_
          exact go_bret rfl c9_76 (by decide) (by decide) (by decide) ⟨_, rfl, rfl, rfl⟩
        · refine go_aload c9_61 rfl rfl ?_
          refine go_iload c9_62 rfl ?_
          refine go_callV1 (y := (⟨"com/example/satisfy/satisfy/reasoner/TrailTruncatePinLaw", "check", "(Lcom/example/satisfy/satisfy/reasoner/Trail;IIIILcom/example/satisfy/satisfy/reasoner/Reason;)Z"⟩ : MethodName)) (W := 0) (argsL := [(.int 0)]) (st := []) c9_63 (rm_reason0 l Z a0 hw h0 n0 sz t m con rea x0 x1 x2 x3 x4 x5 x6 x7 y0 y1 y2 y3 y4 y5 y6 y7 ka va b n ks vs F Rp P0 hr_y0) (P0.exa (i := 5) rfl) (t106 hw) (t107 hw) (fun _ q => notFace_of_selects (args := #[]) (mvT q (t109 hw))) (t109 hw) (t108 hw) (t8 hw) (t110 hw) (by decide) (lenOf pd5 rfl) rfl rfl (by decide) (by decide) (by decide) (by decide) rfl ?_
          rintro _ _ ⟨rfl, rfl⟩
          refine go_more (k' := 0) (n' := 0) (by decide) (by decide) ?_
          refine go_nonnullV c9_66 hr_y0 (fun b66 => ?_) (fun b66 => ?_)
          · refine go_push c9_73 ?_
            exact go_bret rfl c9_74 (by decide) (by decide) (by decide) ⟨_, rfl, (by exfalso; rcases Hy with ⟨q1, q2, q3, q4⟩ | ⟨q1, q2, q3⟩ <;> simp_all), rfl⟩
          · refine go_push c9_69 ?_
            refine go_goto c9_70 ?_
            exact go_bret rfl c9_74 (by decide) (by decide) (by decide) ⟨_, rfl, rfl, rfl⟩
      · refine go_aload c9_31 rfl rfl ?_
        refine go_iload c9_32 rfl ?_
        refine go_callV1 (y := (⟨"com/example/satisfy/satisfy/reasoner/TrailTruncatePinLaw", "check", "(Lcom/example/satisfy/satisfy/reasoner/Trail;IIIILcom/example/satisfy/satisfy/reasoner/Reason;)Z"⟩ : MethodName)) (W := 0) (argsL := [(.int 0)]) (st := []) c9_33 (rm_concept0 l Z a0 hw h0 n0 sz t m con rea x0 x1 x2 x3 x4 x5 x6 x7 y0 y1 y2 y3 y4 y5 y6 y7 ka va b n ks vs F Rp P0) (P0.exa (i := 5) rfl) (t101 hw) (t102 hw) (fun _ q => notFace_of_selects (args := #[]) (mvT q (t104 hw))) (t104 hw) (t103 hw) (t8 hw) (t105 hw) (by decide) (lenOf pd0 rfl) rfl rfl (by decide) (by decide) (by decide) (by decide) rfl ?_
        rintro _ _ ⟨rfl, rfl⟩
        refine go_more (k' := 0) (n' := 0) (by decide) (by decide) ?_
        refine go_iload c9_36 rfl ?_
        refine go_icmp_ne c9_37 (fun b37 => ?_) (fun b37 => ?_)
        · refine go_push c9_54 ?_
          exact go_bret rfl c9_55 (by decide) (by decide) (by decide) ⟨_, rfl, (by exfalso; rcases Hy with ⟨q1, q2, q3, q4⟩ | ⟨q1, q2, q3⟩ <;> simp_all), rfl⟩
        · refine go_aload c9_40 rfl rfl ?_
          refine go_iload c9_41 rfl ?_
          refine go_callV1 (y := (⟨"com/example/satisfy/satisfy/reasoner/TrailTruncatePinLaw", "check", "(Lcom/example/satisfy/satisfy/reasoner/Trail;IIIILcom/example/satisfy/satisfy/reasoner/Reason;)Z"⟩ : MethodName)) (W := 0) (argsL := [(.int 0)]) (st := []) c9_42 (rm_reason0 l Z a0 hw h0 n0 sz t m con rea x0 x1 x2 x3 x4 x5 x6 x7 y0 y1 y2 y3 y4 y5 y6 y7 ka va b n ks vs F Rp P0 hr_y0) (P0.exa (i := 5) rfl) (t106 hw) (t107 hw) (fun _ q => notFace_of_selects (args := #[]) (mvT q (t109 hw))) (t109 hw) (t108 hw) (t8 hw) (t110 hw) (by decide) (lenOf pd5 rfl) rfl rfl (by decide) (by decide) (by decide) (by decide) rfl ?_
          rintro _ _ ⟨rfl, rfl⟩
          refine go_more (k' := 0) (n' := 0) (by decide) (by decide) ?_
          refine go_aload c9_45 rfl rfl ?_
          refine go_acmp_ne c9_47 hr_y0 rfl (fun b47 => ?_) (fun b47 => ?_)
          · refine go_push c9_54 ?_
            exact go_bret rfl c9_55 (by decide) (by decide) (by decide) ⟨_, rfl, (by exfalso; rcases Hy with ⟨q1, q2, q3, q4⟩ | ⟨q1, q2, q3⟩ <;> simp_all), rfl⟩
          · refine go_push c9_50 ?_
            refine go_goto c9_51 ?_
            exact go_bret rfl c9_55 (by decide) (by decide) (by decide) ⟨_, rfl, rfl, rfl⟩
    · refine go_push c9_23 ?_
      exact go_bret rfl c9_24 (by decide) (by decide) (by decide) ⟨_, rfl, (by exfalso; rcases Hy with ⟨q1, q2, q3, q4⟩ | ⟨q1, q2, q3⟩ <;> simp_all), rfl⟩
set_option maxRecDepth 65536 in
set_option maxHeartbeats 4000000 in
theorem rm_chk1 (l : Launch) (Z : State) (a0 : Array Value) (hw : ∀ d ∈ tables_1, d.before a0 Z = true) (h0 : Heap) (n0 : Nat) (sz : Int32) (t m con rea : Addr) (x0 x1 x2 x3 x4 x5 x6 x7 : Int32) (y0 y1 y2 y3 y4 y5 y6 y7 : Value) (ka va : Addr) (b n : Nat) (ks vs : List Int32) (F : Int32 → Int32) (Rp : own_Rep b ks vs n F) (P0 : Hp Z n0 h0 [(m, (.inl ("com/example/satisfy/satisfy/reasoner/IntMap", [(("com/example/satisfy/satisfy/reasoner/IntMap", "bits", "I"), (.int (Int32.ofNat b))), (("com/example/satisfy/satisfy/reasoner/IntMap", "keys", "[I"), (.ref ka)), (("com/example/satisfy/satisfy/reasoner/IntMap", "values", "[I"), (.ref va)), (("com/example/satisfy/satisfy/reasoner/IntMap", "size", "I"), (.int (Int32.ofNat n)))]))), (ka, (own_ia ks)), (va, (own_ia vs)), (rea, (.inr ((.object "com/example/satisfy/satisfy/reasoner/Reason"), "[Lcom/example/satisfy/satisfy/reasoner/Reason;", [y0, y1, y2, y3, y4, y5, y6, y7]))), (con, (.inr (.int, "[I", [(.int x0), (.int x1), (.int x2), (.int x3), (.int x4), (.int x5), (.int x6), (.int x7)]))), (t, (.inl ("com/example/satisfy/satisfy/reasoner/Trail", [(("com/example/satisfy/satisfy/reasoner/Trail", "concepts", "[I"), (.ref con)), (("com/example/satisfy/satisfy/reasoner/Trail", "reasons", "[Lcom/example/satisfy/satisfy/reasoner/Reason;"), (.ref rea)), (("com/example/satisfy/satisfy/reasoner/Trail", "positions", "Lcom/example/satisfy/satisfy/reasoner/IntMap;"), (.ref m)), (("com/example/satisfy/satisfy/reasoner/Trail", "size", "I"), (.int sz))])))]) (hr_y1 : y1.isRef = true) (c kk mm : Int32) (r : Addr) (hk : c ≠ -1) (Hy : (1 < mm ∧ F c = 1 ∧ x1 = c ∧ y1 = .ref r) ∨ (¬ 1 < mm ∧ F c = -1 ∧ (1 < kk → y1 = .null))) :
    Con false l Z (⟨"com/example/satisfy/satisfy/reasoner/TrailTruncatePinLaw", "check", "(Lcom/example/satisfy/satisfy/reasoner/Trail;IIIILcom/example/satisfy/satisfy/reasoner/Reason;)Z"⟩ : MethodName) method_3_code 7 (some .boolean) ({ frames := 4, cells := 0, slots := 0, locals := 55 } : Room) #[(.ref t), (.int 1), (.int c), (.int kk), (.int mm), (.ref r)] h0 n0 (Ret (.int 1) h0) := by
  refine con_of (ls := [.val (.ref t), .val (.int 1), .val (.int c), .val (.int kk), .val (.int mm), .val (.ref r), .unset]) (plainFor_of_name pn3) rfl ?_
  refine go_iload c9_0 rfl ?_
  refine go_iload c9_1 rfl ?_
  refine go_icmp_ge c9_3 (fun b3 => ?_) (fun b3 => ?_)
  · refine go_push c9_10 ?_
    refine go_istore c9_11 rfl rfl ?_
    dsimp only [setl]
    refine go_aload c9_13 rfl rfl ?_
    refine go_iload c9_14 rfl ?_
    refine go_callV1 (y := (⟨"com/example/satisfy/satisfy/reasoner/TrailTruncatePinLaw", "check", "(Lcom/example/satisfy/satisfy/reasoner/Trail;IIIILcom/example/satisfy/satisfy/reasoner/Reason;)Z"⟩ : MethodName)) (W := 0) (argsL := [(.int c)]) (st := []) c9_15 (rm_pos l Z a0 hw h0 n0 sz t m con rea x0 x1 x2 x3 x4 x5 x6 x7 y0 y1 y2 y3 y4 y5 y6 y7 ka va b n ks vs F Rp P0 c hk) (P0.exa (i := 5) rfl) (t65 hw) (t66 hw) (fun _ q => notFace_of_selects (args := #[]) (mvT q (t68 hw))) (t68 hw) (t67 hw) (t8 hw) (t69 hw) (by decide) (lenOf pd0 rfl) rfl rfl (by decide) (by decide) (by decide) (by decide) rfl ?_
    rintro _ _ ⟨rfl, rfl⟩
    refine go_more (k' := 0) (n' := 0) (by decide) (by decide) ?_
    refine go_iload c9_18 rfl ?_
    refine go_icmp_eq c9_20 (fun b20 => ?_) (fun b20 => ?_)
    · refine go_iload c9_25 rfl ?_
      refine go_iload c9_26 rfl ?_
      refine go_icmp_ge c9_28 (fun b28 => ?_) (fun b28 => ?_)
      · refine go_iload c9_56 rfl ?_
        refine go_iload c9_57 rfl ?_
        refine go_icmp_ge c9_58 (fun b58 => ?_) (fun b58 => ?_)
        · refine go_push c9_75 ?_
          exact go_bret rfl c9_76 (by decide) (by decide) (by decide) ⟨_, rfl, rfl, rfl⟩
        · refine go_aload c9_61 rfl rfl ?_
          refine go_iload c9_62 rfl ?_
          refine go_callV1 (y := (⟨"com/example/satisfy/satisfy/reasoner/TrailTruncatePinLaw", "check", "(Lcom/example/satisfy/satisfy/reasoner/Trail;IIIILcom/example/satisfy/satisfy/reasoner/Reason;)Z"⟩ : MethodName)) (W := 0) (argsL := [(.int 1)]) (st := []) c9_63 (rm_reason1 l Z a0 hw h0 n0 sz t m con rea x0 x1 x2 x3 x4 x5 x6 x7 y0 y1 y2 y3 y4 y5 y6 y7 ka va b n ks vs F Rp P0 hr_y1) (P0.exa (i := 5) rfl) (t106 hw) (t107 hw) (fun _ q => notFace_of_selects (args := #[]) (mvT q (t109 hw))) (t109 hw) (t108 hw) (t8 hw) (t110 hw) (by decide) (lenOf pd5 rfl) rfl rfl (by decide) (by decide) (by decide) (by decide) rfl ?_
          rintro _ _ ⟨rfl, rfl⟩
          refine go_more (k' := 0) (n' := 0) (by decide) (by decide) ?_
          refine go_nonnullV c9_66 hr_y1 (fun b66 => ?_) (fun b66 => ?_)
          · refine go_push c9_73 ?_
            exact go_bret rfl c9_74 (by decide) (by decide) (by decide) ⟨_, rfl, (by exfalso; rcases Hy with ⟨q1, q2, q3, q4⟩ | ⟨q1, q2, q3⟩ <;> simp_all), rfl⟩
          · refine go_push c9_69 ?_
            refine go_goto c9_70 ?_
            exact go_bret rfl c9_74 (by decide) (by decide) (by decide) ⟨_, rfl, rfl, rfl⟩
      · refine go_aload c9_31 rfl rfl ?_
        refine go_iload c9_32 rfl ?_
        refine go_callV1 (y := (⟨"com/example/satisfy/satisfy/reasoner/TrailTruncatePinLaw", "check", "(Lcom/example/satisfy/satisfy/reasoner/Trail;IIIILcom/example/satisfy/satisfy/reasoner/Reason;)Z"⟩ : MethodName)) (W := 0) (argsL := [(.int 1)]) (st := []) c9_33 (rm_concept1 l Z a0 hw h0 n0 sz t m con rea x0 x1 x2 x3 x4 x5 x6 x7 y0 y1 y2 y3 y4 y5 y6 y7 ka va b n ks vs F Rp P0) (P0.exa (i := 5) rfl) (t101 hw) (t102 hw) (fun _ q => notFace_of_selects (args := #[]) (mvT q (t104 hw))) (t104 hw) (t103 hw) (t8 hw) (t105 hw) (by decide) (lenOf pd0 rfl) rfl rfl (by decide) (by decide) (by decide) (by decide) rfl ?_
        rintro _ _ ⟨rfl, rfl⟩
        refine go_more (k' := 0) (n' := 0) (by decide) (by decide) ?_
        refine go_iload c9_36 rfl ?_
        refine go_icmp_ne c9_37 (fun b37 => ?_) (fun b37 => ?_)
        · refine go_push c9_54 ?_
          exact go_bret rfl c9_55 (by decide) (by decide) (by decide) ⟨_, rfl, (by exfalso; rcases Hy with ⟨q1, q2, q3, q4⟩ | ⟨q1, q2, q3⟩ <;> simp_all), rfl⟩
        · refine go_aload c9_40 rfl rfl ?_
          refine go_iload c9_41 rfl ?_
          refine go_callV1 (y := (⟨"com/example/satisfy/satisfy/reasoner/TrailTruncatePinLaw", "check", "(Lcom/example/satisfy/satisfy/reasoner/Trail;IIIILcom/example/satisfy/satisfy/reasoner/Reason;)Z"⟩ : MethodName)) (W := 0) (argsL := [(.int 1)]) (st := []) c9_42 (rm_reason1 l Z a0 hw h0 n0 sz t m con rea x0 x1 x2 x3 x4 x5 x6 x7 y0 y1 y2 y3 y4 y5 y6 y7 ka va b n ks vs F Rp P0 hr_y1) (P0.exa (i := 5) rfl) (t106 hw) (t107 hw) (fun _ q => notFace_of_selects (args := #[]) (mvT q (t109 hw))) (t109 hw) (t108 hw) (t8 hw) (t110 hw) (by decide) (lenOf pd5 rfl) rfl rfl (by decide) (by decide) (by decide) (by decide) rfl ?_
          rintro _ _ ⟨rfl, rfl⟩
          refine go_more (k' := 0) (n' := 0) (by decide) (by decide) ?_
          refine go_aload c9_45 rfl rfl ?_
          refine go_acmp_ne c9_47 hr_y1 rfl (fun b47 => ?_) (fun b47 => ?_)
          · refine go_push c9_54 ?_
            exact go_bret rfl c9_55 (by decide) (by decide) (by decide) ⟨_, rfl, (by exfalso; rcases Hy with ⟨q1, q2, q3, q4⟩ | ⟨q1, q2, q3⟩ <;> simp_all), rfl⟩
          · refine go_push c9_50 ?_
            refine go_goto c9_51 ?_
            exact go_bret rfl c9_55 (by decide) (by decide) (by decide) ⟨_, rfl, rfl, rfl⟩
    · refine go_push c9_23 ?_
      exact go_bret rfl c9_24 (by decide) (by decide) (by decide) ⟨_, rfl, (by exfalso; rcases Hy with ⟨q1, q2, q3, q4⟩ | ⟨q1, q2, q3⟩ <;> simp_all), rfl⟩
  · refine go_iload c9_6 rfl ?_
    refine go_goto c9_7 ?_
    refine go_istore c9_11 rfl rfl ?_
    dsimp only [setl]
    refine go_aload c9_13 rfl rfl ?_
    refine go_iload c9_14 rfl ?_
    refine go_callV1 (y := (⟨"com/example/satisfy/satisfy/reasoner/TrailTruncatePinLaw", "check", "(Lcom/example/satisfy/satisfy/reasoner/Trail;IIIILcom/example/satisfy/satisfy/reasoner/Reason;)Z"⟩ : MethodName)) (W := 0) (argsL := [(.int c)]) (st := []) c9_15 (rm_pos l Z a0 hw h0 n0 sz t m con rea x0 x1 x2 x3 x4 x5 x6 x7 y0 y1 y2 y3 y4 y5 y6 y7 ka va b n ks vs F Rp P0 c hk) (P0.exa (i := 5) rfl) (t65 hw) (t66 hw) (fun _ q => notFace_of_selects (args := #[]) (mvT q (t68 hw))) (t68 hw) (t67 hw) (t8 hw) (t69 hw) (by decide) (lenOf pd0 rfl) rfl rfl (by decide) (by decide) (by decide) (by decide) rfl ?_
    rintro _ _ ⟨rfl, rfl⟩
    refine go_more (k' := 0) (n' := 0) (by decide) (by decide) ?_
    refine go_iload c9_18 rfl ?_
    refine go_icmp_eq c9_20 (fun b20 => ?_) (fun b20 => ?_)
    · refine go_iload c9_25 rfl ?_
      refine go_iload c9_26 rfl ?_
      refine go_icmp_ge c9_28 (fun b28 => ?_) (fun b28 => ?_)
      · refine go_iload c9_56 rfl ?_
        refine go_iload c9_57 rfl ?_
        refine go_icmp_ge c9_58 (fun b58 => ?_) (fun b58 => ?_)
        · refine go_push c9_75 ?_
          exact go_bret rfl c9_76 (by decide) (by decide) (by decide) ⟨_, rfl, rfl, rfl⟩
        · refine go_aload c9_61 rfl rfl ?_
          refine go_iload c9_62 rfl ?_
          refine go_callV1 (y := (⟨"com/example/satisfy/satisfy/reasoner/TrailTruncatePinLaw", "check", "(Lcom/example/satisfy/satisfy/reasoner/Trail;IIIILcom/example/satisfy/satisfy/reasoner/Reason;)Z"⟩ : MethodName)) (W := 0) (argsL := [(.int 1)]) (st := []) c9_63 (rm_reason1 l Z a0 hw h0 n0 sz t m con rea x0 x1 x2 x3 x4 x5 x6 x7 y0 y1 y2 y3 y4 y5 y6 y7 ka va b n ks vs F Rp P0 hr_y1) (P0.exa (i := 5) rfl) (t106 hw) (t107 hw) (fun _ q => notFace_of_selects (args := #[]) (mvT q (t109 hw))) (t109 hw) (t108 hw) (t8 hw) (t110 hw) (by decide) (lenOf pd5 rfl) rfl rfl (by decide) (by decide) (by decide) (by decide) rfl ?_
          rintro _ _ ⟨rfl, rfl⟩
          refine go_more (k' := 0) (n' := 0) (by decide) (by decide) ?_
          refine go_nonnullV c9_66 hr_y1 (fun b66 => ?_) (fun b66 => ?_)
          · refine go_push c9_73 ?_
            exact go_bret rfl c9_74 (by decide) (by decide) (by decide) ⟨_, rfl, (by exfalso; rcases Hy with ⟨q1, q2, q3, q4⟩ | ⟨q1, q2, q3⟩ <;> simp_all), rfl⟩
          · refine go_push c9_69 ?_
            refine go_goto c9_70 ?_
            exact go_bret rfl c9_74 (by decide) (by decide) (by decide) ⟨_, rfl, rfl, rfl⟩
      · refine go_aload c9_31 rfl rfl ?_
        refine go_iload c9_32 rfl ?_
        refine go_callV1 (y := (⟨"com/example/satisfy/satisfy/reasoner/TrailTruncatePinLaw", "check", "(Lcom/example/satisfy/satisfy/reasoner/Trail;IIIILcom/example/satisfy/satisfy/reasoner/Reason;)Z"⟩ : MethodName)) (W := 0) (argsL := [(.int 1)]) (st := []) c9_33 (rm_concept1 l Z a0 hw h0 n0 sz t m con rea x0 x1 x2 x3 x4 x5 x6 x7 y0 y1 y2 y3 y4 y5 y6 y7 ka va b n ks vs F Rp P0) (P0.exa (i := 5) rfl) (t101 hw) (t102 hw) (fun _ q => notFace_of_selects (args := #[]) (mvT q (t104 hw))) (t104 hw) (t103 hw) (t8 hw) (t105 hw) (by decide) (lenOf pd0 rfl) rfl rfl (by decide) (by decide) (by decide) (by decide) rfl ?_
        rintro _ _ ⟨rfl, rfl⟩
        refine go_more (k' := 0) (n' := 0) (by decide) (by decide) ?_
        refine go_iload c9_36 rfl ?_
        refine go_icmp_ne c9_37 (fun b37 => ?_) (fun b37 => ?_)
        · refine go_push c9_54 ?_
          exact go_bret rfl c9_55 (by decide) (by decide) (by decide) ⟨_, rfl, (by exfalso; rcases Hy with ⟨q1, q2, q3, q4⟩ | ⟨q1, q2, q3⟩ <;> simp_all), rfl⟩
        · refine go_aload c9_40 rfl rfl ?_
          refine go_iload c9_41 rfl ?_
          refine go_callV1 (y := (⟨"com/example/satisfy/satisfy/reasoner/TrailTruncatePinLaw", "check", "(Lcom/example/satisfy/satisfy/reasoner/Trail;IIIILcom/example/satisfy/satisfy/reasoner/Reason;)Z"⟩ : MethodName)) (W := 0) (argsL := [(.int 1)]) (st := []) c9_42 (rm_reason1 l Z a0 hw h0 n0 sz t m con rea x0 x1 x2 x3 x4 x5 x6 x7 y0 y1 y2 y3 y4 y5 y6 y7 ka va b n ks vs F Rp P0 hr_y1) (P0.exa (i := 5) rfl) (t106 hw) (t107 hw) (fun _ q => notFace_of_selects (args := #[]) (mvT q (t109 hw))) (t109 hw) (t108 hw) (t8 hw) (t110 hw) (by decide) (lenOf pd5 rfl) rfl rfl (by decide) (by decide) (by decide) (by decide) rfl ?_
          rintro _ _ ⟨rfl, rfl⟩
          refine go_more (k' := 0) (n' := 0) (by decide) (by decide) ?_
          refine go_aload c9_45 rfl rfl ?_
          refine go_acmp_ne c9_47 hr_y1 rfl (fun b47 => ?_) (fun b47 => ?_)
          · refine go_push c9_54 ?_
            exact go_bret rfl c9_55 (by decide) (by decide) (by decide) ⟨_, rfl, (by exfalso; rcases Hy with ⟨q1, q2, q3, q4⟩ | ⟨q1, q2, q3⟩ <;> simp_all), rfl⟩
          · refine go_push c9_50 ?_
            refine go_goto c9_51 ?_
            exact go_bret rfl c9_55 (by decide) (by decide) (by decide) ⟨_, rfl, rfl, rfl⟩
    · refine go_push c9_23 ?_
      exact go_bret rfl c9_24 (by decide) (by decide) (by decide) ⟨_, rfl, (by exfalso; rcases Hy with ⟨q1, q2, q3, q4⟩ | ⟨q1, q2, q3⟩ <;> simp_all), rfl⟩
set_option maxRecDepth 65536 in
set_option maxHeartbeats 4000000 in
theorem rm_chk2 (l : Launch) (Z : State) (a0 : Array Value) (hw : ∀ d ∈ tables_1, d.before a0 Z = true) (h0 : Heap) (n0 : Nat) (sz : Int32) (t m con rea : Addr) (x0 x1 x2 x3 x4 x5 x6 x7 : Int32) (y0 y1 y2 y3 y4 y5 y6 y7 : Value) (ka va : Addr) (b n : Nat) (ks vs : List Int32) (F : Int32 → Int32) (Rp : own_Rep b ks vs n F) (P0 : Hp Z n0 h0 [(m, (.inl ("com/example/satisfy/satisfy/reasoner/IntMap", [(("com/example/satisfy/satisfy/reasoner/IntMap", "bits", "I"), (.int (Int32.ofNat b))), (("com/example/satisfy/satisfy/reasoner/IntMap", "keys", "[I"), (.ref ka)), (("com/example/satisfy/satisfy/reasoner/IntMap", "values", "[I"), (.ref va)), (("com/example/satisfy/satisfy/reasoner/IntMap", "size", "I"), (.int (Int32.ofNat n)))]))), (ka, (own_ia ks)), (va, (own_ia vs)), (rea, (.inr ((.object "com/example/satisfy/satisfy/reasoner/Reason"), "[Lcom/example/satisfy/satisfy/reasoner/Reason;", [y0, y1, y2, y3, y4, y5, y6, y7]))), (con, (.inr (.int, "[I", [(.int x0), (.int x1), (.int x2), (.int x3), (.int x4), (.int x5), (.int x6), (.int x7)]))), (t, (.inl ("com/example/satisfy/satisfy/reasoner/Trail", [(("com/example/satisfy/satisfy/reasoner/Trail", "concepts", "[I"), (.ref con)), (("com/example/satisfy/satisfy/reasoner/Trail", "reasons", "[Lcom/example/satisfy/satisfy/reasoner/Reason;"), (.ref rea)), (("com/example/satisfy/satisfy/reasoner/Trail", "positions", "Lcom/example/satisfy/satisfy/reasoner/IntMap;"), (.ref m)), (("com/example/satisfy/satisfy/reasoner/Trail", "size", "I"), (.int sz))])))]) (hr_y2 : y2.isRef = true) (c kk mm : Int32) (r : Addr) (hk : c ≠ -1) (Hy : (2 < mm ∧ F c = 2 ∧ x2 = c ∧ y2 = .ref r) ∨ (¬ 2 < mm ∧ F c = -1 ∧ (2 < kk → y2 = .null))) :
    Con false l Z (⟨"com/example/satisfy/satisfy/reasoner/TrailTruncatePinLaw", "check", "(Lcom/example/satisfy/satisfy/reasoner/Trail;IIIILcom/example/satisfy/satisfy/reasoner/Reason;)Z"⟩ : MethodName) method_3_code 7 (some .boolean) ({ frames := 4, cells := 0, slots := 0, locals := 55 } : Room) #[(.ref t), (.int 2), (.int c), (.int kk), (.int mm), (.ref r)] h0 n0 (Ret (.int 1) h0) := by
  refine con_of (ls := [.val (.ref t), .val (.int 2), .val (.int c), .val (.int kk), .val (.int mm), .val (.ref r), .unset]) (plainFor_of_name pn3) rfl ?_
  refine go_iload c9_0 rfl ?_
  refine go_iload c9_1 rfl ?_
  refine go_icmp_ge c9_3 (fun b3 => ?_) (fun b3 => ?_)
  · refine go_push c9_10 ?_
    refine go_istore c9_11 rfl rfl ?_
    dsimp only [setl]
    refine go_aload c9_13 rfl rfl ?_
    refine go_iload c9_14 rfl ?_
    refine go_callV1 (y := (⟨"com/example/satisfy/satisfy/reasoner/TrailTruncatePinLaw", "check", "(Lcom/example/satisfy/satisfy/reasoner/Trail;IIIILcom/example/satisfy/satisfy/reasoner/Reason;)Z"⟩ : MethodName)) (W := 0) (argsL := [(.int c)]) (st := []) c9_15 (rm_pos l Z a0 hw h0 n0 sz t m con rea x0 x1 x2 x3 x4 x5 x6 x7 y0 y1 y2 y3 y4 y5 y6 y7 ka va b n ks vs F Rp P0 c hk) (P0.exa (i := 5) rfl) (t65 hw) (t66 hw) (fun _ q => notFace_of_selects (args := #[]) (mvT q (t68 hw))) (t68 hw) (t67 hw) (t8 hw) (t69 hw) (by decide) (lenOf pd0 rfl) rfl rfl (by decide) (by decide) (by decide) (by decide) rfl ?_
    rintro _ _ ⟨rfl, rfl⟩
    refine go_more (k' := 0) (n' := 0) (by decide) (by decide) ?_
    refine go_iload c9_18 rfl ?_
    refine go_icmp_eq c9_20 (fun b20 => ?_) (fun b20 => ?_)
    · refine go_iload c9_25 rfl ?_
      refine go_iload c9_26 rfl ?_
      refine go_icmp_ge c9_28 (fun b28 => ?_) (fun b28 => ?_)
      · refine go_iload c9_56 rfl ?_
        refine go_iload c9_57 rfl ?_
        refine go_icmp_ge c9_58 (fun b58 => ?_) (fun b58 => ?_)
        · refine go_push c9_75 ?_
          exact go_bret rfl c9_76 (by decide) (by decide) (by decide) ⟨_, rfl, rfl, rfl⟩
        · refine go_aload c9_61 rfl rfl ?_
          refine go_iload c9_62 rfl ?_
          refine go_callV1 (y := (⟨"com/example/satisfy/satisfy/reasoner/TrailTruncatePinLaw", "check", "(Lcom/example/satisfy/satisfy/reasoner/Trail;IIIILcom/example/satisfy/satisfy/reasoner/Reason;)Z"⟩ : MethodName)) (W := 0) (argsL := [(.int 2)]) (st := []) c9_63 (rm_reason2 l Z a0 hw h0 n0 sz t m con rea x0 x1 x2 x3 x4 x5 x6 x7 y0 y1 y2 y3 y4 y5 y6 y7 ka va b n ks vs F Rp P0 hr_y2) (P0.exa (i := 5) rfl) (t106 hw) (t107 hw) (fun _ q => notFace_of_selects (args := #[]) (mvT q (t109 hw))) (t109 hw) (t108 hw) (t8 hw) (t110 hw) (by decide) (lenOf pd5 rfl) rfl rfl (by decide) (by decide) (by decide) (by decide) rfl ?_
          rintro _ _ ⟨rfl, rfl⟩
          refine go_more (k' := 0) (n' := 0) (by decide) (by decide) ?_
          refine go_nonnullV c9_66 hr_y2 (fun b66 => ?_) (fun b66 => ?_)
          · refine go_push c9_73 ?_
            exact go_bret rfl c9_74 (by decide) (by decide) (by decide) ⟨_, rfl, (by exfalso; rcases Hy with ⟨q1, q2, q3, q4⟩ | ⟨q1, q2, q3⟩ <;> simp_all), rfl⟩
          · refine go_push c9_69 ?_
            refine go_goto c9_70 ?_
            exact go_bret rfl c9_74 (by decide) (by decide) (by decide) ⟨_, rfl, rfl, rfl⟩
      · refine go_aload c9_31 rfl rfl ?_
        refine go_iload c9_32 rfl ?_
        refine go_callV1 (y := (⟨"com/example/satisfy/satisfy/reasoner/TrailTruncatePinLaw", "check", "(Lcom/example/satisfy/satisfy/reasoner/Trail;IIIILcom/example/satisfy/satisfy/reasoner/Reason;)Z"⟩ : MethodName)) (W := 0) (argsL := [(.int 2)]) (st := []) c9_33 (rm_concept2 l Z a0 hw h0 n0 sz t m con rea x0 x1 x2 x3 x4 x5 x6 x7 y0 y1 y2 y3 y4 y5 y6 y7 ka va b n ks vs F Rp P0) (P0.exa (i := 5) rfl) (t101 hw) (t102 hw) (fun _ q => notFace_of_selects (args := #[]) (mvT q (t104 hw))) (t104 hw) (t103 hw) (t8 hw) (t105 hw) (by decide) (lenOf pd0 rfl) rfl rfl (by decide) (by decide) (by decide) (by decide) rfl ?_
        rintro _ _ ⟨rfl, rfl⟩
        refine go_more (k' := 0) (n' := 0) (by decide) (by decide) ?_
        refine go_iload c9_36 rfl ?_
        refine go_icmp_ne c9_37 (fun b37 => ?_) (fun b37 => ?_)
        · refine go_push c9_54 ?_
          exact go_bret rfl c9_55 (by decide) (by decide) (by decide) ⟨_, rfl, (by exfalso; rcases Hy with ⟨q1, q2, q3, q4⟩ | ⟨q1, q2, q3⟩ <;> simp_all), rfl⟩
        · refine go_aload c9_40 rfl rfl ?_
          refine go_iload c9_41 rfl ?_
          refine go_callV1 (y := (⟨"com/example/satisfy/satisfy/reasoner/TrailTruncatePinLaw", "check", "(Lcom/example/satisfy/satisfy/reasoner/Trail;IIIILcom/example/satisfy/satisfy/reasoner/Reason;)Z"⟩ : MethodName)) (W := 0) (argsL := [(.int 2)]) (st := []) c9_42 (rm_reason2 l Z a0 hw h0 n0 sz t m con rea x0 x1 x2 x3 x4 x5 x6 x7 y0 y1 y2 y3 y4 y5 y6 y7 ka va b n ks vs F Rp P0 hr_y2) (P0.exa (i := 5) rfl) (t106 hw) (t107 hw) (fun _ q => notFace_of_selects (args := #[]) (mvT q (t109 hw))) (t109 hw) (t108 hw) (t8 hw) (t110 hw) (by decide) (lenOf pd5 rfl) rfl rfl (by decide) (by decide) (by decide) (by decide) rfl ?_
          rintro _ _ ⟨rfl, rfl⟩
          refine go_more (k' := 0) (n' := 0) (by decide) (by decide) ?_
          refine go_aload c9_45 rfl rfl ?_
          refine go_acmp_ne c9_47 hr_y2 rfl (fun b47 => ?_) (fun b47 => ?_)
          · refine go_push c9_54 ?_
            exact go_bret rfl c9_55 (by decide) (by decide) (by decide) ⟨_, rfl, (by exfalso; rcases Hy with ⟨q1, q2, q3, q4⟩ | ⟨q1, q2, q3⟩ <;> simp_all), rfl⟩
          · refine go_push c9_50 ?_
            refine go_goto c9_51 ?_
            exact go_bret rfl c9_55 (by decide) (by decide) (by decide) ⟨_, rfl, rfl, rfl⟩
    · refine go_push c9_23 ?_
      exact go_bret rfl c9_24 (by decide) (by decide) (by decide) ⟨_, rfl, (by exfalso; rcases Hy with ⟨q1, q2, q3, q4⟩ | ⟨q1, q2, q3⟩ <;> simp_all), rfl⟩
  · refine go_iload c9_6 rfl ?_
    refine go_goto c9_7 ?_
    refine go_istore c9_11 rfl rfl ?_
    dsimp only [setl]
    refine go_aload c9_13 rfl rfl ?_
    refine go_iload c9_14 rfl ?_
    refine go_callV1 (y := (⟨"com/example/satisfy/satisfy/reasoner/TrailTruncatePinLaw", "check", "(Lcom/example/satisfy/satisfy/reasoner/Trail;IIIILcom/example/satisfy/satisfy/reasoner/Reason;)Z"⟩ : MethodName)) (W := 0) (argsL := [(.int c)]) (st := []) c9_15 (rm_pos l Z a0 hw h0 n0 sz t m con rea x0 x1 x2 x3 x4 x5 x6 x7 y0 y1 y2 y3 y4 y5 y6 y7 ka va b n ks vs F Rp P0 c hk) (P0.exa (i := 5) rfl) (t65 hw) (t66 hw) (fun _ q => notFace_of_selects (args := #[]) (mvT q (t68 hw))) (t68 hw) (t67 hw) (t8 hw) (t69 hw) (by decide) (lenOf pd0 rfl) rfl rfl (by decide) (by decide) (by decide) (by decide) rfl ?_
    rintro _ _ ⟨rfl, rfl⟩
    refine go_more (k' := 0) (n' := 0) (by decide) (by decide) ?_
    refine go_iload c9_18 rfl ?_
    refine go_icmp_eq c9_20 (fun b20 => ?_) (fun b20 => ?_)
    · refine go_iload c9_25 rfl ?_
      refine go_iload c9_26 rfl ?_
      refine go_icmp_ge c9_28 (fun b28 => ?_) (fun b28 => ?_)
      · refine go_iload c9_56 rfl ?_
        refine go_iload c9_57 rfl ?_
        refine go_icmp_ge c9_58 (fun b58 => ?_) (fun b58 => ?_)
        · refine go_push c9_75 ?_
          exact go_bret rfl c9_76 (by decide) (by decide) (by decide) ⟨_, rfl, rfl, rfl⟩
        · refine go_aload c9_61 rfl rfl ?_
          refine go_iload c9_62 rfl ?_
          refine go_callV1 (y := (⟨"com/example/satisfy/satisfy/reasoner/TrailTruncatePinLaw", "check", "(Lcom/example/satisfy/satisfy/reasoner/Trail;IIIILcom/example/satisfy/satisfy/reasoner/Reason;)Z"⟩ : MethodName)) (W := 0) (argsL := [(.int 2)]) (st := []) c9_63 (rm_reason2 l Z a0 hw h0 n0 sz t m con rea x0 x1 x2 x3 x4 x5 x6 x7 y0 y1 y2 y3 y4 y5 y6 y7 ka va b n ks vs F Rp P0 hr_y2) (P0.exa (i := 5) rfl) (t106 hw) (t107 hw) (fun _ q => notFace_of_selects (args := #[]) (mvT q (t109 hw))) (t109 hw) (t108 hw) (t8 hw) (t110 hw) (by decide) (lenOf pd5 rfl) rfl rfl (by decide) (by decide) (by decide) (by decide) rfl ?_
          rintro _ _ ⟨rfl, rfl⟩
          refine go_more (k' := 0) (n' := 0) (by decide) (by decide) ?_
          refine go_nonnullV c9_66 hr_y2 (fun b66 => ?_) (fun b66 => ?_)
          · refine go_push c9_73 ?_
            exact go_bret rfl c9_74 (by decide) (by decide) (by decide) ⟨_, rfl, (by exfalso; rcases Hy with ⟨q1, q2, q3, q4⟩ | ⟨q1, q2, q3⟩ <;> simp_all), rfl⟩
          · refine go_push c9_69 ?_
            refine go_goto c9_70 ?_
            exact go_bret rfl c9_74 (by decide) (by decide) (by decide) ⟨_, rfl, rfl, rfl⟩
      · refine go_aload c9_31 rfl rfl ?_
        refine go_iload c9_32 rfl ?_
        refine go_callV1 (y := (⟨"com/example/satisfy/satisfy/reasoner/TrailTruncatePinLaw", "check", "(Lcom/example/satisfy/satisfy/reasoner/Trail;IIIILcom/example/satisfy/satisfy/reasoner/Reason;)Z"⟩ : MethodName)) (W := 0) (argsL := [(.int 2)]) (st := []) c9_33 (rm_concept2 l Z a0 hw h0 n0 sz t m con rea x0 x1 x2 x3 x4 x5 x6 x7 y0 y1 y2 y3 y4 y5 y6 y7 ka va b n ks vs F Rp P0) (P0.exa (i := 5) rfl) (t101 hw) (t102 hw) (fun _ q => notFace_of_selects (args := #[]) (mvT q (t104 hw))) (t104 hw) (t103 hw) (t8 hw) (t105 hw) (by decide) (lenOf pd0 rfl) rfl rfl (by decide) (by decide) (by decide) (by decide) rfl ?_
        rintro _ _ ⟨rfl, rfl⟩
        refine go_more (k' := 0) (n' := 0) (by decide) (by decide) ?_
        refine go_iload c9_36 rfl ?_
        refine go_icmp_ne c9_37 (fun b37 => ?_) (fun b37 => ?_)
        · refine go_push c9_54 ?_
          exact go_bret rfl c9_55 (by decide) (by decide) (by decide) ⟨_, rfl, (by exfalso; rcases Hy with ⟨q1, q2, q3, q4⟩ | ⟨q1, q2, q3⟩ <;> simp_all), rfl⟩
        · refine go_aload c9_40 rfl rfl ?_
          refine go_iload c9_41 rfl ?_
          refine go_callV1 (y := (⟨"com/example/satisfy/satisfy/reasoner/TrailTruncatePinLaw", "check", "(Lcom/example/satisfy/satisfy/reasoner/Trail;IIIILcom/example/satisfy/satisfy/reasoner/Reason;)Z"⟩ : MethodName)) (W := 0) (argsL := [(.int 2)]) (st := []) c9_42 (rm_reason2 l Z a0 hw h0 n0 sz t m con rea x0 x1 x2 x3 x4 x5 x6 x7 y0 y1 y2 y3 y4 y5 y6 y7 ka va b n ks vs F Rp P0 hr_y2) (P0.exa (i := 5) rfl) (t106 hw) (t107 hw) (fun _ q => notFace_of_selects (args := #[]) (mvT q (t109 hw))) (t109 hw) (t108 hw) (t8 hw) (t110 hw) (by decide) (lenOf pd5 rfl) rfl rfl (by decide) (by decide) (by decide) (by decide) rfl ?_
          rintro _ _ ⟨rfl, rfl⟩
          refine go_more (k' := 0) (n' := 0) (by decide) (by decide) ?_
          refine go_aload c9_45 rfl rfl ?_
          refine go_acmp_ne c9_47 hr_y2 rfl (fun b47 => ?_) (fun b47 => ?_)
          · refine go_push c9_54 ?_
            exact go_bret rfl c9_55 (by decide) (by decide) (by decide) ⟨_, rfl, (by exfalso; rcases Hy with ⟨q1, q2, q3, q4⟩ | ⟨q1, q2, q3⟩ <;> simp_all), rfl⟩
          · refine go_push c9_50 ?_
            refine go_goto c9_51 ?_
            exact go_bret rfl c9_55 (by decide) (by decide) (by decide) ⟨_, rfl, rfl, rfl⟩
    · refine go_push c9_23 ?_
      exact go_bret rfl c9_24 (by decide) (by decide) (by decide) ⟨_, rfl, (by exfalso; rcases Hy with ⟨q1, q2, q3, q4⟩ | ⟨q1, q2, q3⟩ <;> simp_all), rfl⟩
set_option maxRecDepth 65536 in
set_option maxHeartbeats 4000000 in
theorem rm_chk3 (l : Launch) (Z : State) (a0 : Array Value) (hw : ∀ d ∈ tables_1, d.before a0 Z = true) (h0 : Heap) (n0 : Nat) (sz : Int32) (t m con rea : Addr) (x0 x1 x2 x3 x4 x5 x6 x7 : Int32) (y0 y1 y2 y3 y4 y5 y6 y7 : Value) (ka va : Addr) (b n : Nat) (ks vs : List Int32) (F : Int32 → Int32) (Rp : own_Rep b ks vs n F) (P0 : Hp Z n0 h0 [(m, (.inl ("com/example/satisfy/satisfy/reasoner/IntMap", [(("com/example/satisfy/satisfy/reasoner/IntMap", "bits", "I"), (.int (Int32.ofNat b))), (("com/example/satisfy/satisfy/reasoner/IntMap", "keys", "[I"), (.ref ka)), (("com/example/satisfy/satisfy/reasoner/IntMap", "values", "[I"), (.ref va)), (("com/example/satisfy/satisfy/reasoner/IntMap", "size", "I"), (.int (Int32.ofNat n)))]))), (ka, (own_ia ks)), (va, (own_ia vs)), (rea, (.inr ((.object "com/example/satisfy/satisfy/reasoner/Reason"), "[Lcom/example/satisfy/satisfy/reasoner/Reason;", [y0, y1, y2, y3, y4, y5, y6, y7]))), (con, (.inr (.int, "[I", [(.int x0), (.int x1), (.int x2), (.int x3), (.int x4), (.int x5), (.int x6), (.int x7)]))), (t, (.inl ("com/example/satisfy/satisfy/reasoner/Trail", [(("com/example/satisfy/satisfy/reasoner/Trail", "concepts", "[I"), (.ref con)), (("com/example/satisfy/satisfy/reasoner/Trail", "reasons", "[Lcom/example/satisfy/satisfy/reasoner/Reason;"), (.ref rea)), (("com/example/satisfy/satisfy/reasoner/Trail", "positions", "Lcom/example/satisfy/satisfy/reasoner/IntMap;"), (.ref m)), (("com/example/satisfy/satisfy/reasoner/Trail", "size", "I"), (.int sz))])))]) (hr_y3 : y3.isRef = true) (c kk mm : Int32) (r : Addr) (hk : c ≠ -1) (Hy : (3 < mm ∧ F c = 3 ∧ x3 = c ∧ y3 = .ref r) ∨ (¬ 3 < mm ∧ F c = -1 ∧ (3 < kk → y3 = .null))) :
    Con false l Z (⟨"com/example/satisfy/satisfy/reasoner/TrailTruncatePinLaw", "check", "(Lcom/example/satisfy/satisfy/reasoner/Trail;IIIILcom/example/satisfy/satisfy/reasoner/Reason;)Z"⟩ : MethodName) method_3_code 7 (some .boolean) ({ frames := 4, cells := 0, slots := 0, locals := 55 } : Room) #[(.ref t), (.int 3), (.int c), (.int kk), (.int mm), (.ref r)] h0 n0 (Ret (.int 1) h0) := by
  refine con_of (ls := [.val (.ref t), .val (.int 3), .val (.int c), .val (.int kk), .val (.int mm), .val (.ref r), .unset]) (plainFor_of_name pn3) rfl ?_
  refine go_iload c9_0 rfl ?_
  refine go_iload c9_1 rfl ?_
  refine go_icmp_ge c9_3 (fun b3 => ?_) (fun b3 => ?_)
  · refine go_push c9_10 ?_
    refine go_istore c9_11 rfl rfl ?_
    dsimp only [setl]
    refine go_aload c9_13 rfl rfl ?_
    refine go_iload c9_14 rfl ?_
    refine go_callV1 (y := (⟨"com/example/satisfy/satisfy/reasoner/TrailTruncatePinLaw", "check", "(Lcom/example/satisfy/satisfy/reasoner/Trail;IIIILcom/example/satisfy/satisfy/reasoner/Reason;)Z"⟩ : MethodName)) (W := 0) (argsL := [(.int c)]) (st := []) c9_15 (rm_pos l Z a0 hw h0 n0 sz t m con rea x0 x1 x2 x3 x4 x5 x6 x7 y0 y1 y2 y3 y4 y5 y6 y7 ka va b n ks vs F Rp P0 c hk) (P0.exa (i := 5) rfl) (t65 hw) (t66 hw) (fun _ q => notFace_of_selects (args := #[]) (mvT q (t68 hw))) (t68 hw) (t67 hw) (t8 hw) (t69 hw) (by decide) (lenOf pd0 rfl) rfl rfl (by decide) (by decide) (by decide) (by decide) rfl ?_
    rintro _ _ ⟨rfl, rfl⟩
    refine go_more (k' := 0) (n' := 0) (by decide) (by decide) ?_
    refine go_iload c9_18 rfl ?_
    refine go_icmp_eq c9_20 (fun b20 => ?_) (fun b20 => ?_)
    · refine go_iload c9_25 rfl ?_
      refine go_iload c9_26 rfl ?_
      refine go_icmp_ge c9_28 (fun b28 => ?_) (fun b28 => ?_)
      · refine go_iload c9_56 rfl ?_
        refine go_iload c9_57 rfl ?_
        refine go_icmp_ge c9_58 (fun b58 => ?_) (fun b58 => ?_)
        · refine go_push c9_75 ?_
          exact go_bret rfl c9_76 (by decide) (by decide) (by decide) ⟨_, rfl, rfl, rfl⟩
        · refine go_aload c9_61 rfl rfl ?_
          refine go_iload c9_62 rfl ?_
          refine go_callV1 (y := (⟨"com/example/satisfy/satisfy/reasoner/TrailTruncatePinLaw", "check", "(Lcom/example/satisfy/satisfy/reasoner/Trail;IIIILcom/example/satisfy/satisfy/reasoner/Reason;)Z"⟩ : MethodName)) (W := 0) (argsL := [(.int 3)]) (st := []) c9_63 (rm_reason3 l Z a0 hw h0 n0 sz t m con rea x0 x1 x2 x3 x4 x5 x6 x7 y0 y1 y2 y3 y4 y5 y6 y7 ka va b n ks vs F Rp P0 hr_y3) (P0.exa (i := 5) rfl) (t106 hw) (t107 hw) (fun _ q => notFace_of_selects (args := #[]) (mvT q (t109 hw))) (t109 hw) (t108 hw) (t8 hw) (t110 hw) (by decide) (lenOf pd5 rfl) rfl rfl (by decide) (by decide) (by decide) (by decide) rfl ?_
          rintro _ _ ⟨rfl, rfl⟩
          refine go_more (k' := 0) (n' := 0) (by decide) (by decide) ?_
          refine go_nonnullV c9_66 hr_y3 (fun b66 => ?_) (fun b66 => ?_)
          · refine go_push c9_73 ?_
            exact go_bret rfl c9_74 (by decide) (by decide) (by decide) ⟨_, rfl, (by exfalso; rcases Hy with ⟨q1, q2, q3, q4⟩ | ⟨q1, q2, q3⟩ <;> simp_all), rfl⟩
          · refine go_push c9_69 ?_
            refine go_goto c9_70 ?_
            exact go_bret rfl c9_74 (by decide) (by decide) (by decide) ⟨_, rfl, rfl, rfl⟩
      · refine go_aload c9_31 rfl rfl ?_
        refine go_iload c9_32 rfl ?_
        refine go_callV1 (y := (⟨"com/example/satisfy/satisfy/reasoner/TrailTruncatePinLaw", "check", "(Lcom/example/satisfy/satisfy/reasoner/Trail;IIIILcom/example/satisfy/satisfy/reasoner/Reason;)Z"⟩ : MethodName)) (W := 0) (argsL := [(.int 3)]) (st := []) c9_33 (rm_concept3 l Z a0 hw h0 n0 sz t m con rea x0 x1 x2 x3 x4 x5 x6 x7 y0 y1 y2 y3 y4 y5 y6 y7 ka va b n ks vs F Rp P0) (P0.exa (i := 5) rfl) (t101 hw) (t102 hw) (fun _ q => notFace_of_selects (args := #[]) (mvT q (t104 hw))) (t104 hw) (t103 hw) (t8 hw) (t105 hw) (by decide) (lenOf pd0 rfl) rfl rfl (by decide) (by decide) (by decide) (by decide) rfl ?_
        rintro _ _ ⟨rfl, rfl⟩
        refine go_more (k' := 0) (n' := 0) (by decide) (by decide) ?_
        refine go_iload c9_36 rfl ?_
        refine go_icmp_ne c9_37 (fun b37 => ?_) (fun b37 => ?_)
        · refine go_push c9_54 ?_
          exact go_bret rfl c9_55 (by decide) (by decide) (by decide) ⟨_, rfl, (by exfalso; rcases Hy with ⟨q1, q2, q3, q4⟩ | ⟨q1, q2, q3⟩ <;> simp_all), rfl⟩
        · refine go_aload c9_40 rfl rfl ?_
          refine go_iload c9_41 rfl ?_
          refine go_callV1 (y := (⟨"com/example/satisfy/satisfy/reasoner/TrailTruncatePinLaw", "check", "(Lcom/example/satisfy/satisfy/reasoner/Trail;IIIILcom/example/satisfy/satisfy/reasoner/Reason;)Z"⟩ : MethodName)) (W := 0) (argsL := [(.int 3)]) (st := []) c9_42 (rm_reason3 l Z a0 hw h0 n0 sz t m con rea x0 x1 x2 x3 x4 x5 x6 x7 y0 y1 y2 y3 y4 y5 y6 y7 ka va b n ks vs F Rp P0 hr_y3) (P0.exa (i := 5) rfl) (t106 hw) (t107 hw) (fun _ q => notFace_of_selects (args := #[]) (mvT q (t109 hw))) (t109 hw) (t108 hw) (t8 hw) (t110 hw) (by decide) (lenOf pd5 rfl) rfl rfl (by decide) (by decide) (by decide) (by decide) rfl ?_
          rintro _ _ ⟨rfl, rfl⟩
          refine go_more (k' := 0) (n' := 0) (by decide) (by decide) ?_
          refine go_aload c9_45 rfl rfl ?_
          refine go_acmp_ne c9_47 hr_y3 rfl (fun b47 => ?_) (fun b47 => ?_)
          · refine go_push c9_54 ?_
            exact go_bret rfl c9_55 (by decide) (by decide) (by decide) ⟨_, rfl, (by exfalso; rcases Hy with ⟨q1, q2, q3, q4⟩ | ⟨q1, q2, q3⟩ <;> simp_all), rfl⟩
          · refine go_push c9_50 ?_
            refine go_goto c9_51 ?_
            exact go_bret rfl c9_55 (by decide) (by decide) (by decide) ⟨_, rfl, rfl, rfl⟩
    · refine go_push c9_23 ?_
      exact go_bret rfl c9_24 (by decide) (by decide) (by decide) ⟨_, rfl, (by exfalso; rcases Hy with ⟨q1, q2, q3, q4⟩ | ⟨q1, q2, q3⟩ <;> simp_all), rfl⟩
  · refine go_iload c9_6 rfl ?_
    refine go_goto c9_7 ?_
    refine go_istore c9_11 rfl rfl ?_
    dsimp only [setl]
    refine go_aload c9_13 rfl rfl ?_
    refine go_iload c9_14 rfl ?_
    refine go_callV1 (y := (⟨"com/example/satisfy/satisfy/reasoner/TrailTruncatePinLaw", "check", "(Lcom/example/satisfy/satisfy/reasoner/Trail;IIIILcom/example/satisfy/satisfy/reasoner/Reason;)Z"⟩ : MethodName)) (W := 0) (argsL := [(.int c)]) (st := []) c9_15 (rm_pos l Z a0 hw h0 n0 sz t m con rea x0 x1 x2 x3 x4 x5 x6 x7 y0 y1 y2 y3 y4 y5 y6 y7 ka va b n ks vs F Rp P0 c hk) (P0.exa (i := 5) rfl) (t65 hw) (t66 hw) (fun _ q => notFace_of_selects (args := #[]) (mvT q (t68 hw))) (t68 hw) (t67 hw) (t8 hw) (t69 hw) (by decide) (lenOf pd0 rfl) rfl rfl (by decide) (by decide) (by decide) (by decide) rfl ?_
    rintro _ _ ⟨rfl, rfl⟩
    refine go_more (k' := 0) (n' := 0) (by decide) (by decide) ?_
    refine go_iload c9_18 rfl ?_
    refine go_icmp_eq c9_20 (fun b20 => ?_) (fun b20 => ?_)
    · refine go_iload c9_25 rfl ?_
      refine go_iload c9_26 rfl ?_
      refine go_icmp_ge c9_28 (fun b28 => ?_) (fun b28 => ?_)
      · refine go_iload c9_56 rfl ?_
        refine go_iload c9_57 rfl ?_
        refine go_icmp_ge c9_58 (fun b58 => ?_) (fun b58 => ?_)
        · refine go_push c9_75 ?_
          exact go_bret rfl c9_76 (by decide) (by decide) (by decide) ⟨_, rfl, rfl, rfl⟩
        · refine go_aload c9_61 rfl rfl ?_
          refine go_iload c9_62 rfl ?_
          refine go_callV1 (y := (⟨"com/example/satisfy/satisfy/reasoner/TrailTruncatePinLaw", "check", "(Lcom/example/satisfy/satisfy/reasoner/Trail;IIIILcom/example/satisfy/satisfy/reasoner/Reason;)Z"⟩ : MethodName)) (W := 0) (argsL := [(.int 3)]) (st := []) c9_63 (rm_reason3 l Z a0 hw h0 n0 sz t m con rea x0 x1 x2 x3 x4 x5 x6 x7 y0 y1 y2 y3 y4 y5 y6 y7 ka va b n ks vs F Rp P0 hr_y3) (P0.exa (i := 5) rfl) (t106 hw) (t107 hw) (fun _ q => notFace_of_selects (args := #[]) (mvT q (t109 hw))) (t109 hw) (t108 hw) (t8 hw) (t110 hw) (by decide) (lenOf pd5 rfl) rfl rfl (by decide) (by decide) (by decide) (by decide) rfl ?_
          rintro _ _ ⟨rfl, rfl⟩
          refine go_more (k' := 0) (n' := 0) (by decide) (by decide) ?_
          refine go_nonnullV c9_66 hr_y3 (fun b66 => ?_) (fun b66 => ?_)
          · refine go_push c9_73 ?_
            exact go_bret rfl c9_74 (by decide) (by decide) (by decide) ⟨_, rfl, (by exfalso; rcases Hy with ⟨q1, q2, q3, q4⟩ | ⟨q1, q2, q3⟩ <;> simp_all), rfl⟩
          · refine go_push c9_69 ?_
            refine go_goto c9_70 ?_
            exact go_bret rfl c9_74 (by decide) (by decide) (by decide) ⟨_, rfl, rfl, rfl⟩
      · refine go_aload c9_31 rfl rfl ?_
        refine go_iload c9_32 rfl ?_
        refine go_callV1 (y := (⟨"com/example/satisfy/satisfy/reasoner/TrailTruncatePinLaw", "check", "(Lcom/example/satisfy/satisfy/reasoner/Trail;IIIILcom/example/satisfy/satisfy/reasoner/Reason;)Z"⟩ : MethodName)) (W := 0) (argsL := [(.int 3)]) (st := []) c9_33 (rm_concept3 l Z a0 hw h0 n0 sz t m con rea x0 x1 x2 x3 x4 x5 x6 x7 y0 y1 y2 y3 y4 y5 y6 y7 ka va b n ks vs F Rp P0) (P0.exa (i := 5) rfl) (t101 hw) (t102 hw) (fun _ q => notFace_of_selects (args := #[]) (mvT q (t104 hw))) (t104 hw) (t103 hw) (t8 hw) (t105 hw) (by decide) (lenOf pd0 rfl) rfl rfl (by decide) (by decide) (by decide) (by decide) rfl ?_
        rintro _ _ ⟨rfl, rfl⟩
        refine go_more (k' := 0) (n' := 0) (by decide) (by decide) ?_
        refine go_iload c9_36 rfl ?_
        refine go_icmp_ne c9_37 (fun b37 => ?_) (fun b37 => ?_)
        · refine go_push c9_54 ?_
          exact go_bret rfl c9_55 (by decide) (by decide) (by decide) ⟨_, rfl, (by exfalso; rcases Hy with ⟨q1, q2, q3, q4⟩ | ⟨q1, q2, q3⟩ <;> simp_all), rfl⟩
        · refine go_aload c9_40 rfl rfl ?_
          refine go_iload c9_41 rfl ?_
          refine go_callV1 (y := (⟨"com/example/satisfy/satisfy/reasoner/TrailTruncatePinLaw", "check", "(Lcom/example/satisfy/satisfy/reasoner/Trail;IIIILcom/example/satisfy/satisfy/reasoner/Reason;)Z"⟩ : MethodName)) (W := 0) (argsL := [(.int 3)]) (st := []) c9_42 (rm_reason3 l Z a0 hw h0 n0 sz t m con rea x0 x1 x2 x3 x4 x5 x6 x7 y0 y1 y2 y3 y4 y5 y6 y7 ka va b n ks vs F Rp P0 hr_y3) (P0.exa (i := 5) rfl) (t106 hw) (t107 hw) (fun _ q => notFace_of_selects (args := #[]) (mvT q (t109 hw))) (t109 hw) (t108 hw) (t8 hw) (t110 hw) (by decide) (lenOf pd5 rfl) rfl rfl (by decide) (by decide) (by decide) (by decide) rfl ?_
          rintro _ _ ⟨rfl, rfl⟩
          refine go_more (k' := 0) (n' := 0) (by decide) (by decide) ?_
          refine go_aload c9_45 rfl rfl ?_
          refine go_acmp_ne c9_47 hr_y3 rfl (fun b47 => ?_) (fun b47 => ?_)
          · refine go_push c9_54 ?_
            exact go_bret rfl c9_55 (by decide) (by decide) (by decide) ⟨_, rfl, (by exfalso; rcases Hy with ⟨q1, q2, q3, q4⟩ | ⟨q1, q2, q3⟩ <;> simp_all), rfl⟩
          · refine go_push c9_50 ?_
            refine go_goto c9_51 ?_
            exact go_bret rfl c9_55 (by decide) (by decide) (by decide) ⟨_, rfl, rfl, rfl⟩
    · refine go_push c9_23 ?_
      exact go_bret rfl c9_24 (by decide) (by decide) (by decide) ⟨_, rfl, (by exfalso; rcases Hy with ⟨q1, q2, q3, q4⟩ | ⟨q1, q2, q3⟩ <;> simp_all), rfl⟩
set_option maxRecDepth 65536 in
set_option maxHeartbeats 4000000 in
theorem rm_min (l : Launch) (Z : State) (a0 : Array Value) (hw : ∀ d ∈ tables_1, d.before a0 Z = true) (h0 : Heap) (n0 : Nat) (a b : Int32) :
    Con false l Z (⟨"java/lang/Math", "min", "(II)I"⟩ : MethodName) jdk_29_method_69_code 2 (some .int) ({ frames := 0, cells := 0, slots := 0, locals := 0 } : Room) #[(.int a), (.int b)] h0 n0 (Ret (.int (own_min a b)) h0) := by
  refine con_of (ls := [.val (.int a), .val (.int b)]) (Jvm.Free.JP.mathPlain rfl (by decide +kernel)) rfl ?_
  refine go_iload c7_0 rfl ?_
  refine go_iload c7_1 rfl ?_
  refine go_icmp_gt c7_2 (fun b2 => ?_) (fun b2 => ?_)
  · refine go_iload c7_9 rfl ?_
    exact go_iret rfl c7_10 (by decide) (by decide) ⟨_, rfl, by simp [own_min, b2], rfl⟩
  · refine go_iload c7_5 rfl ?_
    refine go_goto c7_6 ?_
    exact go_iret rfl c7_10 (by decide) (by decide) ⟨_, rfl, by simp [own_min, b2], rfl⟩
set_option maxRecDepth 65536 in
set_option maxHeartbeats 4000000 in
theorem law_k0 (l : Launch) (Z : State) (a0 : Array Value) (hw : ∀ d ∈ tables_1, d.before a0 Z = true) (h0 : Heap) (n0 : Nat) (P0 : Hp Z n0 h0 []) (r : Addr) (hr : Exa Z Z.heap r "com/example/satisfy/satisfy/reasoner/Reason") (S0 : Sta Z Z.heap "com/example/satisfy/satisfy/reasoner/Reason" "NONE" "Lcom/example/satisfy/satisfy/reasoner/Reason;" (.ref r)) (n p a b c d : Int32) (pos : Int32) (hpos : ¬ pos < 0) :
    Go false KT l Z room_1 x code maxLocals ret n0 room_1.cells room_1.slots (R1 fun w _ => w = .int 1) h0 0 0 23 [.val (.int n), .val (.int p), .val (.int a), .val (.int b), .val (.int c), .val (.int d), .val (.int 0), .unset, .unset, .unset, .unset, .unset, .unset, .unset, .unset] [(.int pos)] := by
  refine go_istore c0_23 rfl rfl ?_
  dsimp only [setl]
  refine go_iload c0_25 rfl ?_
  refine go_ldcI (y := x) c0_26 (t1 hw) ?_
  refine go_iand c0_28 ?_
  refine go_nameI fun c0 e_c0 => ?_
  refine go_istore c0_29 rfl rfl ?_
  dsimp only [setl]
  refine go_iload c0_31 rfl ?_
  refine go_push c0_33 ?_
  refine go_iadd c0_34 ?_
  refine go_iload c0_35 rfl ?_
  refine go_ldcI (y := x) c0_36 (t2 hw) ?_
  refine go_iand c0_38 ?_
  refine go_iadd c0_39 ?_
  refine go_nameI fun c1 e_c1 => ?_
  refine go_istore c0_40 rfl rfl ?_
  dsimp only [setl]
  refine go_iload c0_42 rfl ?_
  refine go_push c0_44 ?_
  refine go_iadd c0_45 ?_
  refine go_iload c0_46 rfl ?_
  refine go_ldcI (y := x) c0_48 (t2 hw) ?_
  refine go_iand c0_50 ?_
  refine go_iadd c0_51 ?_
  refine go_nameI fun c2 e_c2 => ?_
  refine go_istore c0_52 rfl rfl ?_
  dsimp only [setl]
  refine go_iload c0_54 rfl ?_
  refine go_push c0_56 ?_
  refine go_iadd c0_57 ?_
  refine go_iload c0_58 rfl ?_
  refine go_ldcI (y := x) c0_60 (t2 hw) ?_
  refine go_iand c0_62 ?_
  refine go_iadd c0_63 ?_
  refine go_nameI fun c3 e_c3 => ?_
  obtain ⟨⟨hc0, hc1, hc2, hc3⟩, ⟨d01, d02, d03⟩, ⟨d10, d12, d13⟩, ⟨d20, d21, d23⟩, d30, d31, d32⟩ := own_cs a b c d c0 c1 c2 c3 e_c0 e_c1 e_c2 e_c3
  clear e_c0 e_c1 e_c2 e_c3
  refine go_istore c0_64 rfl rfl ?_
  dsimp only [setl]
  refine go_getS (y := x) (host := "") c0_66 (Or.inl (t3 hw)) Via.refl (S0.ext P0.1.2) ?_
  refine go_astore c0_69 rfl rfl rfl ?_
  dsimp only [setl]
  refine go_new (y := x) P0 [(("com/example/satisfy/satisfy/reasoner/Trail", "concepts", "[I"), .null), (("com/example/satisfy/satisfy/reasoner/Trail", "reasons", "[Lcom/example/satisfy/satisfy/reasoner/Reason;"), .null), (("com/example/satisfy/satisfy/reasoner/Trail", "positions", "Lcom/example/satisfy/satisfy/reasoner/IntMap;"), .null), (("com/example/satisfy/satisfy/reasoner/Trail", "size", "I"), (.int 0))] c0_71 (t6 hw) (t7 hw) (t8 hw) (⟨⟨Or.inl (t17 hw), (.array .int), by decide, rfl⟩, ⟨⟨Or.inl (t21 hw), (.array (.object "com/example/satisfy/satisfy/reasoner/Reason")), by decide, rfl⟩, ⟨⟨Or.inr (t44 hw), (.object "com/example/satisfy/satisfy/reasoner/IntMap"), by decide, rfl⟩, ⟨⟨Or.inl (t51 hw), .int, by decide, rfl⟩, trivial⟩⟩⟩⟩) (by decide) (by decide) (by decide) ?_
  intro h1 a3 P2
  refine go_more (k' := 1) (n' := 4) (by decide) (by decide) ?_
  refine go_dup c0_74 rfl ?_
  refine go_callN0 (y := x) (W := 1) (argsL := []) (st := [(.ref a3)]) c0_75 rfl rfl (rm_tinit l Z a0 hw h1 n0 a3 P2) (t9 hw) (t10 hw) (t8 hw) (t11 hw) (by decide) (lenOf pd3 rfl) rfl rfl (by decide) (by decide) (by decide) (by decide) rfl ?_
  rintro h4 ⟨m, ka, va, rea, con, P5⟩
  refine go_more (k' := 6) (n' := 40) (by decide) (by decide) ?_
  refine go_astore c0_78 rfl rfl rfl ?_
  dsimp only [setl]
  refine go_iload c0_80 rfl ?_
  refine go_if_le c0_82 (fun _ => ?_) (fun q => absurd q (by decide))
  refine go_iload c0_94 rfl ?_
  refine go_push c0_96 ?_
  refine go_icmp_le c0_97 (fun _ => ?_) (fun q => absurd q (by decide))
  refine go_iload c0_109 rfl ?_
  refine go_push c0_111 ?_
  refine go_icmp_le c0_112 (fun _ => ?_) (fun q => absurd q (by decide))
  refine go_iload c0_124 rfl ?_
  refine go_push c0_126 ?_
  refine go_icmp_le c0_127 (fun _ => ?_) (fun q => absurd q (by decide))
  have hp := hpos
  refine go_aload c0_139 rfl rfl ?_
  refine go_iload c0_141 rfl ?_
  refine go_callV0 (y := x) (W := 0) (argsL := [(.int pos)]) (st := []) c0_143 (rm_tr0_0 l Z a0 hw h4 n0 a3 m con rea 0 0 0 0 0 0 0 0 .null .null .null .null .null .null .null .null ka va 1 0 (List.replicate (2 ^ 1) (-1)) (List.replicate (2 ^ 1) 0) (fun _ => -1) (own_empty 1 (by decide)) P5 pos hp) (P5.exa (i := 5) rfl) (t45 hw) (t46 hw) (fun _ q => notFace_of_selects (args := #[]) (mvT q (t48 hw))) (t48 hw) (t47 hw) (t8 hw) (t49 hw) (by decide) (lenOf pd2 rfl) rfl rfl (by decide) (by decide) (by decide) (by decide) rfl ?_
  rintro h7 ⟨n7, ks7, vs7, hle7, Rp7, P7⟩
  refine go_more (k' := 6) (n' := 40) (by decide) (by decide) ?_
  refine go_iload c0_146 rfl ?_
  refine go_iload c0_148 rfl ?_
  refine go_callS1 (y := x) (W := 0) (argsL := [(.int 0), (.int pos)]) (st := []) c0_150 (rm_min l Z a0 hw h7 n0 0 pos) (t52 hw) (t53 hw) (t54 hw) (t55 hw) (by decide) (lenOf pd6 rfl) rfl rfl (by decide) (by decide) (by decide) (by decide) rfl ?_
  rintro _ _ ⟨rfl, rfl⟩
  refine go_more (k' := 6) (n' := 40) (by decide) (by decide) ?_
  refine go_isI 0 (by unfold own_min; rw [if_neg hp]) ?_
  refine go_istore c0_153 rfl rfl ?_
  dsimp only [setl]
  refine go_aload c0_155 rfl rfl ?_
  refine go_callV1 (y := x) (W := 0) (argsL := []) (st := []) c0_157 (rm_size l Z a0 hw h7 n0 0 a3 m con rea 0 0 0 0 0 0 0 0 .null .null .null .null .null .null .null .null ka va 1 n7 ks7 vs7 (fun _ => -1) Rp7 P7) (P7.exa (i := 5) rfl) (t56 hw) (t57 hw) (fun _ q => notFace_of_selects (args := #[]) (mvT q (t59 hw))) (t59 hw) (t58 hw) (t8 hw) (t60 hw) (by decide) (lenOf pd7 rfl) rfl rfl (by decide) (by decide) (by decide) (by decide) rfl ?_
  rintro _ _ ⟨rfl, rfl⟩
  refine go_more (k' := 6) (n' := 40) (by decide) (by decide) ?_
  refine go_iload c0_160 rfl ?_
  refine go_icmp_ne c0_162 (fun q => absurd q (by decide)) (fun _ => ?_)
  refine go_aload c0_165 rfl rfl ?_
  refine go_push c0_167 ?_
  refine go_iload c0_168 rfl ?_
  refine go_iload c0_170 rfl ?_
  refine go_iload c0_172 rfl ?_
  refine go_aload c0_174 rfl rfl ?_
  refine go_callS1 (y := x) (W := 0) (argsL := [(.ref a3), (.int 0), (.int c0), (.int 0), (.int 0), (.ref r)]) (st := []) c0_176 (rm_chk0 l Z a0 hw h7 n0 0 a3 m con rea 0 0 0 0 0 0 0 0 .null .null .null .null .null .null .null .null ka va 1 n7 ks7 vs7 (fun _ => -1) Rp7 P7 rfl c0 0 0 r hc0 (Or.inr ⟨by decide, (by simp [own_up, d01, d02, d03, d10, d12, d13, d20, d21, d23, d30, d31, d32]), fun _ => rfl⟩)) (t61 hw) (t62 hw) (t63 hw) (t64 hw) (by decide) (lenOf pd8 rfl) rfl rfl (by decide) (by decide) (by decide) (by decide) rfl ?_
  rintro _ _ ⟨rfl, rfl⟩
  refine go_more (k' := 6) (n' := 40) (by decide) (by decide) ?_
  refine go_if_eq c0_179 (fun q => absurd q (by decide)) (fun _ => ?_)
  refine go_aload c0_182 rfl rfl ?_
  refine go_push c0_184 ?_
  refine go_iload c0_185 rfl ?_
  refine go_iload c0_187 rfl ?_
  refine go_iload c0_189 rfl ?_
  refine go_aload c0_191 rfl rfl ?_
  refine go_callS1 (y := x) (W := 0) (argsL := [(.ref a3), (.int 1), (.int c1), (.int 0), (.int 0), (.ref r)]) (st := []) c0_193 (rm_chk1 l Z a0 hw h7 n0 0 a3 m con rea 0 0 0 0 0 0 0 0 .null .null .null .null .null .null .null .null ka va 1 n7 ks7 vs7 (fun _ => -1) Rp7 P7 rfl c1 0 0 r hc1 (Or.inr ⟨by decide, (by simp [own_up, d01, d02, d03, d10, d12, d13, d20, d21, d23, d30, d31, d32]), fun _ => rfl⟩)) (t61 hw) (t62 hw) (t63 hw) (t64 hw) (by decide) (lenOf pd8 rfl) rfl rfl (by decide) (by decide) (by decide) (by decide) rfl ?_
  rintro _ _ ⟨rfl, rfl⟩
  refine go_more (k' := 6) (n' := 40) (by decide) (by decide) ?_
  refine go_if_eq c0_196 (fun q => absurd q (by decide)) (fun _ => ?_)
  refine go_aload c0_199 rfl rfl ?_
  refine go_push c0_201 ?_
  refine go_iload c0_202 rfl ?_
  refine go_iload c0_204 rfl ?_
  refine go_iload c0_206 rfl ?_
  refine go_aload c0_208 rfl rfl ?_
  refine go_callS1 (y := x) (W := 0) (argsL := [(.ref a3), (.int 2), (.int c2), (.int 0), (.int 0), (.ref r)]) (st := []) c0_210 (rm_chk2 l Z a0 hw h7 n0 0 a3 m con rea 0 0 0 0 0 0 0 0 .null .null .null .null .null .null .null .null ka va 1 n7 ks7 vs7 (fun _ => -1) Rp7 P7 rfl c2 0 0 r hc2 (Or.inr ⟨by decide, (by simp [own_up, d01, d02, d03, d10, d12, d13, d20, d21, d23, d30, d31, d32]), fun _ => rfl⟩)) (t61 hw) (t62 hw) (t63 hw) (t64 hw) (by decide) (lenOf pd8 rfl) rfl rfl (by decide) (by decide) (by decide) (by decide) rfl ?_
  rintro _ _ ⟨rfl, rfl⟩
  refine go_more (k' := 6) (n' := 40) (by decide) (by decide) ?_
  refine go_if_eq c0_213 (fun q => absurd q (by decide)) (fun _ => ?_)
  refine go_aload c0_216 rfl rfl ?_
  refine go_push c0_218 ?_
  refine go_iload c0_219 rfl ?_
  refine go_iload c0_221 rfl ?_
  refine go_iload c0_223 rfl ?_
  refine go_aload c0_225 rfl rfl ?_
  refine go_callS1 (y := x) (W := 0) (argsL := [(.ref a3), (.int 3), (.int c3), (.int 0), (.int 0), (.ref r)]) (st := []) c0_227 (rm_chk3 l Z a0 hw h7 n0 0 a3 m con rea 0 0 0 0 0 0 0 0 .null .null .null .null .null .null .null .null ka va 1 n7 ks7 vs7 (fun _ => -1) Rp7 P7 rfl c3 0 0 r hc3 (Or.inr ⟨by decide, (by simp [own_up, d01, d02, d03, d10, d12, d13, d20, d21, d23, d30, d31, d32]), fun _ => rfl⟩)) (t61 hw) (t62 hw) (t63 hw) (t64 hw) (by decide) (lenOf pd8 rfl) rfl rfl (by decide) (by decide) (by decide) (by decide) rfl ?_
  rintro _ _ ⟨rfl, rfl⟩
  refine go_more (k' := 6) (n' := 40) (by decide) (by decide) ?_
  refine go_if_eq c0_230 (fun q => absurd q (by decide)) (fun _ => ?_)
  refine go_push c0_233 ?_
  refine go_goto c0_234 ?_
  exact go_bret rfl c0_238 (by decide) (by decide) (by decide) ⟨_, rfl, rfl⟩
set_option maxRecDepth 65536 in
set_option maxHeartbeats 4000000 in
theorem law_k1 (l : Launch) (Z : State) (a0 : Array Value) (hw : ∀ d ∈ tables_1, d.before a0 Z = true) (h0 : Heap) (n0 : Nat) (P0 : Hp Z n0 h0 []) (r : Addr) (hr : Exa Z Z.heap r "com/example/satisfy/satisfy/reasoner/Reason") (S0 : Sta Z Z.heap "com/example/satisfy/satisfy/reasoner/Reason" "NONE" "Lcom/example/satisfy/satisfy/reasoner/Reason;" (.ref r)) (n p a b c d : Int32) (pos : Int32) (hpos : ¬ pos < 0) :
    Go false KT l Z room_1 x code maxLocals ret n0 room_1.cells room_1.slots (R1 fun w _ => w = .int 1) h0 0 0 23 [.val (.int n), .val (.int p), .val (.int a), .val (.int b), .val (.int c), .val (.int d), .val (.int 1), .unset, .unset, .unset, .unset, .unset, .unset, .unset, .unset] [(.int pos)] := by
  refine go_istore c0_23 rfl rfl ?_
  dsimp only [setl]
  refine go_iload c0_25 rfl ?_
  refine go_ldcI (y := x) c0_26 (t1 hw) ?_
  refine go_iand c0_28 ?_
  refine go_nameI fun c0 e_c0 => ?_
  refine go_istore c0_29 rfl rfl ?_
  dsimp only [setl]
  refine go_iload c0_31 rfl ?_
  refine go_push c0_33 ?_
  refine go_iadd c0_34 ?_
  refine go_iload c0_35 rfl ?_
  refine go_ldcI (y := x) c0_36 (t2 hw) ?_
  refine go_iand c0_38 ?_
  refine go_iadd c0_39 ?_
  refine go_nameI fun c1 e_c1 => ?_
  refine go_istore c0_40 rfl rfl ?_
  dsimp only [setl]
  refine go_iload c0_42 rfl ?_
  refine go_push c0_44 ?_
  refine go_iadd c0_45 ?_
  refine go_iload c0_46 rfl ?_
  refine go_ldcI (y := x) c0_48 (t2 hw) ?_
  refine go_iand c0_50 ?_
  refine go_iadd c0_51 ?_
  refine go_nameI fun c2 e_c2 => ?_
  refine go_istore c0_52 rfl rfl ?_
  dsimp only [setl]
  refine go_iload c0_54 rfl ?_
  refine go_push c0_56 ?_
  refine go_iadd c0_57 ?_
  refine go_iload c0_58 rfl ?_
  refine go_ldcI (y := x) c0_60 (t2 hw) ?_
  refine go_iand c0_62 ?_
  refine go_iadd c0_63 ?_
  refine go_nameI fun c3 e_c3 => ?_
  obtain ⟨⟨hc0, hc1, hc2, hc3⟩, ⟨d01, d02, d03⟩, ⟨d10, d12, d13⟩, ⟨d20, d21, d23⟩, d30, d31, d32⟩ := own_cs a b c d c0 c1 c2 c3 e_c0 e_c1 e_c2 e_c3
  clear e_c0 e_c1 e_c2 e_c3
  refine go_istore c0_64 rfl rfl ?_
  dsimp only [setl]
  refine go_getS (y := x) (host := "") c0_66 (Or.inl (t3 hw)) Via.refl (S0.ext P0.1.2) ?_
  refine go_astore c0_69 rfl rfl rfl ?_
  dsimp only [setl]
  refine go_new (y := x) P0 [(("com/example/satisfy/satisfy/reasoner/Trail", "concepts", "[I"), .null), (("com/example/satisfy/satisfy/reasoner/Trail", "reasons", "[Lcom/example/satisfy/satisfy/reasoner/Reason;"), .null), (("com/example/satisfy/satisfy/reasoner/Trail", "positions", "Lcom/example/satisfy/satisfy/reasoner/IntMap;"), .null), (("com/example/satisfy/satisfy/reasoner/Trail", "size", "I"), (.int 0))] c0_71 (t6 hw) (t7 hw) (t8 hw) (⟨⟨Or.inl (t17 hw), (.array .int), by decide, rfl⟩, ⟨⟨Or.inl (t21 hw), (.array (.object "com/example/satisfy/satisfy/reasoner/Reason")), by decide, rfl⟩, ⟨⟨Or.inr (t44 hw), (.object "com/example/satisfy/satisfy/reasoner/IntMap"), by decide, rfl⟩, ⟨⟨Or.inl (t51 hw), .int, by decide, rfl⟩, trivial⟩⟩⟩⟩) (by decide) (by decide) (by decide) ?_
  intro h1 a3 P2
  refine go_more (k' := 1) (n' := 4) (by decide) (by decide) ?_
  refine go_dup c0_74 rfl ?_
  refine go_callN0 (y := x) (W := 1) (argsL := []) (st := [(.ref a3)]) c0_75 rfl rfl (rm_tinit l Z a0 hw h1 n0 a3 P2) (t9 hw) (t10 hw) (t8 hw) (t11 hw) (by decide) (lenOf pd3 rfl) rfl rfl (by decide) (by decide) (by decide) (by decide) rfl ?_
  rintro h4 ⟨m, ka, va, rea, con, P5⟩
  refine go_more (k' := 6) (n' := 40) (by decide) (by decide) ?_
  refine go_astore c0_78 rfl rfl rfl ?_
  dsimp only [setl]
  refine go_iload c0_80 rfl ?_
  refine go_if_le c0_82 (fun q => absurd q (by decide)) (fun _ => ?_)
  refine go_aload c0_85 rfl rfl ?_
  refine go_iload c0_87 rfl ?_
  refine go_aload c0_89 rfl rfl ?_
  refine go_callV0 (y := x) (W := 0) (argsL := [(.int c0), (.ref r)]) (st := []) c0_91 (rm_add0 l Z a0 hw h4 n0 a3 m con rea 0 0 0 0 0 0 0 0 .null .null .null .null .null .null .null .null ka va 1 0 (List.replicate (2 ^ 1) (-1)) (List.replicate (2 ^ 1) 0) (fun _ => -1) (own_empty 1 (by decide)) P5 r hr c0 hc0 (by omega)) (P5.exa (i := 5) rfl) (t84 hw) (t85 hw) (fun _ q => notFace_of_selects (args := #[]) (mvT q (t87 hw))) (t87 hw) (t86 hw) (t8 hw) (t88 hw) (by decide) (lenOf pd9 rfl) rfl rfl (by decide) (by decide) (by decide) (by decide) rfl ?_
  rintro h7 ⟨ka7, va7, b7, n7, ks7, vs7, hle7, Rp7, P7⟩
  refine go_more (k' := 8) (n' := 56) (by decide) (by decide) ?_
  refine go_iload c0_94 rfl ?_
  refine go_push c0_96 ?_
  refine go_icmp_le c0_97 (fun _ => ?_) (fun q => absurd q (by decide))
  refine go_iload c0_109 rfl ?_
  refine go_push c0_111 ?_
  refine go_icmp_le c0_112 (fun _ => ?_) (fun q => absurd q (by decide))
  refine go_iload c0_124 rfl ?_
  refine go_push c0_126 ?_
  refine go_icmp_le c0_127 (fun _ => ?_) (fun q => absurd q (by decide))
  have hq : pos = 0 ∨ ¬ pos < 1 := by
    by_cases q : pos < 1
    · rcases own_small pos hpos (own_lt_trans pos 1 5 q (by decide)) with rfl | rfl | rfl | rfl | rfl <;> first | decide | exact absurd q (by decide)
    · simp [q]
  rcases hq with rfl | hp
  · refine go_aload c0_139 rfl rfl ?_
    refine go_iload c0_141 rfl ?_
    refine go_callV0 (y := x) (W := 0) (argsL := [(.int 0)]) (st := []) c0_143 (rm_tr1_0 l Z a0 hw h7 n0 a3 m con rea c0 0 0 0 0 0 0 0 (.ref r) .null .null .null .null .null .null .null ka7 va7 b7 n7 ks7 vs7 (own_up (fun _ => -1) c0 0) Rp7 P7 hc0) (P7.exa (i := 5) rfl) (t45 hw) (t46 hw) (fun _ q => notFace_of_selects (args := #[]) (mvT q (t48 hw))) (t48 hw) (t47 hw) (t8 hw) (t49 hw) (by decide) (lenOf pd2 rfl) rfl rfl (by decide) (by decide) (by decide) (by decide) rfl ?_
    rintro h8 ⟨n8, ks8, vs8, hle8, Rp8, P8⟩
    refine go_more (k' := 8) (n' := 56) (by decide) (by decide) ?_
    refine go_iload c0_146 rfl ?_
    refine go_iload c0_148 rfl ?_
    refine go_callS1 (y := x) (W := 0) (argsL := [(.int 1), (.int 0)]) (st := []) c0_150 (rm_min l Z a0 hw h8 n0 1 0) (t52 hw) (t53 hw) (t54 hw) (t55 hw) (by decide) (lenOf pd6 rfl) rfl rfl (by decide) (by decide) (by decide) (by decide) rfl ?_
    rintro _ _ ⟨rfl, rfl⟩
    refine go_more (k' := 8) (n' := 56) (by decide) (by decide) ?_
    refine go_isI 0 (by decide) ?_
    refine go_istore c0_153 rfl rfl ?_
    dsimp only [setl]
    refine go_aload c0_155 rfl rfl ?_
    refine go_callV1 (y := x) (W := 0) (argsL := []) (st := []) c0_157 (rm_size l Z a0 hw h8 n0 0 a3 m con rea c0 0 0 0 0 0 0 0 .null .null .null .null .null .null .null .null ka7 va7 b7 n8 ks8 vs8 (own_up (own_up (fun _ => -1) c0 0) c0 (-1)) Rp8 P8) (P8.exa (i := 5) rfl) (t56 hw) (t57 hw) (fun _ q => notFace_of_selects (args := #[]) (mvT q (t59 hw))) (t59 hw) (t58 hw) (t8 hw) (t60 hw) (by decide) (lenOf pd7 rfl) rfl rfl (by decide) (by decide) (by decide) (by decide) rfl ?_
    rintro _ _ ⟨rfl, rfl⟩
    refine go_more (k' := 8) (n' := 56) (by decide) (by decide) ?_
    refine go_iload c0_160 rfl ?_
    refine go_icmp_ne c0_162 (fun q => absurd q (by decide)) (fun _ => ?_)
    refine go_aload c0_165 rfl rfl ?_
    refine go_push c0_167 ?_
    refine go_iload c0_168 rfl ?_
    refine go_iload c0_170 rfl ?_
    refine go_iload c0_172 rfl ?_
    refine go_aload c0_174 rfl rfl ?_
    refine go_callS1 (y := x) (W := 0) (argsL := [(.ref a3), (.int 0), (.int c0), (.int 1), (.int 0), (.ref r)]) (st := []) c0_176 (rm_chk0 l Z a0 hw h8 n0 0 a3 m con rea c0 0 0 0 0 0 0 0 .null .null .null .null .null .null .null .null ka7 va7 b7 n8 ks8 vs8 (own_up (own_up (fun _ => -1) c0 0) c0 (-1)) Rp8 P8 rfl c0 1 0 r hc0 (Or.inr ⟨by decide, (by simp [own_up, d01, d02, d03, d10, d12, d13, d20, d21, d23, d30, d31, d32]), fun _ => rfl⟩)) (t61 hw) (t62 hw) (t63 hw) (t64 hw) (by decide) (lenOf pd8 rfl) rfl rfl (by decide) (by decide) (by decide) (by decide) rfl ?_
    rintro _ _ ⟨rfl, rfl⟩
    refine go_more (k' := 8) (n' := 56) (by decide) (by decide) ?_
    refine go_if_eq c0_179 (fun q => absurd q (by decide)) (fun _ => ?_)
    refine go_aload c0_182 rfl rfl ?_
    refine go_push c0_184 ?_
    refine go_iload c0_185 rfl ?_
    refine go_iload c0_187 rfl ?_
    refine go_iload c0_189 rfl ?_
    refine go_aload c0_191 rfl rfl ?_
    refine go_callS1 (y := x) (W := 0) (argsL := [(.ref a3), (.int 1), (.int c1), (.int 1), (.int 0), (.ref r)]) (st := []) c0_193 (rm_chk1 l Z a0 hw h8 n0 0 a3 m con rea c0 0 0 0 0 0 0 0 .null .null .null .null .null .null .null .null ka7 va7 b7 n8 ks8 vs8 (own_up (own_up (fun _ => -1) c0 0) c0 (-1)) Rp8 P8 rfl c1 1 0 r hc1 (Or.inr ⟨by decide, (by simp [own_up, d01, d02, d03, d10, d12, d13, d20, d21, d23, d30, d31, d32]), fun _ => rfl⟩)) (t61 hw) (t62 hw) (t63 hw) (t64 hw) (by decide) (lenOf pd8 rfl) rfl rfl (by decide) (by decide) (by decide) (by decide) rfl ?_
    rintro _ _ ⟨rfl, rfl⟩
    refine go_more (k' := 8) (n' := 56) (by decide) (by decide) ?_
    refine go_if_eq c0_196 (fun q => absurd q (by decide)) (fun _ => ?_)
    refine go_aload c0_199 rfl rfl ?_
    refine go_push c0_201 ?_
    refine go_iload c0_202 rfl ?_
    refine go_iload c0_204 rfl ?_
    refine go_iload c0_206 rfl ?_
    refine go_aload c0_208 rfl rfl ?_
    refine go_callS1 (y := x) (W := 0) (argsL := [(.ref a3), (.int 2), (.int c2), (.int 1), (.int 0), (.ref r)]) (st := []) c0_210 (rm_chk2 l Z a0 hw h8 n0 0 a3 m con rea c0 0 0 0 0 0 0 0 .null .null .null .null .null .null .null .null ka7 va7 b7 n8 ks8 vs8 (own_up (own_up (fun _ => -1) c0 0) c0 (-1)) Rp8 P8 rfl c2 1 0 r hc2 (Or.inr ⟨by decide, (by simp [own_up, d01, d02, d03, d10, d12, d13, d20, d21, d23, d30, d31, d32]), fun _ => rfl⟩)) (t61 hw) (t62 hw) (t63 hw) (t64 hw) (by decide) (lenOf pd8 rfl) rfl rfl (by decide) (by decide) (by decide) (by decide) rfl ?_
    rintro _ _ ⟨rfl, rfl⟩
    refine go_more (k' := 8) (n' := 56) (by decide) (by decide) ?_
    refine go_if_eq c0_213 (fun q => absurd q (by decide)) (fun _ => ?_)
    refine go_aload c0_216 rfl rfl ?_
    refine go_push c0_218 ?_
    refine go_iload c0_219 rfl ?_
    refine go_iload c0_221 rfl ?_
    refine go_iload c0_223 rfl ?_
    refine go_aload c0_225 rfl rfl ?_
    refine go_callS1 (y := x) (W := 0) (argsL := [(.ref a3), (.int 3), (.int c3), (.int 1), (.int 0), (.ref r)]) (st := []) c0_227 (rm_chk3 l Z a0 hw h8 n0 0 a3 m con rea c0 0 0 0 0 0 0 0 .null .null .null .null .null .null .null .null ka7 va7 b7 n8 ks8 vs8 (own_up (own_up (fun _ => -1) c0 0) c0 (-1)) Rp8 P8 rfl c3 1 0 r hc3 (Or.inr ⟨by decide, (by simp [own_up, d01, d02, d03, d10, d12, d13, d20, d21, d23, d30, d31, d32]), fun _ => rfl⟩)) (t61 hw) (t62 hw) (t63 hw) (t64 hw) (by decide) (lenOf pd8 rfl) rfl rfl (by decide) (by decide) (by decide) (by decide) rfl ?_
    rintro _ _ ⟨rfl, rfl⟩
    refine go_more (k' := 8) (n' := 56) (by decide) (by decide) ?_
    refine go_if_eq c0_230 (fun q => absurd q (by decide)) (fun _ => ?_)
    refine go_push c0_233 ?_
    refine go_goto c0_234 ?_
    exact go_bret rfl c0_238 (by decide) (by decide) (by decide) ⟨_, rfl, rfl⟩
  · refine go_aload c0_139 rfl rfl ?_
    refine go_iload c0_141 rfl ?_
    refine go_callV0 (y := x) (W := 0) (argsL := [(.int pos)]) (st := []) c0_143 (rm_tr1_1 l Z a0 hw h7 n0 a3 m con rea c0 0 0 0 0 0 0 0 (.ref r) .null .null .null .null .null .null .null ka7 va7 b7 n7 ks7 vs7 (own_up (fun _ => -1) c0 0) Rp7 P7 pos hp) (P7.exa (i := 5) rfl) (t45 hw) (t46 hw) (fun _ q => notFace_of_selects (args := #[]) (mvT q (t48 hw))) (t48 hw) (t47 hw) (t8 hw) (t49 hw) (by decide) (lenOf pd2 rfl) rfl rfl (by decide) (by decide) (by decide) (by decide) rfl ?_
    rintro h9 ⟨n9, ks9, vs9, hle9, Rp9, P9⟩
    refine go_more (k' := 8) (n' := 56) (by decide) (by decide) ?_
    refine go_iload c0_146 rfl ?_
    refine go_iload c0_148 rfl ?_
    refine go_callS1 (y := x) (W := 0) (argsL := [(.int 1), (.int pos)]) (st := []) c0_150 (rm_min l Z a0 hw h9 n0 1 pos) (t52 hw) (t53 hw) (t54 hw) (t55 hw) (by decide) (lenOf pd6 rfl) rfl rfl (by decide) (by decide) (by decide) (by decide) rfl ?_
    rintro _ _ ⟨rfl, rfl⟩
    refine go_more (k' := 8) (n' := 56) (by decide) (by decide) ?_
    refine go_isI 1 (by unfold own_min; rw [if_neg hp]) ?_
    refine go_istore c0_153 rfl rfl ?_
    dsimp only [setl]
    refine go_aload c0_155 rfl rfl ?_
    refine go_callV1 (y := x) (W := 0) (argsL := []) (st := []) c0_157 (rm_size l Z a0 hw h9 n0 1 a3 m con rea c0 0 0 0 0 0 0 0 (.ref r) .null .null .null .null .null .null .null ka7 va7 b7 n9 ks9 vs9 (own_up (fun _ => -1) c0 0) Rp9 P9) (P9.exa (i := 5) rfl) (t56 hw) (t57 hw) (fun _ q => notFace_of_selects (args := #[]) (mvT q (t59 hw))) (t59 hw) (t58 hw) (t8 hw) (t60 hw) (by decide) (lenOf pd7 rfl) rfl rfl (by decide) (by decide) (by decide) (by decide) rfl ?_
    rintro _ _ ⟨rfl, rfl⟩
    refine go_more (k' := 8) (n' := 56) (by decide) (by decide) ?_
    refine go_iload c0_160 rfl ?_
    refine go_icmp_ne c0_162 (fun q => absurd q (by decide)) (fun _ => ?_)
    refine go_aload c0_165 rfl rfl ?_
    refine go_push c0_167 ?_
    refine go_iload c0_168 rfl ?_
    refine go_iload c0_170 rfl ?_
    refine go_iload c0_172 rfl ?_
    refine go_aload c0_174 rfl rfl ?_
    refine go_callS1 (y := x) (W := 0) (argsL := [(.ref a3), (.int 0), (.int c0), (.int 1), (.int 1), (.ref r)]) (st := []) c0_176 (rm_chk0 l Z a0 hw h9 n0 1 a3 m con rea c0 0 0 0 0 0 0 0 (.ref r) .null .null .null .null .null .null .null ka7 va7 b7 n9 ks9 vs9 (own_up (fun _ => -1) c0 0) Rp9 P9 rfl c0 1 1 r hc0 (Or.inl ⟨by decide, (by simp [own_up, d01, d02, d03, d10, d12, d13, d20, d21, d23, d30, d31, d32]), rfl, rfl⟩)) (t61 hw) (t62 hw) (t63 hw) (t64 hw) (by decide) (lenOf pd8 rfl) rfl rfl (by decide) (by decide) (by decide) (by decide) rfl ?_
    rintro _ _ ⟨rfl, rfl⟩
    refine go_more (k' := 8) (n' := 56) (by decide) (by decide) ?_
    refine go_if_eq c0_179 (fun q => absurd q (by decide)) (fun _ => ?_)
    refine go_aload c0_182 rfl rfl ?_
    refine go_push c0_184 ?_
    refine go_iload c0_185 rfl ?_
    refine go_iload c0_187 rfl ?_
    refine go_iload c0_189 rfl ?_
    refine go_aload c0_191 rfl rfl ?_
    refine go_callS1 (y := x) (W := 0) (argsL := [(.ref a3), (.int 1), (.int c1), (.int 1), (.int 1), (.ref r)]) (st := []) c0_193 (rm_chk1 l Z a0 hw h9 n0 1 a3 m con rea c0 0 0 0 0 0 0 0 (.ref r) .null .null .null .null .null .null .null ka7 va7 b7 n9 ks9 vs9 (own_up (fun _ => -1) c0 0) Rp9 P9 rfl c1 1 1 r hc1 (Or.inr ⟨by decide, (by simp [own_up, d01, d02, d03, d10, d12, d13, d20, d21, d23, d30, d31, d32]), fun _ => rfl⟩)) (t61 hw) (t62 hw) (t63 hw) (t64 hw) (by decide) (lenOf pd8 rfl) rfl rfl (by decide) (by decide) (by decide) (by decide) rfl ?_
    rintro _ _ ⟨rfl, rfl⟩
    refine go_more (k' := 8) (n' := 56) (by decide) (by decide) ?_
    refine go_if_eq c0_196 (fun q => absurd q (by decide)) (fun _ => ?_)
    refine go_aload c0_199 rfl rfl ?_
    refine go_push c0_201 ?_
    refine go_iload c0_202 rfl ?_
    refine go_iload c0_204 rfl ?_
    refine go_iload c0_206 rfl ?_
    refine go_aload c0_208 rfl rfl ?_
    refine go_callS1 (y := x) (W := 0) (argsL := [(.ref a3), (.int 2), (.int c2), (.int 1), (.int 1), (.ref r)]) (st := []) c0_210 (rm_chk2 l Z a0 hw h9 n0 1 a3 m con rea c0 0 0 0 0 0 0 0 (.ref r) .null .null .null .null .null .null .null ka7 va7 b7 n9 ks9 vs9 (own_up (fun _ => -1) c0 0) Rp9 P9 rfl c2 1 1 r hc2 (Or.inr ⟨by decide, (by simp [own_up, d01, d02, d03, d10, d12, d13, d20, d21, d23, d30, d31, d32]), fun _ => rfl⟩)) (t61 hw) (t62 hw) (t63 hw) (t64 hw) (by decide) (lenOf pd8 rfl) rfl rfl (by decide) (by decide) (by decide) (by decide) rfl ?_
    rintro _ _ ⟨rfl, rfl⟩
    refine go_more (k' := 8) (n' := 56) (by decide) (by decide) ?_
    refine go_if_eq c0_213 (fun q => absurd q (by decide)) (fun _ => ?_)
    refine go_aload c0_216 rfl rfl ?_
    refine go_push c0_218 ?_
    refine go_iload c0_219 rfl ?_
    refine go_iload c0_221 rfl ?_
    refine go_iload c0_223 rfl ?_
    refine go_aload c0_225 rfl rfl ?_
    refine go_callS1 (y := x) (W := 0) (argsL := [(.ref a3), (.int 3), (.int c3), (.int 1), (.int 1), (.ref r)]) (st := []) c0_227 (rm_chk3 l Z a0 hw h9 n0 1 a3 m con rea c0 0 0 0 0 0 0 0 (.ref r) .null .null .null .null .null .null .null ka7 va7 b7 n9 ks9 vs9 (own_up (fun _ => -1) c0 0) Rp9 P9 rfl c3 1 1 r hc3 (Or.inr ⟨by decide, (by simp [own_up, d01, d02, d03, d10, d12, d13, d20, d21, d23, d30, d31, d32]), fun _ => rfl⟩)) (t61 hw) (t62 hw) (t63 hw) (t64 hw) (by decide) (lenOf pd8 rfl) rfl rfl (by decide) (by decide) (by decide) (by decide) rfl ?_
    rintro _ _ ⟨rfl, rfl⟩
    refine go_more (k' := 8) (n' := 56) (by decide) (by decide) ?_
    refine go_if_eq c0_230 (fun q => absurd q (by decide)) (fun _ => ?_)
    refine go_push c0_233 ?_
    refine go_goto c0_234 ?_
    exact go_bret rfl c0_238 (by decide) (by decide) (by decide) ⟨_, rfl, rfl⟩
set_option maxRecDepth 65536 in
set_option maxHeartbeats 4000000 in
theorem law_k2 (l : Launch) (Z : State) (a0 : Array Value) (hw : ∀ d ∈ tables_1, d.before a0 Z = true) (h0 : Heap) (n0 : Nat) (P0 : Hp Z n0 h0 []) (r : Addr) (hr : Exa Z Z.heap r "com/example/satisfy/satisfy/reasoner/Reason") (S0 : Sta Z Z.heap "com/example/satisfy/satisfy/reasoner/Reason" "NONE" "Lcom/example/satisfy/satisfy/reasoner/Reason;" (.ref r)) (n p a b c d : Int32) (pos : Int32) (hpos : ¬ pos < 0) :
    Go false KT l Z room_1 x code maxLocals ret n0 room_1.cells room_1.slots (R1 fun w _ => w = .int 1) h0 0 0 23 [.val (.int n), .val (.int p), .val (.int a), .val (.int b), .val (.int c), .val (.int d), .val (.int 2), .unset, .unset, .unset, .unset, .unset, .unset, .unset, .unset] [(.int pos)] := by
  refine go_istore c0_23 rfl rfl ?_
  dsimp only [setl]
  refine go_iload c0_25 rfl ?_
  refine go_ldcI (y := x) c0_26 (t1 hw) ?_
  refine go_iand c0_28 ?_
  refine go_nameI fun c0 e_c0 => ?_
  refine go_istore c0_29 rfl rfl ?_
  dsimp only [setl]
  refine go_iload c0_31 rfl ?_
  refine go_push c0_33 ?_
  refine go_iadd c0_34 ?_
  refine go_iload c0_35 rfl ?_
  refine go_ldcI (y := x) c0_36 (t2 hw) ?_
  refine go_iand c0_38 ?_
  refine go_iadd c0_39 ?_
  refine go_nameI fun c1 e_c1 => ?_
  refine go_istore c0_40 rfl rfl ?_
  dsimp only [setl]
  refine go_iload c0_42 rfl ?_
  refine go_push c0_44 ?_
  refine go_iadd c0_45 ?_
  refine go_iload c0_46 rfl ?_
  refine go_ldcI (y := x) c0_48 (t2 hw) ?_
  refine go_iand c0_50 ?_
  refine go_iadd c0_51 ?_
  refine go_nameI fun c2 e_c2 => ?_
  refine go_istore c0_52 rfl rfl ?_
  dsimp only [setl]
  refine go_iload c0_54 rfl ?_
  refine go_push c0_56 ?_
  refine go_iadd c0_57 ?_
  refine go_iload c0_58 rfl ?_
  refine go_ldcI (y := x) c0_60 (t2 hw) ?_
  refine go_iand c0_62 ?_
  refine go_iadd c0_63 ?_
  refine go_nameI fun c3 e_c3 => ?_
  obtain ⟨⟨hc0, hc1, hc2, hc3⟩, ⟨d01, d02, d03⟩, ⟨d10, d12, d13⟩, ⟨d20, d21, d23⟩, d30, d31, d32⟩ := own_cs a b c d c0 c1 c2 c3 e_c0 e_c1 e_c2 e_c3
  clear e_c0 e_c1 e_c2 e_c3
  refine go_istore c0_64 rfl rfl ?_
  dsimp only [setl]
  refine go_getS (y := x) (host := "") c0_66 (Or.inl (t3 hw)) Via.refl (S0.ext P0.1.2) ?_
  refine go_astore c0_69 rfl rfl rfl ?_
  dsimp only [setl]
  refine go_new (y := x) P0 [(("com/example/satisfy/satisfy/reasoner/Trail", "concepts", "[I"), .null), (("com/example/satisfy/satisfy/reasoner/Trail", "reasons", "[Lcom/example/satisfy/satisfy/reasoner/Reason;"), .null), (("com/example/satisfy/satisfy/reasoner/Trail", "positions", "Lcom/example/satisfy/satisfy/reasoner/IntMap;"), .null), (("com/example/satisfy/satisfy/reasoner/Trail", "size", "I"), (.int 0))] c0_71 (t6 hw) (t7 hw) (t8 hw) (⟨⟨Or.inl (t17 hw), (.array .int), by decide, rfl⟩, ⟨⟨Or.inl (t21 hw), (.array (.object "com/example/satisfy/satisfy/reasoner/Reason")), by decide, rfl⟩, ⟨⟨Or.inr (t44 hw), (.object "com/example/satisfy/satisfy/reasoner/IntMap"), by decide, rfl⟩, ⟨⟨Or.inl (t51 hw), .int, by decide, rfl⟩, trivial⟩⟩⟩⟩) (by decide) (by decide) (by decide) ?_
  intro h1 a3 P2
  refine go_more (k' := 1) (n' := 4) (by decide) (by decide) ?_
  refine go_dup c0_74 rfl ?_
  refine go_callN0 (y := x) (W := 1) (argsL := []) (st := [(.ref a3)]) c0_75 rfl rfl (rm_tinit l Z a0 hw h1 n0 a3 P2) (t9 hw) (t10 hw) (t8 hw) (t11 hw) (by decide) (lenOf pd3 rfl) rfl rfl (by decide) (by decide) (by decide) (by decide) rfl ?_
  rintro h4 ⟨m, ka, va, rea, con, P5⟩
  refine go_more (k' := 6) (n' := 40) (by decide) (by decide) ?_
  refine go_astore c0_78 rfl rfl rfl ?_
  dsimp only [setl]
  refine go_iload c0_80 rfl ?_
  refine go_if_le c0_82 (fun q => absurd q (by decide)) (fun _ => ?_)
  refine go_aload c0_85 rfl rfl ?_
  refine go_iload c0_87 rfl ?_
  refine go_aload c0_89 rfl rfl ?_
  refine go_callV0 (y := x) (W := 0) (argsL := [(.int c0), (.ref r)]) (st := []) c0_91 (rm_add0 l Z a0 hw h4 n0 a3 m con rea 0 0 0 0 0 0 0 0 .null .null .null .null .null .null .null .null ka va 1 0 (List.replicate (2 ^ 1) (-1)) (List.replicate (2 ^ 1) 0) (fun _ => -1) (own_empty 1 (by decide)) P5 r hr c0 hc0 (by omega)) (P5.exa (i := 5) rfl) (t84 hw) (t85 hw) (fun _ q => notFace_of_selects (args := #[]) (mvT q (t87 hw))) (t87 hw) (t86 hw) (t8 hw) (t88 hw) (by decide) (lenOf pd9 rfl) rfl rfl (by decide) (by decide) (by decide) (by decide) rfl ?_
  rintro h7 ⟨ka7, va7, b7, n7, ks7, vs7, hle7, Rp7, P7⟩
  refine go_more (k' := 8) (n' := 56) (by decide) (by decide) ?_
  refine go_iload c0_94 rfl ?_
  refine go_push c0_96 ?_
  refine go_icmp_le c0_97 (fun q => absurd q (by decide)) (fun _ => ?_)
  refine go_aload c0_100 rfl rfl ?_
  refine go_iload c0_102 rfl ?_
  refine go_aload c0_104 rfl rfl ?_
  refine go_callV0 (y := x) (W := 0) (argsL := [(.int c1), (.ref r)]) (st := []) c0_106 (rm_add1 l Z a0 hw h7 n0 a3 m con rea c0 0 0 0 0 0 0 0 (.ref r) .null .null .null .null .null .null .null ka7 va7 b7 n7 ks7 vs7 (own_up (fun _ => -1) c0 0) Rp7 P7 r hr c1 hc1 (by omega)) (P7.exa (i := 5) rfl) (t84 hw) (t85 hw) (fun _ q => notFace_of_selects (args := #[]) (mvT q (t87 hw))) (t87 hw) (t86 hw) (t8 hw) (t88 hw) (by decide) (lenOf pd9 rfl) rfl rfl (by decide) (by decide) (by decide) (by decide) rfl ?_
  rintro h8 ⟨ka8, va8, b8, n8, ks8, vs8, hle8, Rp8, P8⟩
  refine go_more (k' := 10) (n' := 72) (by decide) (by decide) ?_
  refine go_iload c0_109 rfl ?_
  refine go_push c0_111 ?_
  refine go_icmp_le c0_112 (fun _ => ?_) (fun q => absurd q (by decide))
  refine go_iload c0_124 rfl ?_
  refine go_push c0_126 ?_
  refine go_icmp_le c0_127 (fun _ => ?_) (fun q => absurd q (by decide))
  have hq : pos = 0 ∨ pos = 1 ∨ ¬ pos < 2 := by
    by_cases q : pos < 2
    · rcases own_small pos hpos (own_lt_trans pos 2 5 q (by decide)) with rfl | rfl | rfl | rfl | rfl <;> first | decide | exact absurd q (by decide)
    · simp [q]
  rcases hq with rfl | rfl | hp
  · refine go_aload c0_139 rfl rfl ?_
    refine go_iload c0_141 rfl ?_
    refine go_callV0 (y := x) (W := 0) (argsL := [(.int 0)]) (st := []) c0_143 (rm_tr2_0 l Z a0 hw h8 n0 a3 m con rea c0 c1 0 0 0 0 0 0 (.ref r) (.ref r) .null .null .null .null .null .null ka8 va8 b8 n8 ks8 vs8 (own_up (own_up (fun _ => -1) c0 0) c1 1) Rp8 P8 hc0 hc1) (P8.exa (i := 5) rfl) (t45 hw) (t46 hw) (fun _ q => notFace_of_selects (args := #[]) (mvT q (t48 hw))) (t48 hw) (t47 hw) (t8 hw) (t49 hw) (by decide) (lenOf pd2 rfl) rfl rfl (by decide) (by decide) (by decide) (by decide) rfl ?_
    rintro h9 ⟨n9, ks9, vs9, hle9, Rp9, P9⟩
    refine go_more (k' := 10) (n' := 72) (by decide) (by decide) ?_
    refine go_iload c0_146 rfl ?_
    refine go_iload c0_148 rfl ?_
    refine go_callS1 (y := x) (W := 0) (argsL := [(.int 2), (.int 0)]) (st := []) c0_150 (rm_min l Z a0 hw h9 n0 2 0) (t52 hw) (t53 hw) (t54 hw) (t55 hw) (by decide) (lenOf pd6 rfl) rfl rfl (by decide) (by decide) (by decide) (by decide) rfl ?_
    rintro _ _ ⟨rfl, rfl⟩
    refine go_more (k' := 10) (n' := 72) (by decide) (by decide) ?_
    refine go_isI 0 (by decide) ?_
    refine go_istore c0_153 rfl rfl ?_
    dsimp only [setl]
    refine go_aload c0_155 rfl rfl ?_
    refine go_callV1 (y := x) (W := 0) (argsL := []) (st := []) c0_157 (rm_size l Z a0 hw h9 n0 0 a3 m con rea c0 c1 0 0 0 0 0 0 .null .null .null .null .null .null .null .null ka8 va8 b8 n9 ks9 vs9 (own_up (own_up (own_up (own_up (fun _ => -1) c0 0) c1 1) c1 (-1)) c0 (-1)) Rp9 P9) (P9.exa (i := 5) rfl) (t56 hw) (t57 hw) (fun _ q => notFace_of_selects (args := #[]) (mvT q (t59 hw))) (t59 hw) (t58 hw) (t8 hw) (t60 hw) (by decide) (lenOf pd7 rfl) rfl rfl (by decide) (by decide) (by decide) (by decide) rfl ?_
    rintro _ _ ⟨rfl, rfl⟩
    refine go_more (k' := 10) (n' := 72) (by decide) (by decide) ?_
    refine go_iload c0_160 rfl ?_
    refine go_icmp_ne c0_162 (fun q => absurd q (by decide)) (fun _ => ?_)
    refine go_aload c0_165 rfl rfl ?_
    refine go_push c0_167 ?_
    refine go_iload c0_168 rfl ?_
    refine go_iload c0_170 rfl ?_
    refine go_iload c0_172 rfl ?_
    refine go_aload c0_174 rfl rfl ?_
    refine go_callS1 (y := x) (W := 0) (argsL := [(.ref a3), (.int 0), (.int c0), (.int 2), (.int 0), (.ref r)]) (st := []) c0_176 (rm_chk0 l Z a0 hw h9 n0 0 a3 m con rea c0 c1 0 0 0 0 0 0 .null .null .null .null .null .null .null .null ka8 va8 b8 n9 ks9 vs9 (own_up (own_up (own_up (own_up (fun _ => -1) c0 0) c1 1) c1 (-1)) c0 (-1)) Rp9 P9 rfl c0 2 0 r hc0 (Or.inr ⟨by decide, (by simp [own_up, d01, d02, d03, d10, d12, d13, d20, d21, d23, d30, d31, d32]), fun _ => rfl⟩)) (t61 hw) (t62 hw) (t63 hw) (t64 hw) (by decide) (lenOf pd8 rfl) rfl rfl (by decide) (by decide) (by decide) (by decide) rfl ?_
    rintro _ _ ⟨rfl, rfl⟩
    refine go_more (k' := 10) (n' := 72) (by decide) (by decide) ?_
    refine go_if_eq c0_179 (fun q => absurd q (by decide)) (fun _ => ?_)
    refine go_aload c0_182 rfl rfl ?_
    refine go_push c0_184 ?_
    refine go_iload c0_185 rfl ?_
    refine go_iload c0_187 rfl ?_
    refine go_iload c0_189 rfl ?_
    refine go_aload c0_191 rfl rfl ?_
    refine go_callS1 (y := x) (W := 0) (argsL := [(.ref a3), (.int 1), (.int c1), (.int 2), (.int 0), (.ref r)]) (st := []) c0_193 (rm_chk1 l Z a0 hw h9 n0 0 a3 m con rea c0 c1 0 0 0 0 0 0 .null .null .null .null .null .null .null .null ka8 va8 b8 n9 ks9 vs9 (own_up (own_up (own_up (own_up (fun _ => -1) c0 0) c1 1) c1 (-1)) c0 (-1)) Rp9 P9 rfl c1 2 0 r hc1 (Or.inr ⟨by decide, (by simp [own_up, d01, d02, d03, d10, d12, d13, d20, d21, d23, d30, d31, d32]), fun _ => rfl⟩)) (t61 hw) (t62 hw) (t63 hw) (t64 hw) (by decide) (lenOf pd8 rfl) rfl rfl (by decide) (by decide) (by decide) (by decide) rfl ?_
    rintro _ _ ⟨rfl, rfl⟩
    refine go_more (k' := 10) (n' := 72) (by decide) (by decide) ?_
    refine go_if_eq c0_196 (fun q => absurd q (by decide)) (fun _ => ?_)
    refine go_aload c0_199 rfl rfl ?_
    refine go_push c0_201 ?_
    refine go_iload c0_202 rfl ?_
    refine go_iload c0_204 rfl ?_
    refine go_iload c0_206 rfl ?_
    refine go_aload c0_208 rfl rfl ?_
    refine go_callS1 (y := x) (W := 0) (argsL := [(.ref a3), (.int 2), (.int c2), (.int 2), (.int 0), (.ref r)]) (st := []) c0_210 (rm_chk2 l Z a0 hw h9 n0 0 a3 m con rea c0 c1 0 0 0 0 0 0 .null .null .null .null .null .null .null .null ka8 va8 b8 n9 ks9 vs9 (own_up (own_up (own_up (own_up (fun _ => -1) c0 0) c1 1) c1 (-1)) c0 (-1)) Rp9 P9 rfl c2 2 0 r hc2 (Or.inr ⟨by decide, (by simp [own_up, d01, d02, d03, d10, d12, d13, d20, d21, d23, d30, d31, d32]), fun _ => rfl⟩)) (t61 hw) (t62 hw) (t63 hw) (t64 hw) (by decide) (lenOf pd8 rfl) rfl rfl (by decide) (by decide) (by decide) (by decide) rfl ?_
    rintro _ _ ⟨rfl, rfl⟩
    refine go_more (k' := 10) (n' := 72) (by decide) (by decide) ?_
    refine go_if_eq c0_213 (fun q => absurd q (by decide)) (fun _ => ?_)
    refine go_aload c0_216 rfl rfl ?_
    refine go_push c0_218 ?_
    refine go_iload c0_219 rfl ?_
    refine go_iload c0_221 rfl ?_
    refine go_iload c0_223 rfl ?_
    refine go_aload c0_225 rfl rfl ?_
    refine go_callS1 (y := x) (W := 0) (argsL := [(.ref a3), (.int 3), (.int c3), (.int 2), (.int 0), (.ref r)]) (st := []) c0_227 (rm_chk3 l Z a0 hw h9 n0 0 a3 m con rea c0 c1 0 0 0 0 0 0 .null .null .null .null .null .null .null .null ka8 va8 b8 n9 ks9 vs9 (own_up (own_up (own_up (own_up (fun _ => -1) c0 0) c1 1) c1 (-1)) c0 (-1)) Rp9 P9 rfl c3 2 0 r hc3 (Or.inr ⟨by decide, (by simp [own_up, d01, d02, d03, d10, d12, d13, d20, d21, d23, d30, d31, d32]), fun _ => rfl⟩)) (t61 hw) (t62 hw) (t63 hw) (t64 hw) (by decide) (lenOf pd8 rfl) rfl rfl (by decide) (by decide) (by decide) (by decide) rfl ?_
    rintro _ _ ⟨rfl, rfl⟩
    refine go_more (k' := 10) (n' := 72) (by decide) (by decide) ?_
    refine go_if_eq c0_230 (fun q => absurd q (by decide)) (fun _ => ?_)
    refine go_push c0_233 ?_
    refine go_goto c0_234 ?_
    exact go_bret rfl c0_238 (by decide) (by decide) (by decide) ⟨_, rfl, rfl⟩
  · refine go_aload c0_139 rfl rfl ?_
    refine go_iload c0_141 rfl ?_
    refine go_callV0 (y := x) (W := 0) (argsL := [(.int 1)]) (st := []) c0_143 (rm_tr2_1 l Z a0 hw h8 n0 a3 m con rea c0 c1 0 0 0 0 0 0 (.ref r) (.ref r) .null .null .null .null .null .null ka8 va8 b8 n8 ks8 vs8 (own_up (own_up (fun _ => -1) c0 0) c1 1) Rp8 P8 hc1) (P8.exa (i := 5) rfl) (t45 hw) (t46 hw) (fun _ q => notFace_of_selects (args := #[]) (mvT q (t48 hw))) (t48 hw) (t47 hw) (t8 hw) (t49 hw) (by decide) (lenOf pd2 rfl) rfl rfl (by decide) (by decide) (by decide) (by decide) rfl ?_
    rintro h10 ⟨n10, ks10, vs10, hle10, Rp10, P10⟩
    refine go_more (k' := 10) (n' := 72) (by decide) (by decide) ?_
    refine go_iload c0_146 rfl ?_
    refine go_iload c0_148 rfl ?_
    refine go_callS1 (y := x) (W := 0) (argsL := [(.int 2), (.int 1)]) (st := []) c0_150 (rm_min l Z a0 hw h10 n0 2 1) (t52 hw) (t53 hw) (t54 hw) (t55 hw) (by decide) (lenOf pd6 rfl) rfl rfl (by decide) (by decide) (by decide) (by decide) rfl ?_
    rintro _ _ ⟨rfl, rfl⟩
    refine go_more (k' := 10) (n' := 72) (by decide) (by decide) ?_
    refine go_isI 1 (by decide) ?_
    refine go_istore c0_153 rfl rfl ?_
    dsimp only [setl]
    refine go_aload c0_155 rfl rfl ?_
    refine go_callV1 (y := x) (W := 0) (argsL := []) (st := []) c0_157 (rm_size l Z a0 hw h10 n0 1 a3 m con rea c0 c1 0 0 0 0 0 0 (.ref r) .null .null .null .null .null .null .null ka8 va8 b8 n10 ks10 vs10 (own_up (own_up (own_up (fun _ => -1) c0 0) c1 1) c1 (-1)) Rp10 P10) (P10.exa (i := 5) rfl) (t56 hw) (t57 hw) (fun _ q => notFace_of_selects (args := #[]) (mvT q (t59 hw))) (t59 hw) (t58 hw) (t8 hw) (t60 hw) (by decide) (lenOf pd7 rfl) rfl rfl (by decide) (by decide) (by decide) (by decide) rfl ?_
    rintro _ _ ⟨rfl, rfl⟩
    refine go_more (k' := 10) (n' := 72) (by decide) (by decide) ?_
    refine go_iload c0_160 rfl ?_
    refine go_icmp_ne c0_162 (fun q => absurd q (by decide)) (fun _ => ?_)
    refine go_aload c0_165 rfl rfl ?_
    refine go_push c0_167 ?_
    refine go_iload c0_168 rfl ?_
    refine go_iload c0_170 rfl ?_
    refine go_iload c0_172 rfl ?_
    refine go_aload c0_174 rfl rfl ?_
    refine go_callS1 (y := x) (W := 0) (argsL := [(.ref a3), (.int 0), (.int c0), (.int 2), (.int 1), (.ref r)]) (st := []) c0_176 (rm_chk0 l Z a0 hw h10 n0 1 a3 m con rea c0 c1 0 0 0 0 0 0 (.ref r) .null .null .null .null .null .null .null ka8 va8 b8 n10 ks10 vs10 (own_up (own_up (own_up (fun _ => -1) c0 0) c1 1) c1 (-1)) Rp10 P10 rfl c0 2 1 r hc0 (Or.inl ⟨by decide, (by simp [own_up, d01, d02, d03, d10, d12, d13, d20, d21, d23, d30, d31, d32]), rfl, rfl⟩)) (t61 hw) (t62 hw) (t63 hw) (t64 hw) (by decide) (lenOf pd8 rfl) rfl rfl (by decide) (by decide) (by decide) (by decide) rfl ?_
    rintro _ _ ⟨rfl, rfl⟩
    refine go_more (k' := 10) (n' := 72) (by decide) (by decide) ?_
    refine go_if_eq c0_179 (fun q => absurd q (by decide)) (fun _ => ?_)
    refine go_aload c0_182 rfl rfl ?_
    refine go_push c0_184 ?_
    refine go_iload c0_185 rfl ?_
    refine go_iload c0_187 rfl ?_
    refine go_iload c0_189 rfl ?_
    refine go_aload c0_191 rfl rfl ?_
    refine go_callS1 (y := x) (W := 0) (argsL := [(.ref a3), (.int 1), (.int c1), (.int 2), (.int 1), (.ref r)]) (st := []) c0_193 (rm_chk1 l Z a0 hw h10 n0 1 a3 m con rea c0 c1 0 0 0 0 0 0 (.ref r) .null .null .null .null .null .null .null ka8 va8 b8 n10 ks10 vs10 (own_up (own_up (own_up (fun _ => -1) c0 0) c1 1) c1 (-1)) Rp10 P10 rfl c1 2 1 r hc1 (Or.inr ⟨by decide, (by simp [own_up, d01, d02, d03, d10, d12, d13, d20, d21, d23, d30, d31, d32]), fun _ => rfl⟩)) (t61 hw) (t62 hw) (t63 hw) (t64 hw) (by decide) (lenOf pd8 rfl) rfl rfl (by decide) (by decide) (by decide) (by decide) rfl ?_
    rintro _ _ ⟨rfl, rfl⟩
    refine go_more (k' := 10) (n' := 72) (by decide) (by decide) ?_
    refine go_if_eq c0_196 (fun q => absurd q (by decide)) (fun _ => ?_)
    refine go_aload c0_199 rfl rfl ?_
    refine go_push c0_201 ?_
    refine go_iload c0_202 rfl ?_
    refine go_iload c0_204 rfl ?_
    refine go_iload c0_206 rfl ?_
    refine go_aload c0_208 rfl rfl ?_
    refine go_callS1 (y := x) (W := 0) (argsL := [(.ref a3), (.int 2), (.int c2), (.int 2), (.int 1), (.ref r)]) (st := []) c0_210 (rm_chk2 l Z a0 hw h10 n0 1 a3 m con rea c0 c1 0 0 0 0 0 0 (.ref r) .null .null .null .null .null .null .null ka8 va8 b8 n10 ks10 vs10 (own_up (own_up (own_up (fun _ => -1) c0 0) c1 1) c1 (-1)) Rp10 P10 rfl c2 2 1 r hc2 (Or.inr ⟨by decide, (by simp [own_up, d01, d02, d03, d10, d12, d13, d20, d21, d23, d30, d31, d32]), fun _ => rfl⟩)) (t61 hw) (t62 hw) (t63 hw) (t64 hw) (by decide) (lenOf pd8 rfl) rfl rfl (by decide) (by decide) (by decide) (by decide) rfl ?_
    rintro _ _ ⟨rfl, rfl⟩
    refine go_more (k' := 10) (n' := 72) (by decide) (by decide) ?_
    refine go_if_eq c0_213 (fun q => absurd q (by decide)) (fun _ => ?_)
    refine go_aload c0_216 rfl rfl ?_
    refine go_push c0_218 ?_
    refine go_iload c0_219 rfl ?_
    refine go_iload c0_221 rfl ?_
    refine go_iload c0_223 rfl ?_
    refine go_aload c0_225 rfl rfl ?_
    refine go_callS1 (y := x) (W := 0) (argsL := [(.ref a3), (.int 3), (.int c3), (.int 2), (.int 1), (.ref r)]) (st := []) c0_227 (rm_chk3 l Z a0 hw h10 n0 1 a3 m con rea c0 c1 0 0 0 0 0 0 (.ref r) .null .null .null .null .null .null .null ka8 va8 b8 n10 ks10 vs10 (own_up (own_up (own_up (fun _ => -1) c0 0) c1 1) c1 (-1)) Rp10 P10 rfl c3 2 1 r hc3 (Or.inr ⟨by decide, (by simp [own_up, d01, d02, d03, d10, d12, d13, d20, d21, d23, d30, d31, d32]), fun _ => rfl⟩)) (t61 hw) (t62 hw) (t63 hw) (t64 hw) (by decide) (lenOf pd8 rfl) rfl rfl (by decide) (by decide) (by decide) (by decide) rfl ?_
    rintro _ _ ⟨rfl, rfl⟩
    refine go_more (k' := 10) (n' := 72) (by decide) (by decide) ?_
    refine go_if_eq c0_230 (fun q => absurd q (by decide)) (fun _ => ?_)
    refine go_push c0_233 ?_
    refine go_goto c0_234 ?_
    exact go_bret rfl c0_238 (by decide) (by decide) (by decide) ⟨_, rfl, rfl⟩
  · refine go_aload c0_139 rfl rfl ?_
    refine go_iload c0_141 rfl ?_
    refine go_callV0 (y := x) (W := 0) (argsL := [(.int pos)]) (st := []) c0_143 (rm_tr2_2 l Z a0 hw h8 n0 a3 m con rea c0 c1 0 0 0 0 0 0 (.ref r) (.ref r) .null .null .null .null .null .null ka8 va8 b8 n8 ks8 vs8 (own_up (own_up (fun _ => -1) c0 0) c1 1) Rp8 P8 pos hp) (P8.exa (i := 5) rfl) (t45 hw) (t46 hw) (fun _ q => notFace_of_selects (args := #[]) (mvT q (t48 hw))) (t48 hw) (t47 hw) (t8 hw) (t49 hw) (by decide) (lenOf pd2 rfl) rfl rfl (by decide) (by decide) (by decide) (by decide) rfl ?_
    rintro h11 ⟨n11, ks11, vs11, hle11, Rp11, P11⟩
    refine go_more (k' := 10) (n' := 72) (by decide) (by decide) ?_
    refine go_iload c0_146 rfl ?_
    refine go_iload c0_148 rfl ?_
    refine go_callS1 (y := x) (W := 0) (argsL := [(.int 2), (.int pos)]) (st := []) c0_150 (rm_min l Z a0 hw h11 n0 2 pos) (t52 hw) (t53 hw) (t54 hw) (t55 hw) (by decide) (lenOf pd6 rfl) rfl rfl (by decide) (by decide) (by decide) (by decide) rfl ?_
    rintro _ _ ⟨rfl, rfl⟩
    refine go_more (k' := 10) (n' := 72) (by decide) (by decide) ?_
    refine go_isI 2 (by unfold own_min; rw [if_neg hp]) ?_
    refine go_istore c0_153 rfl rfl ?_
    dsimp only [setl]
    refine go_aload c0_155 rfl rfl ?_
    refine go_callV1 (y := x) (W := 0) (argsL := []) (st := []) c0_157 (rm_size l Z a0 hw h11 n0 2 a3 m con rea c0 c1 0 0 0 0 0 0 (.ref r) (.ref r) .null .null .null .null .null .null ka8 va8 b8 n11 ks11 vs11 (own_up (own_up (fun _ => -1) c0 0) c1 1) Rp11 P11) (P11.exa (i := 5) rfl) (t56 hw) (t57 hw) (fun _ q => notFace_of_selects (args := #[]) (mvT q (t59 hw))) (t59 hw) (t58 hw) (t8 hw) (t60 hw) (by decide) (lenOf pd7 rfl) rfl rfl (by decide) (by decide) (by decide) (by decide) rfl ?_
    rintro _ _ ⟨rfl, rfl⟩
    refine go_more (k' := 10) (n' := 72) (by decide) (by decide) ?_
    refine go_iload c0_160 rfl ?_
    refine go_icmp_ne c0_162 (fun q => absurd q (by decide)) (fun _ => ?_)
    refine go_aload c0_165 rfl rfl ?_
    refine go_push c0_167 ?_
    refine go_iload c0_168 rfl ?_
    refine go_iload c0_170 rfl ?_
    refine go_iload c0_172 rfl ?_
    refine go_aload c0_174 rfl rfl ?_
    refine go_callS1 (y := x) (W := 0) (argsL := [(.ref a3), (.int 0), (.int c0), (.int 2), (.int 2), (.ref r)]) (st := []) c0_176 (rm_chk0 l Z a0 hw h11 n0 2 a3 m con rea c0 c1 0 0 0 0 0 0 (.ref r) (.ref r) .null .null .null .null .null .null ka8 va8 b8 n11 ks11 vs11 (own_up (own_up (fun _ => -1) c0 0) c1 1) Rp11 P11 rfl c0 2 2 r hc0 (Or.inl ⟨by decide, (by simp [own_up, d01, d02, d03, d10, d12, d13, d20, d21, d23, d30, d31, d32]), rfl, rfl⟩)) (t61 hw) (t62 hw) (t63 hw) (t64 hw) (by decide) (lenOf pd8 rfl) rfl rfl (by decide) (by decide) (by decide) (by decide) rfl ?_
    rintro _ _ ⟨rfl, rfl⟩
    refine go_more (k' := 10) (n' := 72) (by decide) (by decide) ?_
    refine go_if_eq c0_179 (fun q => absurd q (by decide)) (fun _ => ?_)
    refine go_aload c0_182 rfl rfl ?_
    refine go_push c0_184 ?_
    refine go_iload c0_185 rfl ?_
    refine go_iload c0_187 rfl ?_
    refine go_iload c0_189 rfl ?_
    refine go_aload c0_191 rfl rfl ?_
    refine go_callS1 (y := x) (W := 0) (argsL := [(.ref a3), (.int 1), (.int c1), (.int 2), (.int 2), (.ref r)]) (st := []) c0_193 (rm_chk1 l Z a0 hw h11 n0 2 a3 m con rea c0 c1 0 0 0 0 0 0 (.ref r) (.ref r) .null .null .null .null .null .null ka8 va8 b8 n11 ks11 vs11 (own_up (own_up (fun _ => -1) c0 0) c1 1) Rp11 P11 rfl c1 2 2 r hc1 (Or.inl ⟨by decide, (by simp [own_up, d01, d02, d03, d10, d12, d13, d20, d21, d23, d30, d31, d32]), rfl, rfl⟩)) (t61 hw) (t62 hw) (t63 hw) (t64 hw) (by decide) (lenOf pd8 rfl) rfl rfl (by decide) (by decide) (by decide) (by decide) rfl ?_
    rintro _ _ ⟨rfl, rfl⟩
    refine go_more (k' := 10) (n' := 72) (by decide) (by decide) ?_
    refine go_if_eq c0_196 (fun q => absurd q (by decide)) (fun _ => ?_)
    refine go_aload c0_199 rfl rfl ?_
    refine go_push c0_201 ?_
    refine go_iload c0_202 rfl ?_
    refine go_iload c0_204 rfl ?_
    refine go_iload c0_206 rfl ?_
    refine go_aload c0_208 rfl rfl ?_
    refine go_callS1 (y := x) (W := 0) (argsL := [(.ref a3), (.int 2), (.int c2), (.int 2), (.int 2), (.ref r)]) (st := []) c0_210 (rm_chk2 l Z a0 hw h11 n0 2 a3 m con rea c0 c1 0 0 0 0 0 0 (.ref r) (.ref r) .null .null .null .null .null .null ka8 va8 b8 n11 ks11 vs11 (own_up (own_up (fun _ => -1) c0 0) c1 1) Rp11 P11 rfl c2 2 2 r hc2 (Or.inr ⟨by decide, (by simp [own_up, d01, d02, d03, d10, d12, d13, d20, d21, d23, d30, d31, d32]), fun _ => rfl⟩)) (t61 hw) (t62 hw) (t63 hw) (t64 hw) (by decide) (lenOf pd8 rfl) rfl rfl (by decide) (by decide) (by decide) (by decide) rfl ?_
    rintro _ _ ⟨rfl, rfl⟩
    refine go_more (k' := 10) (n' := 72) (by decide) (by decide) ?_
    refine go_if_eq c0_213 (fun q => absurd q (by decide)) (fun _ => ?_)
    refine go_aload c0_216 rfl rfl ?_
    refine go_push c0_218 ?_
    refine go_iload c0_219 rfl ?_
    refine go_iload c0_221 rfl ?_
    refine go_iload c0_223 rfl ?_
    refine go_aload c0_225 rfl rfl ?_
    refine go_callS1 (y := x) (W := 0) (argsL := [(.ref a3), (.int 3), (.int c3), (.int 2), (.int 2), (.ref r)]) (st := []) c0_227 (rm_chk3 l Z a0 hw h11 n0 2 a3 m con rea c0 c1 0 0 0 0 0 0 (.ref r) (.ref r) .null .null .null .null .null .null ka8 va8 b8 n11 ks11 vs11 (own_up (own_up (fun _ => -1) c0 0) c1 1) Rp11 P11 rfl c3 2 2 r hc3 (Or.inr ⟨by decide, (by simp [own_up, d01, d02, d03, d10, d12, d13, d20, d21, d23, d30, d31, d32]), fun _ => rfl⟩)) (t61 hw) (t62 hw) (t63 hw) (t64 hw) (by decide) (lenOf pd8 rfl) rfl rfl (by decide) (by decide) (by decide) (by decide) rfl ?_
    rintro _ _ ⟨rfl, rfl⟩
    refine go_more (k' := 10) (n' := 72) (by decide) (by decide) ?_
    refine go_if_eq c0_230 (fun q => absurd q (by decide)) (fun _ => ?_)
    refine go_push c0_233 ?_
    refine go_goto c0_234 ?_
    exact go_bret rfl c0_238 (by decide) (by decide) (by decide) ⟨_, rfl, rfl⟩
set_option maxRecDepth 65536 in
set_option maxHeartbeats 4000000 in
theorem law_k3 (l : Launch) (Z : State) (a0 : Array Value) (hw : ∀ d ∈ tables_1, d.before a0 Z = true) (h0 : Heap) (n0 : Nat) (P0 : Hp Z n0 h0 []) (r : Addr) (hr : Exa Z Z.heap r "com/example/satisfy/satisfy/reasoner/Reason") (S0 : Sta Z Z.heap "com/example/satisfy/satisfy/reasoner/Reason" "NONE" "Lcom/example/satisfy/satisfy/reasoner/Reason;" (.ref r)) (n p a b c d : Int32) (pos : Int32) (hpos : ¬ pos < 0) :
    Go false KT l Z room_1 x code maxLocals ret n0 room_1.cells room_1.slots (R1 fun w _ => w = .int 1) h0 0 0 23 [.val (.int n), .val (.int p), .val (.int a), .val (.int b), .val (.int c), .val (.int d), .val (.int 3), .unset, .unset, .unset, .unset, .unset, .unset, .unset, .unset] [(.int pos)] := by
  refine go_istore c0_23 rfl rfl ?_
  dsimp only [setl]
  refine go_iload c0_25 rfl ?_
  refine go_ldcI (y := x) c0_26 (t1 hw) ?_
  refine go_iand c0_28 ?_
  refine go_nameI fun c0 e_c0 => ?_
  refine go_istore c0_29 rfl rfl ?_
  dsimp only [setl]
  refine go_iload c0_31 rfl ?_
  refine go_push c0_33 ?_
  refine go_iadd c0_34 ?_
  refine go_iload c0_35 rfl ?_
  refine go_ldcI (y := x) c0_36 (t2 hw) ?_
  refine go_iand c0_38 ?_
  refine go_iadd c0_39 ?_
  refine go_nameI fun c1 e_c1 => ?_
  refine go_istore c0_40 rfl rfl ?_
  dsimp only [setl]
  refine go_iload c0_42 rfl ?_
  refine go_push c0_44 ?_
  refine go_iadd c0_45 ?_
  refine go_iload c0_46 rfl ?_
  refine go_ldcI (y := x) c0_48 (t2 hw) ?_
  refine go_iand c0_50 ?_
  refine go_iadd c0_51 ?_
  refine go_nameI fun c2 e_c2 => ?_
  refine go_istore c0_52 rfl rfl ?_
  dsimp only [setl]
  refine go_iload c0_54 rfl ?_
  refine go_push c0_56 ?_
  refine go_iadd c0_57 ?_
  refine go_iload c0_58 rfl ?_
  refine go_ldcI (y := x) c0_60 (t2 hw) ?_
  refine go_iand c0_62 ?_
  refine go_iadd c0_63 ?_
  refine go_nameI fun c3 e_c3 => ?_
  obtain ⟨⟨hc0, hc1, hc2, hc3⟩, ⟨d01, d02, d03⟩, ⟨d10, d12, d13⟩, ⟨d20, d21, d23⟩, d30, d31, d32⟩ := own_cs a b c d c0 c1 c2 c3 e_c0 e_c1 e_c2 e_c3
  clear e_c0 e_c1 e_c2 e_c3
  refine go_istore c0_64 rfl rfl ?_
  dsimp only [setl]
  refine go_getS (y := x) (host := "") c0_66 (Or.inl (t3 hw)) Via.refl (S0.ext P0.1.2) ?_
  refine go_astore c0_69 rfl rfl rfl ?_
  dsimp only [setl]
  refine go_new (y := x) P0 [(("com/example/satisfy/satisfy/reasoner/Trail", "concepts", "[I"), .null), (("com/example/satisfy/satisfy/reasoner/Trail", "reasons", "[Lcom/example/satisfy/satisfy/reasoner/Reason;"), .null), (("com/example/satisfy/satisfy/reasoner/Trail", "positions", "Lcom/example/satisfy/satisfy/reasoner/IntMap;"), .null), (("com/example/satisfy/satisfy/reasoner/Trail", "size", "I"), (.int 0))] c0_71 (t6 hw) (t7 hw) (t8 hw) (⟨⟨Or.inl (t17 hw), (.array .int), by decide, rfl⟩, ⟨⟨Or.inl (t21 hw), (.array (.object "com/example/satisfy/satisfy/reasoner/Reason")), by decide, rfl⟩, ⟨⟨Or.inr (t44 hw), (.object "com/example/satisfy/satisfy/reasoner/IntMap"), by decide, rfl⟩, ⟨⟨Or.inl (t51 hw), .int, by decide, rfl⟩, trivial⟩⟩⟩⟩) (by decide) (by decide) (by decide) ?_
  intro h1 a3 P2
  refine go_more (k' := 1) (n' := 4) (by decide) (by decide) ?_
  refine go_dup c0_74 rfl ?_
  refine go_callN0 (y := x) (W := 1) (argsL := []) (st := [(.ref a3)]) c0_75 rfl rfl (rm_tinit l Z a0 hw h1 n0 a3 P2) (t9 hw) (t10 hw) (t8 hw) (t11 hw) (by decide) (lenOf pd3 rfl) rfl rfl (by decide) (by decide) (by decide) (by decide) rfl ?_
  rintro h4 ⟨m, ka, va, rea, con, P5⟩
  refine go_more (k' := 6) (n' := 40) (by decide) (by decide) ?_
  refine go_astore c0_78 rfl rfl rfl ?_
  dsimp only [setl]
  refine go_iload c0_80 rfl ?_
  refine go_if_le c0_82 (fun q => absurd q (by decide)) (fun _ => ?_)
  refine go_aload c0_85 rfl rfl ?_
  refine go_iload c0_87 rfl ?_
  refine go_aload c0_89 rfl rfl ?_
  refine go_callV0 (y := x) (W := 0) (argsL := [(.int c0), (.ref r)]) (st := []) c0_91 (rm_add0 l Z a0 hw h4 n0 a3 m con rea 0 0 0 0 0 0 0 0 .null .null .null .null .null .null .null .null ka va 1 0 (List.replicate (2 ^ 1) (-1)) (List.replicate (2 ^ 1) 0) (fun _ => -1) (own_empty 1 (by decide)) P5 r hr c0 hc0 (by omega)) (P5.exa (i := 5) rfl) (t84 hw) (t85 hw) (fun _ q => notFace_of_selects (args := #[]) (mvT q (t87 hw))) (t87 hw) (t86 hw) (t8 hw) (t88 hw) (by decide) (lenOf pd9 rfl) rfl rfl (by decide) (by decide) (by decide) (by decide) rfl ?_
  rintro h7 ⟨ka7, va7, b7, n7, ks7, vs7, hle7, Rp7, P7⟩
  refine go_more (k' := 8) (n' := 56) (by decide) (by decide) ?_
  refine go_iload c0_94 rfl ?_
  refine go_push c0_96 ?_
  refine go_icmp_le c0_97 (fun q => absurd q (by decide)) (fun _ => ?_)
  refine go_aload c0_100 rfl rfl ?_
  refine go_iload c0_102 rfl ?_
  refine go_aload c0_104 rfl rfl ?_
  refine go_callV0 (y := x) (W := 0) (argsL := [(.int c1), (.ref r)]) (st := []) c0_106 (rm_add1 l Z a0 hw h7 n0 a3 m con rea c0 0 0 0 0 0 0 0 (.ref r) .null .null .null .null .null .null .null ka7 va7 b7 n7 ks7 vs7 (own_up (fun _ => -1) c0 0) Rp7 P7 r hr c1 hc1 (by omega)) (P7.exa (i := 5) rfl) (t84 hw) (t85 hw) (fun _ q => notFace_of_selects (args := #[]) (mvT q (t87 hw))) (t87 hw) (t86 hw) (t8 hw) (t88 hw) (by decide) (lenOf pd9 rfl) rfl rfl (by decide) (by decide) (by decide) (by decide) rfl ?_
  rintro h8 ⟨ka8, va8, b8, n8, ks8, vs8, hle8, Rp8, P8⟩
  refine go_more (k' := 10) (n' := 72) (by decide) (by decide) ?_
  refine go_iload c0_109 rfl ?_
  refine go_push c0_111 ?_
  refine go_icmp_le c0_112 (fun q => absurd q (by decide)) (fun _ => ?_)
  refine go_aload c0_115 rfl rfl ?_
  refine go_iload c0_117 rfl ?_
  refine go_aload c0_119 rfl rfl ?_
  refine go_callV0 (y := x) (W := 0) (argsL := [(.int c2), (.ref r)]) (st := []) c0_121 (rm_add2 l Z a0 hw h8 n0 a3 m con rea c0 c1 0 0 0 0 0 0 (.ref r) (.ref r) .null .null .null .null .null .null ka8 va8 b8 n8 ks8 vs8 (own_up (own_up (fun _ => -1) c0 0) c1 1) Rp8 P8 r hr c2 hc2 (by omega)) (P8.exa (i := 5) rfl) (t84 hw) (t85 hw) (fun _ q => notFace_of_selects (args := #[]) (mvT q (t87 hw))) (t87 hw) (t86 hw) (t8 hw) (t88 hw) (by decide) (lenOf pd9 rfl) rfl rfl (by decide) (by decide) (by decide) (by decide) rfl ?_
  rintro h9 ⟨ka9, va9, b9, n9, ks9, vs9, hle9, Rp9, P9⟩
  refine go_more (k' := 12) (n' := 88) (by decide) (by decide) ?_
  refine go_iload c0_124 rfl ?_
  refine go_push c0_126 ?_
  refine go_icmp_le c0_127 (fun _ => ?_) (fun q => absurd q (by decide))
  have hq : pos = 0 ∨ pos = 1 ∨ pos = 2 ∨ ¬ pos < 3 := by
    by_cases q : pos < 3
    · rcases own_small pos hpos (own_lt_trans pos 3 5 q (by decide)) with rfl | rfl | rfl | rfl | rfl <;> first | decide | exact absurd q (by decide)
    · simp [q]
  rcases hq with rfl | rfl | rfl | hp
  · refine go_aload c0_139 rfl rfl ?_
    refine go_iload c0_141 rfl ?_
    refine go_callV0 (y := x) (W := 0) (argsL := [(.int 0)]) (st := []) c0_143 (rm_tr3_0 l Z a0 hw h9 n0 a3 m con rea c0 c1 c2 0 0 0 0 0 (.ref r) (.ref r) (.ref r) .null .null .null .null .null ka9 va9 b9 n9 ks9 vs9 (own_up (own_up (own_up (fun _ => -1) c0 0) c1 1) c2 2) Rp9 P9 hc0 hc1 hc2) (P9.exa (i := 5) rfl) (t45 hw) (t46 hw) (fun _ q => notFace_of_selects (args := #[]) (mvT q (t48 hw))) (t48 hw) (t47 hw) (t8 hw) (t49 hw) (by decide) (lenOf pd2 rfl) rfl rfl (by decide) (by decide) (by decide) (by decide) rfl ?_
    rintro h10 ⟨n10, ks10, vs10, hle10, Rp10, P10⟩
    refine go_more (k' := 12) (n' := 88) (by decide) (by decide) ?_
    refine go_iload c0_146 rfl ?_
    refine go_iload c0_148 rfl ?_
    refine go_callS1 (y := x) (W := 0) (argsL := [(.int 3), (.int 0)]) (st := []) c0_150 (rm_min l Z a0 hw h10 n0 3 0) (t52 hw) (t53 hw) (t54 hw) (t55 hw) (by decide) (lenOf pd6 rfl) rfl rfl (by decide) (by decide) (by decide) (by decide) rfl ?_
    rintro _ _ ⟨rfl, rfl⟩
    refine go_more (k' := 12) (n' := 88) (by decide) (by decide) ?_
    refine go_isI 0 (by decide) ?_
    refine go_istore c0_153 rfl rfl ?_
    dsimp only [setl]
    refine go_aload c0_155 rfl rfl ?_
    refine go_callV1 (y := x) (W := 0) (argsL := []) (st := []) c0_157 (rm_size l Z a0 hw h10 n0 0 a3 m con rea c0 c1 c2 0 0 0 0 0 .null .null .null .null .null .null .null .null ka9 va9 b9 n10 ks10 vs10 (own_up (own_up (own_up (own_up (own_up (own_up (fun _ => -1) c0 0) c1 1) c2 2) c2 (-1)) c1 (-1)) c0 (-1)) Rp10 P10) (P10.exa (i := 5) rfl) (t56 hw) (t57 hw) (fun _ q => notFace_of_selects (args := #[]) (mvT q (t59 hw))) (t59 hw) (t58 hw) (t8 hw) (t60 hw) (by decide) (lenOf pd7 rfl) rfl rfl (by decide) (by decide) (by decide) (by decide) rfl ?_
    rintro _ _ ⟨rfl, rfl⟩
    refine go_more (k' := 12) (n' := 88) (by decide) (by decide) ?_
    refine go_iload c0_160 rfl ?_
    refine go_icmp_ne c0_162 (fun q => absurd q (by decide)) (fun _ => ?_)
    refine go_aload c0_165 rfl rfl ?_
    refine go_push c0_167 ?_
    refine go_iload c0_168 rfl ?_
    refine go_iload c0_170 rfl ?_
    refine go_iload c0_172 rfl ?_
    refine go_aload c0_174 rfl rfl ?_
    refine go_callS1 (y := x) (W := 0) (argsL := [(.ref a3), (.int 0), (.int c0), (.int 3), (.int 0), (.ref r)]) (st := []) c0_176 (rm_chk0 l Z a0 hw h10 n0 0 a3 m con rea c0 c1 c2 0 0 0 0 0 .null .null .null .null .null .null .null .null ka9 va9 b9 n10 ks10 vs10 (own_up (own_up (own_up (own_up (own_up (own_up (fun _ => -1) c0 0) c1 1) c2 2) c2 (-1)) c1 (-1)) c0 (-1)) Rp10 P10 rfl c0 3 0 r hc0 (Or.inr ⟨by decide, (by simp [own_up, d01, d02, d03, d10, d12, d13, d20, d21, d23, d30, d31, d32]), fun _ => rfl⟩)) (t61 hw) (t62 hw) (t63 hw) (t64 hw) (by decide) (lenOf pd8 rfl) rfl rfl (by decide) (by decide) (by decide) (by decide) rfl ?_
    rintro _ _ ⟨rfl, rfl⟩
    refine go_more (k' := 12) (n' := 88) (by decide) (by decide) ?_
    refine go_if_eq c0_179 (fun q => absurd q (by decide)) (fun _ => ?_)
    refine go_aload c0_182 rfl rfl ?_
    refine go_push c0_184 ?_
    refine go_iload c0_185 rfl ?_
    refine go_iload c0_187 rfl ?_
    refine go_iload c0_189 rfl ?_
    refine go_aload c0_191 rfl rfl ?_
    refine go_callS1 (y := x) (W := 0) (argsL := [(.ref a3), (.int 1), (.int c1), (.int 3), (.int 0), (.ref r)]) (st := []) c0_193 (rm_chk1 l Z a0 hw h10 n0 0 a3 m con rea c0 c1 c2 0 0 0 0 0 .null .null .null .null .null .null .null .null ka9 va9 b9 n10 ks10 vs10 (own_up (own_up (own_up (own_up (own_up (own_up (fun _ => -1) c0 0) c1 1) c2 2) c2 (-1)) c1 (-1)) c0 (-1)) Rp10 P10 rfl c1 3 0 r hc1 (Or.inr ⟨by decide, (by simp [own_up, d01, d02, d03, d10, d12, d13, d20, d21, d23, d30, d31, d32]), fun _ => rfl⟩)) (t61 hw) (t62 hw) (t63 hw) (t64 hw) (by decide) (lenOf pd8 rfl) rfl rfl (by decide) (by decide) (by decide) (by decide) rfl ?_
    rintro _ _ ⟨rfl, rfl⟩
    refine go_more (k' := 12) (n' := 88) (by decide) (by decide) ?_
    refine go_if_eq c0_196 (fun q => absurd q (by decide)) (fun _ => ?_)
    refine go_aload c0_199 rfl rfl ?_
    refine go_push c0_201 ?_
    refine go_iload c0_202 rfl ?_
    refine go_iload c0_204 rfl ?_
    refine go_iload c0_206 rfl ?_
    refine go_aload c0_208 rfl rfl ?_
    refine go_callS1 (y := x) (W := 0) (argsL := [(.ref a3), (.int 2), (.int c2), (.int 3), (.int 0), (.ref r)]) (st := []) c0_210 (rm_chk2 l Z a0 hw h10 n0 0 a3 m con rea c0 c1 c2 0 0 0 0 0 .null .null .null .null .null .null .null .null ka9 va9 b9 n10 ks10 vs10 (own_up (own_up (own_up (own_up (own_up (own_up (fun _ => -1) c0 0) c1 1) c2 2) c2 (-1)) c1 (-1)) c0 (-1)) Rp10 P10 rfl c2 3 0 r hc2 (Or.inr ⟨by decide, (by simp [own_up, d01, d02, d03, d10, d12, d13, d20, d21, d23, d30, d31, d32]), fun _ => rfl⟩)) (t61 hw) (t62 hw) (t63 hw) (t64 hw) (by decide) (lenOf pd8 rfl) rfl rfl (by decide) (by decide) (by decide) (by decide) rfl ?_
    rintro _ _ ⟨rfl, rfl⟩
    refine go_more (k' := 12) (n' := 88) (by decide) (by decide) ?_
    refine go_if_eq c0_213 (fun q => absurd q (by decide)) (fun _ => ?_)
    refine go_aload c0_216 rfl rfl ?_
    refine go_push c0_218 ?_
    refine go_iload c0_219 rfl ?_
    refine go_iload c0_221 rfl ?_
    refine go_iload c0_223 rfl ?_
    refine go_aload c0_225 rfl rfl ?_
    refine go_callS1 (y := x) (W := 0) (argsL := [(.ref a3), (.int 3), (.int c3), (.int 3), (.int 0), (.ref r)]) (st := []) c0_227 (rm_chk3 l Z a0 hw h10 n0 0 a3 m con rea c0 c1 c2 0 0 0 0 0 .null .null .null .null .null .null .null .null ka9 va9 b9 n10 ks10 vs10 (own_up (own_up (own_up (own_up (own_up (own_up (fun _ => -1) c0 0) c1 1) c2 2) c2 (-1)) c1 (-1)) c0 (-1)) Rp10 P10 rfl c3 3 0 r hc3 (Or.inr ⟨by decide, (by simp [own_up, d01, d02, d03, d10, d12, d13, d20, d21, d23, d30, d31, d32]), fun _ => rfl⟩)) (t61 hw) (t62 hw) (t63 hw) (t64 hw) (by decide) (lenOf pd8 rfl) rfl rfl (by decide) (by decide) (by decide) (by decide) rfl ?_
    rintro _ _ ⟨rfl, rfl⟩
    refine go_more (k' := 12) (n' := 88) (by decide) (by decide) ?_
    refine go_if_eq c0_230 (fun q => absurd q (by decide)) (fun _ => ?_)
    refine go_push c0_233 ?_
    refine go_goto c0_234 ?_
    exact go_bret rfl c0_238 (by decide) (by decide) (by decide) ⟨_, rfl, rfl⟩
  · refine go_aload c0_139 rfl rfl ?_
    refine go_iload c0_141 rfl ?_
    refine go_callV0 (y := x) (W := 0) (argsL := [(.int 1)]) (st := []) c0_143 (rm_tr3_1 l Z a0 hw h9 n0 a3 m con rea c0 c1 c2 0 0 0 0 0 (.ref r) (.ref r) (.ref r) .null .null .null .null .null ka9 va9 b9 n9 ks9 vs9 (own_up (own_up (own_up (fun _ => -1) c0 0) c1 1) c2 2) Rp9 P9 hc1 hc2) (P9.exa (i := 5) rfl) (t45 hw) (t46 hw) (fun _ q => notFace_of_selects (args := #[]) (mvT q (t48 hw))) (t48 hw) (t47 hw) (t8 hw) (t49 hw) (by decide) (lenOf pd2 rfl) rfl rfl (by decide) (by decide) (by decide) (by decide) rfl ?_
    rintro h11 ⟨n11, ks11, vs11, hle11, Rp11, P11⟩
    refine go_more (k' := 12) (n' := 88) (by decide) (by decide) ?_
    refine go_iload c0_146 rfl ?_
    refine go_iload c0_148 rfl ?_
    refine go_callS1 (y := x) (W := 0) (argsL := [(.int 3), (.int 1)]) (st := []) c0_150 (rm_min l Z a0 hw h11 n0 3 1) (t52 hw) (t53 hw) (t54 hw) (t55 hw) (by decide) (lenOf pd6 rfl) rfl rfl (by decide) (by decide) (by decide) (by decide) rfl ?_
    rintro _ _ ⟨rfl, rfl⟩
    refine go_more (k' := 12) (n' := 88) (by decide) (by decide) ?_
    refine go_isI 1 (by decide) ?_
    refine go_istore c0_153 rfl rfl ?_
    dsimp only [setl]
    refine go_aload c0_155 rfl rfl ?_
    refine go_callV1 (y := x) (W := 0) (argsL := []) (st := []) c0_157 (rm_size l Z a0 hw h11 n0 1 a3 m con rea c0 c1 c2 0 0 0 0 0 (.ref r) .null .null .null .null .null .null .null ka9 va9 b9 n11 ks11 vs11 (own_up (own_up (own_up (own_up (own_up (fun _ => -1) c0 0) c1 1) c2 2) c2 (-1)) c1 (-1)) Rp11 P11) (P11.exa (i := 5) rfl) (t56 hw) (t57 hw) (fun _ q => notFace_of_selects (args := #[]) (mvT q (t59 hw))) (t59 hw) (t58 hw) (t8 hw) (t60 hw) (by decide) (lenOf pd7 rfl) rfl rfl (by decide) (by decide) (by decide) (by decide) rfl ?_
    rintro _ _ ⟨rfl, rfl⟩
    refine go_more (k' := 12) (n' := 88) (by decide) (by decide) ?_
    refine go_iload c0_160 rfl ?_
    refine go_icmp_ne c0_162 (fun q => absurd q (by decide)) (fun _ => ?_)
    refine go_aload c0_165 rfl rfl ?_
    refine go_push c0_167 ?_
    refine go_iload c0_168 rfl ?_
    refine go_iload c0_170 rfl ?_
    refine go_iload c0_172 rfl ?_
    refine go_aload c0_174 rfl rfl ?_
    refine go_callS1 (y := x) (W := 0) (argsL := [(.ref a3), (.int 0), (.int c0), (.int 3), (.int 1), (.ref r)]) (st := []) c0_176 (rm_chk0 l Z a0 hw h11 n0 1 a3 m con rea c0 c1 c2 0 0 0 0 0 (.ref r) .null .null .null .null .null .null .null ka9 va9 b9 n11 ks11 vs11 (own_up (own_up (own_up (own_up (own_up (fun _ => -1) c0 0) c1 1) c2 2) c2 (-1)) c1 (-1)) Rp11 P11 rfl c0 3 1 r hc0 (Or.inl ⟨by decide, (by simp [own_up, d01, d02, d03, d10, d12, d13, d20, d21, d23, d30, d31, d32]), rfl, rfl⟩)) (t61 hw) (t62 hw) (t63 hw) (t64 hw) (by decide) (lenOf pd8 rfl) rfl rfl (by decide) (by decide) (by decide) (by decide) rfl ?_
    rintro _ _ ⟨rfl, rfl⟩
    refine go_more (k' := 12) (n' := 88) (by decide) (by decide) ?_
    refine go_if_eq c0_179 (fun q => absurd q (by decide)) (fun _ => ?_)
    refine go_aload c0_182 rfl rfl ?_
    refine go_push c0_184 ?_
    refine go_iload c0_185 rfl ?_
    refine go_iload c0_187 rfl ?_
    refine go_iload c0_189 rfl ?_
    refine go_aload c0_191 rfl rfl ?_
    refine go_callS1 (y := x) (W := 0) (argsL := [(.ref a3), (.int 1), (.int c1), (.int 3), (.int 1), (.ref r)]) (st := []) c0_193 (rm_chk1 l Z a0 hw h11 n0 1 a3 m con rea c0 c1 c2 0 0 0 0 0 (.ref r) .null .null .null .null .null .null .null ka9 va9 b9 n11 ks11 vs11 (own_up (own_up (own_up (own_up (own_up (fun _ => -1) c0 0) c1 1) c2 2) c2 (-1)) c1 (-1)) Rp11 P11 rfl c1 3 1 r hc1 (Or.inr ⟨by decide, (by simp [own_up, d01, d02, d03, d10, d12, d13, d20, d21, d23, d30, d31, d32]), fun _ => rfl⟩)) (t61 hw) (t62 hw) (t63 hw) (t64 hw) (by decide) (lenOf pd8 rfl) rfl rfl (by decide) (by decide) (by decide) (by decide) rfl ?_
    rintro _ _ ⟨rfl, rfl⟩
    refine go_more (k' := 12) (n' := 88) (by decide) (by decide) ?_
    refine go_if_eq c0_196 (fun q => absurd q (by decide)) (fun _ => ?_)
    refine go_aload c0_199 rfl rfl ?_
    refine go_push c0_201 ?_
    refine go_iload c0_202 rfl ?_
    refine go_iload c0_204 rfl ?_
    refine go_iload c0_206 rfl ?_
    refine go_aload c0_208 rfl rfl ?_
    refine go_callS1 (y := x) (W := 0) (argsL := [(.ref a3), (.int 2), (.int c2), (.int 3), (.int 1), (.ref r)]) (st := []) c0_210 (rm_chk2 l Z a0 hw h11 n0 1 a3 m con rea c0 c1 c2 0 0 0 0 0 (.ref r) .null .null .null .null .null .null .null ka9 va9 b9 n11 ks11 vs11 (own_up (own_up (own_up (own_up (own_up (fun _ => -1) c0 0) c1 1) c2 2) c2 (-1)) c1 (-1)) Rp11 P11 rfl c2 3 1 r hc2 (Or.inr ⟨by decide, (by simp [own_up, d01, d02, d03, d10, d12, d13, d20, d21, d23, d30, d31, d32]), fun _ => rfl⟩)) (t61 hw) (t62 hw) (t63 hw) (t64 hw) (by decide) (lenOf pd8 rfl) rfl rfl (by decide) (by decide) (by decide) (by decide) rfl ?_
    rintro _ _ ⟨rfl, rfl⟩
    refine go_more (k' := 12) (n' := 88) (by decide) (by decide) ?_
    refine go_if_eq c0_213 (fun q => absurd q (by decide)) (fun _ => ?_)
    refine go_aload c0_216 rfl rfl ?_
    refine go_push c0_218 ?_
    refine go_iload c0_219 rfl ?_
    refine go_iload c0_221 rfl ?_
    refine go_iload c0_223 rfl ?_
    refine go_aload c0_225 rfl rfl ?_
    refine go_callS1 (y := x) (W := 0) (argsL := [(.ref a3), (.int 3), (.int c3), (.int 3), (.int 1), (.ref r)]) (st := []) c0_227 (rm_chk3 l Z a0 hw h11 n0 1 a3 m con rea c0 c1 c2 0 0 0 0 0 (.ref r) .null .null .null .null .null .null .null ka9 va9 b9 n11 ks11 vs11 (own_up (own_up (own_up (own_up (own_up (fun _ => -1) c0 0) c1 1) c2 2) c2 (-1)) c1 (-1)) Rp11 P11 rfl c3 3 1 r hc3 (Or.inr ⟨by decide, (by simp [own_up, d01, d02, d03, d10, d12, d13, d20, d21, d23, d30, d31, d32]), fun _ => rfl⟩)) (t61 hw) (t62 hw) (t63 hw) (t64 hw) (by decide) (lenOf pd8 rfl) rfl rfl (by decide) (by decide) (by decide) (by decide) rfl ?_
    rintro _ _ ⟨rfl, rfl⟩
    refine go_more (k' := 12) (n' := 88) (by decide) (by decide) ?_
    refine go_if_eq c0_230 (fun q => absurd q (by decide)) (fun _ => ?_)
    refine go_push c0_233 ?_
    refine go_goto c0_234 ?_
    exact go_bret rfl c0_238 (by decide) (by decide) (by decide) ⟨_, rfl, rfl⟩
  · refine go_aload c0_139 rfl rfl ?_
    refine go_iload c0_141 rfl ?_
    refine go_callV0 (y := x) (W := 0) (argsL := [(.int 2)]) (st := []) c0_143 (rm_tr3_2 l Z a0 hw h9 n0 a3 m con rea c0 c1 c2 0 0 0 0 0 (.ref r) (.ref r) (.ref r) .null .null .null .null .null ka9 va9 b9 n9 ks9 vs9 (own_up (own_up (own_up (fun _ => -1) c0 0) c1 1) c2 2) Rp9 P9 hc2) (P9.exa (i := 5) rfl) (t45 hw) (t46 hw) (fun _ q => notFace_of_selects (args := #[]) (mvT q (t48 hw))) (t48 hw) (t47 hw) (t8 hw) (t49 hw) (by decide) (lenOf pd2 rfl) rfl rfl (by decide) (by decide) (by decide) (by decide) rfl ?_
    rintro h12 ⟨n12, ks12, vs12, hle12, Rp12, P12⟩
    refine go_more (k' := 12) (n' := 88) (by decide) (by decide) ?_
    refine go_iload c0_146 rfl ?_
    refine go_iload c0_148 rfl ?_
    refine go_callS1 (y := x) (W := 0) (argsL := [(.int 3), (.int 2)]) (st := []) c0_150 (rm_min l Z a0 hw h12 n0 3 2) (t52 hw) (t53 hw) (t54 hw) (t55 hw) (by decide) (lenOf pd6 rfl) rfl rfl (by decide) (by decide) (by decide) (by decide) rfl ?_
    rintro _ _ ⟨rfl, rfl⟩
    refine go_more (k' := 12) (n' := 88) (by decide) (by decide) ?_
    refine go_isI 2 (by decide) ?_
    refine go_istore c0_153 rfl rfl ?_
    dsimp only [setl]
    refine go_aload c0_155 rfl rfl ?_
    refine go_callV1 (y := x) (W := 0) (argsL := []) (st := []) c0_157 (rm_size l Z a0 hw h12 n0 2 a3 m con rea c0 c1 c2 0 0 0 0 0 (.ref r) (.ref r) .null .null .null .null .null .null ka9 va9 b9 n12 ks12 vs12 (own_up (own_up (own_up (own_up (fun _ => -1) c0 0) c1 1) c2 2) c2 (-1)) Rp12 P12) (P12.exa (i := 5) rfl) (t56 hw) (t57 hw) (fun _ q => notFace_of_selects (args := #[]) (mvT q (t59 hw))) (t59 hw) (t58 hw) (t8 hw) (t60 hw) (by decide) (lenOf pd7 rfl) rfl rfl (by decide) (by decide) (by decide) (by decide) rfl ?_
    rintro _ _ ⟨rfl, rfl⟩
    refine go_more (k' := 12) (n' := 88) (by decide) (by decide) ?_
    refine go_iload c0_160 rfl ?_
    refine go_icmp_ne c0_162 (fun q => absurd q (by decide)) (fun _ => ?_)
    refine go_aload c0_165 rfl rfl ?_
    refine go_push c0_167 ?_
    refine go_iload c0_168 rfl ?_
    refine go_iload c0_170 rfl ?_
    refine go_iload c0_172 rfl ?_
    refine go_aload c0_174 rfl rfl ?_
    refine go_callS1 (y := x) (W := 0) (argsL := [(.ref a3), (.int 0), (.int c0), (.int 3), (.int 2), (.ref r)]) (st := []) c0_176 (rm_chk0 l Z a0 hw h12 n0 2 a3 m con rea c0 c1 c2 0 0 0 0 0 (.ref r) (.ref r) .null .null .null .null .null .null ka9 va9 b9 n12 ks12 vs12 (own_up (own_up (own_up (own_up (fun _ => -1) c0 0) c1 1) c2 2) c2 (-1)) Rp12 P12 rfl c0 3 2 r hc0 (Or.inl ⟨by decide, (by simp [own_up, d01, d02, d03, d10, d12, d13, d20, d21, d23, d30, d31, d32]), rfl, rfl⟩)) (t61 hw) (t62 hw) (t63 hw) (t64 hw) (by decide) (lenOf pd8 rfl) rfl rfl (by decide) (by decide) (by decide) (by decide) rfl ?_
    rintro _ _ ⟨rfl, rfl⟩
    refine go_more (k' := 12) (n' := 88) (by decide) (by decide) ?_
    refine go_if_eq c0_179 (fun q => absurd q (by decide)) (fun _ => ?_)
    refine go_aload c0_182 rfl rfl ?_
    refine go_push c0_184 ?_
    refine go_iload c0_185 rfl ?_
    refine go_iload c0_187 rfl ?_
    refine go_iload c0_189 rfl ?_
    refine go_aload c0_191 rfl rfl ?_
    refine go_callS1 (y := x) (W := 0) (argsL := [(.ref a3), (.int 1), (.int c1), (.int 3), (.int 2), (.ref r)]) (st := []) c0_193 (rm_chk1 l Z a0 hw h12 n0 2 a3 m con rea c0 c1 c2 0 0 0 0 0 (.ref r) (.ref r) .null .null .null .null .null .null ka9 va9 b9 n12 ks12 vs12 (own_up (own_up (own_up (own_up (fun _ => -1) c0 0) c1 1) c2 2) c2 (-1)) Rp12 P12 rfl c1 3 2 r hc1 (Or.inl ⟨by decide, (by simp [own_up, d01, d02, d03, d10, d12, d13, d20, d21, d23, d30, d31, d32]), rfl, rfl⟩)) (t61 hw) (t62 hw) (t63 hw) (t64 hw) (by decide) (lenOf pd8 rfl) rfl rfl (by decide) (by decide) (by decide) (by decide) rfl ?_
    rintro _ _ ⟨rfl, rfl⟩
    refine go_more (k' := 12) (n' := 88) (by decide) (by decide) ?_
    refine go_if_eq c0_196 (fun q => absurd q (by decide)) (fun _ => ?_)
    refine go_aload c0_199 rfl rfl ?_
    refine go_push c0_201 ?_
    refine go_iload c0_202 rfl ?_
    refine go_iload c0_204 rfl ?_
    refine go_iload c0_206 rfl ?_
    refine go_aload c0_208 rfl rfl ?_
    refine go_callS1 (y := x) (W := 0) (argsL := [(.ref a3), (.int 2), (.int c2), (.int 3), (.int 2), (.ref r)]) (st := []) c0_210 (rm_chk2 l Z a0 hw h12 n0 2 a3 m con rea c0 c1 c2 0 0 0 0 0 (.ref r) (.ref r) .null .null .null .null .null .null ka9 va9 b9 n12 ks12 vs12 (own_up (own_up (own_up (own_up (fun _ => -1) c0 0) c1 1) c2 2) c2 (-1)) Rp12 P12 rfl c2 3 2 r hc2 (Or.inr ⟨by decide, (by simp [own_up, d01, d02, d03, d10, d12, d13, d20, d21, d23, d30, d31, d32]), fun _ => rfl⟩)) (t61 hw) (t62 hw) (t63 hw) (t64 hw) (by decide) (lenOf pd8 rfl) rfl rfl (by decide) (by decide) (by decide) (by decide) rfl ?_
    rintro _ _ ⟨rfl, rfl⟩
    refine go_more (k' := 12) (n' := 88) (by decide) (by decide) ?_
    refine go_if_eq c0_213 (fun q => absurd q (by decide)) (fun _ => ?_)
    refine go_aload c0_216 rfl rfl ?_
    refine go_push c0_218 ?_
    refine go_iload c0_219 rfl ?_
    refine go_iload c0_221 rfl ?_
    refine go_iload c0_223 rfl ?_
    refine go_aload c0_225 rfl rfl ?_
    refine go_callS1 (y := x) (W := 0) (argsL := [(.ref a3), (.int 3), (.int c3), (.int 3), (.int 2), (.ref r)]) (st := []) c0_227 (rm_chk3 l Z a0 hw h12 n0 2 a3 m con rea c0 c1 c2 0 0 0 0 0 (.ref r) (.ref r) .null .null .null .null .null .null ka9 va9 b9 n12 ks12 vs12 (own_up (own_up (own_up (own_up (fun _ => -1) c0 0) c1 1) c2 2) c2 (-1)) Rp12 P12 rfl c3 3 2 r hc3 (Or.inr ⟨by decide, (by simp [own_up, d01, d02, d03, d10, d12, d13, d20, d21, d23, d30, d31, d32]), fun _ => rfl⟩)) (t61 hw) (t62 hw) (t63 hw) (t64 hw) (by decide) (lenOf pd8 rfl) rfl rfl (by decide) (by decide) (by decide) (by decide) rfl ?_
    rintro _ _ ⟨rfl, rfl⟩
    refine go_more (k' := 12) (n' := 88) (by decide) (by decide) ?_
    refine go_if_eq c0_230 (fun q => absurd q (by decide)) (fun _ => ?_)
    refine go_push c0_233 ?_
    refine go_goto c0_234 ?_
    exact go_bret rfl c0_238 (by decide) (by decide) (by decide) ⟨_, rfl, rfl⟩
  · refine go_aload c0_139 rfl rfl ?_
    refine go_iload c0_141 rfl ?_
    refine go_callV0 (y := x) (W := 0) (argsL := [(.int pos)]) (st := []) c0_143 (rm_tr3_3 l Z a0 hw h9 n0 a3 m con rea c0 c1 c2 0 0 0 0 0 (.ref r) (.ref r) (.ref r) .null .null .null .null .null ka9 va9 b9 n9 ks9 vs9 (own_up (own_up (own_up (fun _ => -1) c0 0) c1 1) c2 2) Rp9 P9 pos hp) (P9.exa (i := 5) rfl) (t45 hw) (t46 hw) (fun _ q => notFace_of_selects (args := #[]) (mvT q (t48 hw))) (t48 hw) (t47 hw) (t8 hw) (t49 hw) (by decide) (lenOf pd2 rfl) rfl rfl (by decide) (by decide) (by decide) (by decide) rfl ?_
    rintro h13 ⟨n13, ks13, vs13, hle13, Rp13, P13⟩
    refine go_more (k' := 12) (n' := 88) (by decide) (by decide) ?_
    refine go_iload c0_146 rfl ?_
    refine go_iload c0_148 rfl ?_
    refine go_callS1 (y := x) (W := 0) (argsL := [(.int 3), (.int pos)]) (st := []) c0_150 (rm_min l Z a0 hw h13 n0 3 pos) (t52 hw) (t53 hw) (t54 hw) (t55 hw) (by decide) (lenOf pd6 rfl) rfl rfl (by decide) (by decide) (by decide) (by decide) rfl ?_
    rintro _ _ ⟨rfl, rfl⟩
    refine go_more (k' := 12) (n' := 88) (by decide) (by decide) ?_
    refine go_isI 3 (by unfold own_min; rw [if_neg hp]) ?_
    refine go_istore c0_153 rfl rfl ?_
    dsimp only [setl]
    refine go_aload c0_155 rfl rfl ?_
    refine go_callV1 (y := x) (W := 0) (argsL := []) (st := []) c0_157 (rm_size l Z a0 hw h13 n0 3 a3 m con rea c0 c1 c2 0 0 0 0 0 (.ref r) (.ref r) (.ref r) .null .null .null .null .null ka9 va9 b9 n13 ks13 vs13 (own_up (own_up (own_up (fun _ => -1) c0 0) c1 1) c2 2) Rp13 P13) (P13.exa (i := 5) rfl) (t56 hw) (t57 hw) (fun _ q => notFace_of_selects (args := #[]) (mvT q (t59 hw))) (t59 hw) (t58 hw) (t8 hw) (t60 hw) (by decide) (lenOf pd7 rfl) rfl rfl (by decide) (by decide) (by decide) (by decide) rfl ?_
    rintro _ _ ⟨rfl, rfl⟩
    refine go_more (k' := 12) (n' := 88) (by decide) (by decide) ?_
    refine go_iload c0_160 rfl ?_
    refine go_icmp_ne c0_162 (fun q => absurd q (by decide)) (fun _ => ?_)
    refine go_aload c0_165 rfl rfl ?_
    refine go_push c0_167 ?_
    refine go_iload c0_168 rfl ?_
    refine go_iload c0_170 rfl ?_
    refine go_iload c0_172 rfl ?_
    refine go_aload c0_174 rfl rfl ?_
    refine go_callS1 (y := x) (W := 0) (argsL := [(.ref a3), (.int 0), (.int c0), (.int 3), (.int 3), (.ref r)]) (st := []) c0_176 (rm_chk0 l Z a0 hw h13 n0 3 a3 m con rea c0 c1 c2 0 0 0 0 0 (.ref r) (.ref r) (.ref r) .null .null .null .null .null ka9 va9 b9 n13 ks13 vs13 (own_up (own_up (own_up (fun _ => -1) c0 0) c1 1) c2 2) Rp13 P13 rfl c0 3 3 r hc0 (Or.inl ⟨by decide, (by simp [own_up, d01, d02, d03, d10, d12, d13, d20, d21, d23, d30, d31, d32]), rfl, rfl⟩)) (t61 hw) (t62 hw) (t63 hw) (t64 hw) (by decide) (lenOf pd8 rfl) rfl rfl (by decide) (by decide) (by decide) (by decide) rfl ?_
    rintro _ _ ⟨rfl, rfl⟩
    refine go_more (k' := 12) (n' := 88) (by decide) (by decide) ?_
    refine go_if_eq c0_179 (fun q => absurd q (by decide)) (fun _ => ?_)
    refine go_aload c0_182 rfl rfl ?_
    refine go_push c0_184 ?_
    refine go_iload c0_185 rfl ?_
    refine go_iload c0_187 rfl ?_
    refine go_iload c0_189 rfl ?_
    refine go_aload c0_191 rfl rfl ?_
    refine go_callS1 (y := x) (W := 0) (argsL := [(.ref a3), (.int 1), (.int c1), (.int 3), (.int 3), (.ref r)]) (st := []) c0_193 (rm_chk1 l Z a0 hw h13 n0 3 a3 m con rea c0 c1 c2 0 0 0 0 0 (.ref r) (.ref r) (.ref r) .null .null .null .null .null ka9 va9 b9 n13 ks13 vs13 (own_up (own_up (own_up (fun _ => -1) c0 0) c1 1) c2 2) Rp13 P13 rfl c1 3 3 r hc1 (Or.inl ⟨by decide, (by simp [own_up, d01, d02, d03, d10, d12, d13, d20, d21, d23, d30, d31, d32]), rfl, rfl⟩)) (t61 hw) (t62 hw) (t63 hw) (t64 hw) (by decide) (lenOf pd8 rfl) rfl rfl (by decide) (by decide) (by decide) (by decide) rfl ?_
    rintro _ _ ⟨rfl, rfl⟩
    refine go_more (k' := 12) (n' := 88) (by decide) (by decide) ?_
    refine go_if_eq c0_196 (fun q => absurd q (by decide)) (fun _ => ?_)
    refine go_aload c0_199 rfl rfl ?_
    refine go_push c0_201 ?_
    refine go_iload c0_202 rfl ?_
    refine go_iload c0_204 rfl ?_
    refine go_iload c0_206 rfl ?_
    refine go_aload c0_208 rfl rfl ?_
    refine go_callS1 (y := x) (W := 0) (argsL := [(.ref a3), (.int 2), (.int c2), (.int 3), (.int 3), (.ref r)]) (st := []) c0_210 (rm_chk2 l Z a0 hw h13 n0 3 a3 m con rea c0 c1 c2 0 0 0 0 0 (.ref r) (.ref r) (.ref r) .null .null .null .null .null ka9 va9 b9 n13 ks13 vs13 (own_up (own_up (own_up (fun _ => -1) c0 0) c1 1) c2 2) Rp13 P13 rfl c2 3 3 r hc2 (Or.inl ⟨by decide, (by simp [own_up, d01, d02, d03, d10, d12, d13, d20, d21, d23, d30, d31, d32]), rfl, rfl⟩)) (t61 hw) (t62 hw) (t63 hw) (t64 hw) (by decide) (lenOf pd8 rfl) rfl rfl (by decide) (by decide) (by decide) (by decide) rfl ?_
    rintro _ _ ⟨rfl, rfl⟩
    refine go_more (k' := 12) (n' := 88) (by decide) (by decide) ?_
    refine go_if_eq c0_213 (fun q => absurd q (by decide)) (fun _ => ?_)
    refine go_aload c0_216 rfl rfl ?_
    refine go_push c0_218 ?_
    refine go_iload c0_219 rfl ?_
    refine go_iload c0_221 rfl ?_
    refine go_iload c0_223 rfl ?_
    refine go_aload c0_225 rfl rfl ?_
    refine go_callS1 (y := x) (W := 0) (argsL := [(.ref a3), (.int 3), (.int c3), (.int 3), (.int 3), (.ref r)]) (st := []) c0_227 (rm_chk3 l Z a0 hw h13 n0 3 a3 m con rea c0 c1 c2 0 0 0 0 0 (.ref r) (.ref r) (.ref r) .null .null .null .null .null ka9 va9 b9 n13 ks13 vs13 (own_up (own_up (own_up (fun _ => -1) c0 0) c1 1) c2 2) Rp13 P13 rfl c3 3 3 r hc3 (Or.inr ⟨by decide, (by simp [own_up, d01, d02, d03, d10, d12, d13, d20, d21, d23, d30, d31, d32]), fun _ => rfl⟩)) (t61 hw) (t62 hw) (t63 hw) (t64 hw) (by decide) (lenOf pd8 rfl) rfl rfl (by decide) (by decide) (by decide) (by decide) rfl ?_
    rintro _ _ ⟨rfl, rfl⟩
    refine go_more (k' := 12) (n' := 88) (by decide) (by decide) ?_
    refine go_if_eq c0_230 (fun q => absurd q (by decide)) (fun _ => ?_)
    refine go_push c0_233 ?_
    refine go_goto c0_234 ?_
    exact go_bret rfl c0_238 (by decide) (by decide) (by decide) ⟨_, rfl, rfl⟩
set_option maxRecDepth 65536 in
set_option maxHeartbeats 4000000 in
theorem law_k4 (l : Launch) (Z : State) (a0 : Array Value) (hw : ∀ d ∈ tables_1, d.before a0 Z = true) (h0 : Heap) (n0 : Nat) (P0 : Hp Z n0 h0 []) (r : Addr) (hr : Exa Z Z.heap r "com/example/satisfy/satisfy/reasoner/Reason") (S0 : Sta Z Z.heap "com/example/satisfy/satisfy/reasoner/Reason" "NONE" "Lcom/example/satisfy/satisfy/reasoner/Reason;" (.ref r)) (n p a b c d : Int32) (pos : Int32) (hpos : ¬ pos < 0) :
    Go false KT l Z room_1 x code maxLocals ret n0 room_1.cells room_1.slots (R1 fun w _ => w = .int 1) h0 0 0 23 [.val (.int n), .val (.int p), .val (.int a), .val (.int b), .val (.int c), .val (.int d), .val (.int 4), .unset, .unset, .unset, .unset, .unset, .unset, .unset, .unset] [(.int pos)] := by
  refine go_istore c0_23 rfl rfl ?_
  dsimp only [setl]
  refine go_iload c0_25 rfl ?_
  refine go_ldcI (y := x) c0_26 (t1 hw) ?_
  refine go_iand c0_28 ?_
  refine go_nameI fun c0 e_c0 => ?_
  refine go_istore c0_29 rfl rfl ?_
  dsimp only [setl]
  refine go_iload c0_31 rfl ?_
  refine go_push c0_33 ?_
  refine go_iadd c0_34 ?_
  refine go_iload c0_35 rfl ?_
  refine go_ldcI (y := x) c0_36 (t2 hw) ?_
  refine go_iand c0_38 ?_
  refine go_iadd c0_39 ?_
  refine go_nameI fun c1 e_c1 => ?_
  refine go_istore c0_40 rfl rfl ?_
  dsimp only [setl]
  refine go_iload c0_42 rfl ?_
  refine go_push c0_44 ?_
  refine go_iadd c0_45 ?_
  refine go_iload c0_46 rfl ?_
  refine go_ldcI (y := x) c0_48 (t2 hw) ?_
  refine go_iand c0_50 ?_
  refine go_iadd c0_51 ?_
  refine go_nameI fun c2 e_c2 => ?_
  refine go_istore c0_52 rfl rfl ?_
  dsimp only [setl]
  refine go_iload c0_54 rfl ?_
  refine go_push c0_56 ?_
  refine go_iadd c0_57 ?_
  refine go_iload c0_58 rfl ?_
  refine go_ldcI (y := x) c0_60 (t2 hw) ?_
  refine go_iand c0_62 ?_
  refine go_iadd c0_63 ?_
  refine go_nameI fun c3 e_c3 => ?_
  obtain ⟨⟨hc0, hc1, hc2, hc3⟩, ⟨d01, d02, d03⟩, ⟨d10, d12, d13⟩, ⟨d20, d21, d23⟩, d30, d31, d32⟩ := own_cs a b c d c0 c1 c2 c3 e_c0 e_c1 e_c2 e_c3
  clear e_c0 e_c1 e_c2 e_c3
  refine go_istore c0_64 rfl rfl ?_
  dsimp only [setl]
  refine go_getS (y := x) (host := "") c0_66 (Or.inl (t3 hw)) Via.refl (S0.ext P0.1.2) ?_
  refine go_astore c0_69 rfl rfl rfl ?_
  dsimp only [setl]
  refine go_new (y := x) P0 [(("com/example/satisfy/satisfy/reasoner/Trail", "concepts", "[I"), .null), (("com/example/satisfy/satisfy/reasoner/Trail", "reasons", "[Lcom/example/satisfy/satisfy/reasoner/Reason;"), .null), (("com/example/satisfy/satisfy/reasoner/Trail", "positions", "Lcom/example/satisfy/satisfy/reasoner/IntMap;"), .null), (("com/example/satisfy/satisfy/reasoner/Trail", "size", "I"), (.int 0))] c0_71 (t6 hw) (t7 hw) (t8 hw) (⟨⟨Or.inl (t17 hw), (.array .int), by decide, rfl⟩, ⟨⟨Or.inl (t21 hw), (.array (.object "com/example/satisfy/satisfy/reasoner/Reason")), by decide, rfl⟩, ⟨⟨Or.inr (t44 hw), (.object "com/example/satisfy/satisfy/reasoner/IntMap"), by decide, rfl⟩, ⟨⟨Or.inl (t51 hw), .int, by decide, rfl⟩, trivial⟩⟩⟩⟩) (by decide) (by decide) (by decide) ?_
  intro h1 a3 P2
  refine go_more (k' := 1) (n' := 4) (by decide) (by decide) ?_
  refine go_dup c0_74 rfl ?_
  refine go_callN0 (y := x) (W := 1) (argsL := []) (st := [(.ref a3)]) c0_75 rfl rfl (rm_tinit l Z a0 hw h1 n0 a3 P2) (t9 hw) (t10 hw) (t8 hw) (t11 hw) (by decide) (lenOf pd3 rfl) rfl rfl (by decide) (by decide) (by decide) (by decide) rfl ?_
  rintro h4 ⟨m, ka, va, rea, con, P5⟩
  refine go_more (k' := 6) (n' := 40) (by decide) (by decide) ?_
  refine go_astore c0_78 rfl rfl rfl ?_
  dsimp only [setl]
  refine go_iload c0_80 rfl ?_
  refine go_if_le c0_82 (fun q => absurd q (by decide)) (fun _ => ?_)
  refine go_aload c0_85 rfl rfl ?_
  refine go_iload c0_87 rfl ?_
  refine go_aload c0_89 rfl rfl ?_
  refine go_callV0 (y := x) (W := 0) (argsL := [(.int c0), (.ref r)]) (st := []) c0_91 (rm_add0 l Z a0 hw h4 n0 a3 m con rea 0 0 0 0 0 0 0 0 .null .null .null .null .null .null .null .null ka va 1 0 (List.replicate (2 ^ 1) (-1)) (List.replicate (2 ^ 1) 0) (fun _ => -1) (own_empty 1 (by decide)) P5 r hr c0 hc0 (by omega)) (P5.exa (i := 5) rfl) (t84 hw) (t85 hw) (fun _ q => notFace_of_selects (args := #[]) (mvT q (t87 hw))) (t87 hw) (t86 hw) (t8 hw) (t88 hw) (by decide) (lenOf pd9 rfl) rfl rfl (by decide) (by decide) (by decide) (by decide) rfl ?_
  rintro h7 ⟨ka7, va7, b7, n7, ks7, vs7, hle7, Rp7, P7⟩
  refine go_more (k' := 8) (n' := 56) (by decide) (by decide) ?_
  refine go_iload c0_94 rfl ?_
  refine go_push c0_96 ?_
  refine go_icmp_le c0_97 (fun q => absurd q (by decide)) (fun _ => ?_)
  refine go_aload c0_100 rfl rfl ?_
  refine go_iload c0_102 rfl ?_
  refine go_aload c0_104 rfl rfl ?_
  refine go_callV0 (y := x) (W := 0) (argsL := [(.int c1), (.ref r)]) (st := []) c0_106 (rm_add1 l Z a0 hw h7 n0 a3 m con rea c0 0 0 0 0 0 0 0 (.ref r) .null .null .null .null .null .null .null ka7 va7 b7 n7 ks7 vs7 (own_up (fun _ => -1) c0 0) Rp7 P7 r hr c1 hc1 (by omega)) (P7.exa (i := 5) rfl) (t84 hw) (t85 hw) (fun _ q => notFace_of_selects (args := #[]) (mvT q (t87 hw))) (t87 hw) (t86 hw) (t8 hw) (t88 hw) (by decide) (lenOf pd9 rfl) rfl rfl (by decide) (by decide) (by decide) (by decide) rfl ?_
  rintro h8 ⟨ka8, va8, b8, n8, ks8, vs8, hle8, Rp8, P8⟩
  refine go_more (k' := 10) (n' := 72) (by decide) (by decide) ?_
  refine go_iload c0_109 rfl ?_
  refine go_push c0_111 ?_
  refine go_icmp_le c0_112 (fun q => absurd q (by decide)) (fun _ => ?_)
  refine go_aload c0_115 rfl rfl ?_
  refine go_iload c0_117 rfl ?_
  refine go_aload c0_119 rfl rfl ?_
  refine go_callV0 (y := x) (W := 0) (argsL := [(.int c2), (.ref r)]) (st := []) c0_121 (rm_add2 l Z a0 hw h8 n0 a3 m con rea c0 c1 0 0 0 0 0 0 (.ref r) (.ref r) .null .null .null .null .null .null ka8 va8 b8 n8 ks8 vs8 (own_up (own_up (fun _ => -1) c0 0) c1 1) Rp8 P8 r hr c2 hc2 (by omega)) (P8.exa (i := 5) rfl) (t84 hw) (t85 hw) (fun _ q => notFace_of_selects (args := #[]) (mvT q (t87 hw))) (t87 hw) (t86 hw) (t8 hw) (t88 hw) (by decide) (lenOf pd9 rfl) rfl rfl (by decide) (by decide) (by decide) (by decide) rfl ?_
  rintro h9 ⟨ka9, va9, b9, n9, ks9, vs9, hle9, Rp9, P9⟩
  refine go_more (k' := 12) (n' := 88) (by decide) (by decide) ?_
  refine go_iload c0_124 rfl ?_
  refine go_push c0_126 ?_
  refine go_icmp_le c0_127 (fun q => absurd q (by decide)) (fun _ => ?_)
  refine go_aload c0_130 rfl rfl ?_
  refine go_iload c0_132 rfl ?_
  refine go_aload c0_134 rfl rfl ?_
  refine go_callV0 (y := x) (W := 0) (argsL := [(.int c3), (.ref r)]) (st := []) c0_136 (rm_add3 l Z a0 hw h9 n0 a3 m con rea c0 c1 c2 0 0 0 0 0 (.ref r) (.ref r) (.ref r) .null .null .null .null .null ka9 va9 b9 n9 ks9 vs9 (own_up (own_up (own_up (fun _ => -1) c0 0) c1 1) c2 2) Rp9 P9 r hr c3 hc3 (by omega)) (P9.exa (i := 5) rfl) (t84 hw) (t85 hw) (fun _ q => notFace_of_selects (args := #[]) (mvT q (t87 hw))) (t87 hw) (t86 hw) (t8 hw) (t88 hw) (by decide) (lenOf pd9 rfl) rfl rfl (by decide) (by decide) (by decide) (by decide) rfl ?_
  rintro h10 ⟨ka10, va10, b10, n10, ks10, vs10, hle10, Rp10, P10⟩
  refine go_more (k' := 14) (n' := 104) (by decide) (by decide) ?_
  have hq : pos = 0 ∨ pos = 1 ∨ pos = 2 ∨ pos = 3 ∨ ¬ pos < 4 := by
    by_cases q : pos < 4
    · rcases own_small pos hpos (own_lt_trans pos 4 5 q (by decide)) with rfl | rfl | rfl | rfl | rfl <;> first | decide | exact absurd q (by decide)
    · simp [q]
  rcases hq with rfl | rfl | rfl | rfl | hp
  · refine go_aload c0_139 rfl rfl ?_
    refine go_iload c0_141 rfl ?_
    refine go_callV0 (y := x) (W := 0) (argsL := [(.int 0)]) (st := []) c0_143 (rm_tr4_0 l Z a0 hw h10 n0 a3 m con rea c0 c1 c2 c3 0 0 0 0 (.ref r) (.ref r) (.ref r) (.ref r) .null .null .null .null ka10 va10 b10 n10 ks10 vs10 (own_up (own_up (own_up (own_up (fun _ => -1) c0 0) c1 1) c2 2) c3 3) Rp10 P10 hc0 hc1 hc2 hc3) (P10.exa (i := 5) rfl) (t45 hw) (t46 hw) (fun _ q => notFace_of_selects (args := #[]) (mvT q (t48 hw))) (t48 hw) (t47 hw) (t8 hw) (t49 hw) (by decide) (lenOf pd2 rfl) rfl rfl (by decide) (by decide) (by decide) (by decide) rfl ?_
    rintro h11 ⟨n11, ks11, vs11, hle11, Rp11, P11⟩
    refine go_more (k' := 14) (n' := 104) (by decide) (by decide) ?_
    refine go_iload c0_146 rfl ?_
    refine go_iload c0_148 rfl ?_
    refine go_callS1 (y := x) (W := 0) (argsL := [(.int 4), (.int 0)]) (st := []) c0_150 (rm_min l Z a0 hw h11 n0 4 0) (t52 hw) (t53 hw) (t54 hw) (t55 hw) (by decide) (lenOf pd6 rfl) rfl rfl (by decide) (by decide) (by decide) (by decide) rfl ?_
    rintro _ _ ⟨rfl, rfl⟩
    refine go_more (k' := 14) (n' := 104) (by decide) (by decide) ?_
    refine go_isI 0 (by decide) ?_
    refine go_istore c0_153 rfl rfl ?_
    dsimp only [setl]
    refine go_aload c0_155 rfl rfl ?_
    refine go_callV1 (y := x) (W := 0) (argsL := []) (st := []) c0_157 (rm_size l Z a0 hw h11 n0 0 a3 m con rea c0 c1 c2 c3 0 0 0 0 .null .null .null .null .null .null .null .null ka10 va10 b10 n11 ks11 vs11 (own_up (own_up (own_up (own_up (own_up (own_up (own_up (own_up (fun _ => -1) c0 0) c1 1) c2 2) c3 3) c3 (-1)) c2 (-1)) c1 (-1)) c0 (-1)) Rp11 P11) (P11.exa (i := 5) rfl) (t56 hw) (t57 hw) (fun _ q => notFace_of_selects (args := #[]) (mvT q (t59 hw))) (t59 hw) (t58 hw) (t8 hw) (t60 hw) (by decide) (lenOf pd7 rfl) rfl rfl (by decide) (by decide) (by decide) (by decide) rfl ?_
    rintro _ _ ⟨rfl, rfl⟩
    refine go_more (k' := 14) (n' := 104) (by decide) (by decide) ?_
    refine go_iload c0_160 rfl ?_
    refine go_icmp_ne c0_162 (fun q => absurd q (by decide)) (fun _ => ?_)
    refine go_aload c0_165 rfl rfl ?_
    refine go_push c0_167 ?_
    refine go_iload c0_168 rfl ?_
    refine go_iload c0_170 rfl ?_
    refine go_iload c0_172 rfl ?_
    refine go_aload c0_174 rfl rfl ?_
    refine go_callS1 (y := x) (W := 0) (argsL := [(.ref a3), (.int 0), (.int c0), (.int 4), (.int 0), (.ref r)]) (st := []) c0_176 (rm_chk0 l Z a0 hw h11 n0 0 a3 m con rea c0 c1 c2 c3 0 0 0 0 .null .null .null .null .null .null .null .null ka10 va10 b10 n11 ks11 vs11 (own_up (own_up (own_up (own_up (own_up (own_up (own_up (own_up (fun _ => -1) c0 0) c1 1) c2 2) c3 3) c3 (-1)) c2 (-1)) c1 (-1)) c0 (-1)) Rp11 P11 rfl c0 4 0 r hc0 (Or.inr ⟨by decide, (by simp [own_up, d01, d02, d03, d10, d12, d13, d20, d21, d23, d30, d31, d32]), fun _ => rfl⟩)) (t61 hw) (t62 hw) (t63 hw) (t64 hw) (by decide) (lenOf pd8 rfl) rfl rfl (by decide) (by decide) (by decide) (by decide) rfl ?_
    rintro _ _ ⟨rfl, rfl⟩
    refine go_more (k' := 14) (n' := 104) (by decide) (by decide) ?_
    refine go_if_eq c0_179 (fun q => absurd q (by decide)) (fun _ => ?_)
    refine go_aload c0_182 rfl rfl ?_
    refine go_push c0_184 ?_
    refine go_iload c0_185 rfl ?_
    refine go_iload c0_187 rfl ?_
    refine go_iload c0_189 rfl ?_
    refine go_aload c0_191 rfl rfl ?_
    refine go_callS1 (y := x) (W := 0) (argsL := [(.ref a3), (.int 1), (.int c1), (.int 4), (.int 0), (.ref r)]) (st := []) c0_193 (rm_chk1 l Z a0 hw h11 n0 0 a3 m con rea c0 c1 c2 c3 0 0 0 0 .null .null .null .null .null .null .null .null ka10 va10 b10 n11 ks11 vs11 (own_up (own_up (own_up (own_up (own_up (own_up (own_up (own_up (fun _ => -1) c0 0) c1 1) c2 2) c3 3) c3 (-1)) c2 (-1)) c1 (-1)) c0 (-1)) Rp11 P11 rfl c1 4 0 r hc1 (Or.inr ⟨by decide, (by simp [own_up, d01, d02, d03, d10, d12, d13, d20, d21, d23, d30, d31, d32]), fun _ => rfl⟩)) (t61 hw) (t62 hw) (t63 hw) (t64 hw) (by decide) (lenOf pd8 rfl) rfl rfl (by decide) (by decide) (by decide) (by decide) rfl ?_
    rintro _ _ ⟨rfl, rfl⟩
    refine go_more (k' := 14) (n' := 104) (by decide) (by decide) ?_
    refine go_if_eq c0_196 (fun q => absurd q (by decide)) (fun _ => ?_)
    refine go_aload c0_199 rfl rfl ?_
    refine go_push c0_201 ?_
    refine go_iload c0_202 rfl ?_
    refine go_iload c0_204 rfl ?_
    refine go_iload c0_206 rfl ?_
    refine go_aload c0_208 rfl rfl ?_
    refine go_callS1 (y := x) (W := 0) (argsL := [(.ref a3), (.int 2), (.int c2), (.int 4), (.int 0), (.ref r)]) (st := []) c0_210 (rm_chk2 l Z a0 hw h11 n0 0 a3 m con rea c0 c1 c2 c3 0 0 0 0 .null .null .null .null .null .null .null .null ka10 va10 b10 n11 ks11 vs11 (own_up (own_up (own_up (own_up (own_up (own_up (own_up (own_up (fun _ => -1) c0 0) c1 1) c2 2) c3 3) c3 (-1)) c2 (-1)) c1 (-1)) c0 (-1)) Rp11 P11 rfl c2 4 0 r hc2 (Or.inr ⟨by decide, (by simp [own_up, d01, d02, d03, d10, d12, d13, d20, d21, d23, d30, d31, d32]), fun _ => rfl⟩)) (t61 hw) (t62 hw) (t63 hw) (t64 hw) (by decide) (lenOf pd8 rfl) rfl rfl (by decide) (by decide) (by decide) (by decide) rfl ?_
    rintro _ _ ⟨rfl, rfl⟩
    refine go_more (k' := 14) (n' := 104) (by decide) (by decide) ?_
    refine go_if_eq c0_213 (fun q => absurd q (by decide)) (fun _ => ?_)
    refine go_aload c0_216 rfl rfl ?_
    refine go_push c0_218 ?_
    refine go_iload c0_219 rfl ?_
    refine go_iload c0_221 rfl ?_
    refine go_iload c0_223 rfl ?_
    refine go_aload c0_225 rfl rfl ?_
    refine go_callS1 (y := x) (W := 0) (argsL := [(.ref a3), (.int 3), (.int c3), (.int 4), (.int 0), (.ref r)]) (st := []) c0_227 (rm_chk3 l Z a0 hw h11 n0 0 a3 m con rea c0 c1 c2 c3 0 0 0 0 .null .null .null .null .null .null .null .null ka10 va10 b10 n11 ks11 vs11 (own_up (own_up (own_up (own_up (own_up (own_up (own_up (own_up (fun _ => -1) c0 0) c1 1) c2 2) c3 3) c3 (-1)) c2 (-1)) c1 (-1)) c0 (-1)) Rp11 P11 rfl c3 4 0 r hc3 (Or.inr ⟨by decide, (by simp [own_up, d01, d02, d03, d10, d12, d13, d20, d21, d23, d30, d31, d32]), fun _ => rfl⟩)) (t61 hw) (t62 hw) (t63 hw) (t64 hw) (by decide) (lenOf pd8 rfl) rfl rfl (by decide) (by decide) (by decide) (by decide) rfl ?_
    rintro _ _ ⟨rfl, rfl⟩
    refine go_more (k' := 14) (n' := 104) (by decide) (by decide) ?_
    refine go_if_eq c0_230 (fun q => absurd q (by decide)) (fun _ => ?_)
    refine go_push c0_233 ?_
    refine go_goto c0_234 ?_
    exact go_bret rfl c0_238 (by decide) (by decide) (by decide) ⟨_, rfl, rfl⟩
  · refine go_aload c0_139 rfl rfl ?_
    refine go_iload c0_141 rfl ?_
    refine go_callV0 (y := x) (W := 0) (argsL := [(.int 1)]) (st := []) c0_143 (rm_tr4_1 l Z a0 hw h10 n0 a3 m con rea c0 c1 c2 c3 0 0 0 0 (.ref r) (.ref r) (.ref r) (.ref r) .null .null .null .null ka10 va10 b10 n10 ks10 vs10 (own_up (own_up (own_up (own_up (fun _ => -1) c0 0) c1 1) c2 2) c3 3) Rp10 P10 hc1 hc2 hc3) (P10.exa (i := 5) rfl) (t45 hw) (t46 hw) (fun _ q => notFace_of_selects (args := #[]) (mvT q (t48 hw))) (t48 hw) (t47 hw) (t8 hw) (t49 hw) (by decide) (lenOf pd2 rfl) rfl rfl (by decide) (by decide) (by decide) (by decide) rfl ?_
    rintro h12 ⟨n12, ks12, vs12, hle12, Rp12, P12⟩
    refine go_more (k' := 14) (n' := 104) (by decide) (by decide) ?_
    refine go_iload c0_146 rfl ?_
    refine go_iload c0_148 rfl ?_
    refine go_callS1 (y := x) (W := 0) (argsL := [(.int 4), (.int 1)]) (st := []) c0_150 (rm_min l Z a0 hw h12 n0 4 1) (t52 hw) (t53 hw) (t54 hw) (t55 hw) (by decide) (lenOf pd6 rfl) rfl rfl (by decide) (by decide) (by decide) (by decide) rfl ?_
    rintro _ _ ⟨rfl, rfl⟩
    refine go_more (k' := 14) (n' := 104) (by decide) (by decide) ?_
    refine go_isI 1 (by decide) ?_
    refine go_istore c0_153 rfl rfl ?_
    dsimp only [setl]
    refine go_aload c0_155 rfl rfl ?_
    refine go_callV1 (y := x) (W := 0) (argsL := []) (st := []) c0_157 (rm_size l Z a0 hw h12 n0 1 a3 m con rea c0 c1 c2 c3 0 0 0 0 (.ref r) .null .null .null .null .null .null .null ka10 va10 b10 n12 ks12 vs12 (own_up (own_up (own_up (own_up (own_up (own_up (own_up (fun _ => -1) c0 0) c1 1) c2 2) c3 3) c3 (-1)) c2 (-1)) c1 (-1)) Rp12 P12) (P12.exa (i := 5) rfl) (t56 hw) (t57 hw) (fun _ q => notFace_of_selects (args := #[]) (mvT q (t59 hw))) (t59 hw) (t58 hw) (t8 hw) (t60 hw) (by decide) (lenOf pd7 rfl) rfl rfl (by decide) (by decide) (by decide) (by decide) rfl ?_
    rintro _ _ ⟨rfl, rfl⟩
    refine go_more (k' := 14) (n' := 104) (by decide) (by decide) ?_
    refine go_iload c0_160 rfl ?_
    refine go_icmp_ne c0_162 (fun q => absurd q (by decide)) (fun _ => ?_)
    refine go_aload c0_165 rfl rfl ?_
    refine go_push c0_167 ?_
    refine go_iload c0_168 rfl ?_
    refine go_iload c0_170 rfl ?_
    refine go_iload c0_172 rfl ?_
    refine go_aload c0_174 rfl rfl ?_
    refine go_callS1 (y := x) (W := 0) (argsL := [(.ref a3), (.int 0), (.int c0), (.int 4), (.int 1), (.ref r)]) (st := []) c0_176 (rm_chk0 l Z a0 hw h12 n0 1 a3 m con rea c0 c1 c2 c3 0 0 0 0 (.ref r) .null .null .null .null .null .null .null ka10 va10 b10 n12 ks12 vs12 (own_up (own_up (own_up (own_up (own_up (own_up (own_up (fun _ => -1) c0 0) c1 1) c2 2) c3 3) c3 (-1)) c2 (-1)) c1 (-1)) Rp12 P12 rfl c0 4 1 r hc0 (Or.inl ⟨by decide, (by simp [own_up, d01, d02, d03, d10, d12, d13, d20, d21, d23, d30, d31, d32]), rfl, rfl⟩)) (t61 hw) (t62 hw) (t63 hw) (t64 hw) (by decide) (lenOf pd8 rfl) rfl rfl (by decide) (by decide) (by decide) (by decide) rfl ?_
    rintro _ _ ⟨rfl, rfl⟩
    refine go_more (k' := 14) (n' := 104) (by decide) (by decide) ?_
    refine go_if_eq c0_179 (fun q => absurd q (by decide)) (fun _ => ?_)
    refine go_aload c0_182 rfl rfl ?_
    refine go_push c0_184 ?_
    refine go_iload c0_185 rfl ?_
    refine go_iload c0_187 rfl ?_
    refine go_iload c0_189 rfl ?_
    refine go_aload c0_191 rfl rfl ?_
    refine go_callS1 (y := x) (W := 0) (argsL := [(.ref a3), (.int 1), (.int c1), (.int 4), (.int 1), (.ref r)]) (st := []) c0_193 (rm_chk1 l Z a0 hw h12 n0 1 a3 m con rea c0 c1 c2 c3 0 0 0 0 (.ref r) .null .null .null .null .null .null .null ka10 va10 b10 n12 ks12 vs12 (own_up (own_up (own_up (own_up (own_up (own_up (own_up (fun _ => -1) c0 0) c1 1) c2 2) c3 3) c3 (-1)) c2 (-1)) c1 (-1)) Rp12 P12 rfl c1 4 1 r hc1 (Or.inr ⟨by decide, (by simp [own_up, d01, d02, d03, d10, d12, d13, d20, d21, d23, d30, d31, d32]), fun _ => rfl⟩)) (t61 hw) (t62 hw) (t63 hw) (t64 hw) (by decide) (lenOf pd8 rfl) rfl rfl (by decide) (by decide) (by decide) (by decide) rfl ?_
    rintro _ _ ⟨rfl, rfl⟩
    refine go_more (k' := 14) (n' := 104) (by decide) (by decide) ?_
    refine go_if_eq c0_196 (fun q => absurd q (by decide)) (fun _ => ?_)
    refine go_aload c0_199 rfl rfl ?_
    refine go_push c0_201 ?_
    refine go_iload c0_202 rfl ?_
    refine go_iload c0_204 rfl ?_
    refine go_iload c0_206 rfl ?_
    refine go_aload c0_208 rfl rfl ?_
    refine go_callS1 (y := x) (W := 0) (argsL := [(.ref a3), (.int 2), (.int c2), (.int 4), (.int 1), (.ref r)]) (st := []) c0_210 (rm_chk2 l Z a0 hw h12 n0 1 a3 m con rea c0 c1 c2 c3 0 0 0 0 (.ref r) .null .null .null .null .null .null .null ka10 va10 b10 n12 ks12 vs12 (own_up (own_up (own_up (own_up (own_up (own_up (own_up (fun _ => -1) c0 0) c1 1) c2 2) c3 3) c3 (-1)) c2 (-1)) c1 (-1)) Rp12 P12 rfl c2 4 1 r hc2 (Or.inr ⟨by decide, (by simp [own_up, d01, d02, d03, d10, d12, d13, d20, d21, d23, d30, d31, d32]), fun _ => rfl⟩)) (t61 hw) (t62 hw) (t63 hw) (t64 hw) (by decide) (lenOf pd8 rfl) rfl rfl (by decide) (by decide) (by decide) (by decide) rfl ?_
    rintro _ _ ⟨rfl, rfl⟩
    refine go_more (k' := 14) (n' := 104) (by decide) (by decide) ?_
    refine go_if_eq c0_213 (fun q => absurd q (by decide)) (fun _ => ?_)
    refine go_aload c0_216 rfl rfl ?_
    refine go_push c0_218 ?_
    refine go_iload c0_219 rfl ?_
    refine go_iload c0_221 rfl ?_
    refine go_iload c0_223 rfl ?_
    refine go_aload c0_225 rfl rfl ?_
    refine go_callS1 (y := x) (W := 0) (argsL := [(.ref a3), (.int 3), (.int c3), (.int 4), (.int 1), (.ref r)]) (st := []) c0_227 (rm_chk3 l Z a0 hw h12 n0 1 a3 m con rea c0 c1 c2 c3 0 0 0 0 (.ref r) .null .null .null .null .null .null .null ka10 va10 b10 n12 ks12 vs12 (own_up (own_up (own_up (own_up (own_up (own_up (own_up (fun _ => -1) c0 0) c1 1) c2 2) c3 3) c3 (-1)) c2 (-1)) c1 (-1)) Rp12 P12 rfl c3 4 1 r hc3 (Or.inr ⟨by decide, (by simp [own_up, d01, d02, d03, d10, d12, d13, d20, d21, d23, d30, d31, d32]), fun _ => rfl⟩)) (t61 hw) (t62 hw) (t63 hw) (t64 hw) (by decide) (lenOf pd8 rfl) rfl rfl (by decide) (by decide) (by decide) (by decide) rfl ?_
    rintro _ _ ⟨rfl, rfl⟩
    refine go_more (k' := 14) (n' := 104) (by decide) (by decide) ?_
    refine go_if_eq c0_230 (fun q => absurd q (by decide)) (fun _ => ?_)
    refine go_push c0_233 ?_
    refine go_goto c0_234 ?_
    exact go_bret rfl c0_238 (by decide) (by decide) (by decide) ⟨_, rfl, rfl⟩
  · refine go_aload c0_139 rfl rfl ?_
    refine go_iload c0_141 rfl ?_
    refine go_callV0 (y := x) (W := 0) (argsL := [(.int 2)]) (st := []) c0_143 (rm_tr4_2 l Z a0 hw h10 n0 a3 m con rea c0 c1 c2 c3 0 0 0 0 (.ref r) (.ref r) (.ref r) (.ref r) .null .null .null .null ka10 va10 b10 n10 ks10 vs10 (own_up (own_up (own_up (own_up (fun _ => -1) c0 0) c1 1) c2 2) c3 3) Rp10 P10 hc2 hc3) (P10.exa (i := 5) rfl) (t45 hw) (t46 hw) (fun _ q => notFace_of_selects (args := #[]) (mvT q (t48 hw))) (t48 hw) (t47 hw) (t8 hw) (t49 hw) (by decide) (lenOf pd2 rfl) rfl rfl (by decide) (by decide) (by decide) (by decide) rfl ?_
    rintro h13 ⟨n13, ks13, vs13, hle13, Rp13, P13⟩
    refine go_more (k' := 14) (n' := 104) (by decide) (by decide) ?_
    refine go_iload c0_146 rfl ?_
    refine go_iload c0_148 rfl ?_
    refine go_callS1 (y := x) (W := 0) (argsL := [(.int 4), (.int 2)]) (st := []) c0_150 (rm_min l Z a0 hw h13 n0 4 2) (t52 hw) (t53 hw) (t54 hw) (t55 hw) (by decide) (lenOf pd6 rfl) rfl rfl (by decide) (by decide) (by decide) (by decide) rfl ?_
    rintro _ _ ⟨rfl, rfl⟩
    refine go_more (k' := 14) (n' := 104) (by decide) (by decide) ?_
    refine go_isI 2 (by decide) ?_
    refine go_istore c0_153 rfl rfl ?_
    dsimp only [setl]
    refine go_aload c0_155 rfl rfl ?_
    refine go_callV1 (y := x) (W := 0) (argsL := []) (st := []) c0_157 (rm_size l Z a0 hw h13 n0 2 a3 m con rea c0 c1 c2 c3 0 0 0 0 (.ref r) (.ref r) .null .null .null .null .null .null ka10 va10 b10 n13 ks13 vs13 (own_up (own_up (own_up (own_up (own_up (own_up (fun _ => -1) c0 0) c1 1) c2 2) c3 3) c3 (-1)) c2 (-1)) Rp13 P13) (P13.exa (i := 5) rfl) (t56 hw) (t57 hw) (fun _ q => notFace_of_selects (args := #[]) (mvT q (t59 hw))) (t59 hw) (t58 hw) (t8 hw) (t60 hw) (by decide) (lenOf pd7 rfl) rfl rfl (by decide) (by decide) (by decide) (by decide) rfl ?_
    rintro _ _ ⟨rfl, rfl⟩
    refine go_more (k' := 14) (n' := 104) (by decide) (by decide) ?_
    refine go_iload c0_160 rfl ?_
    refine go_icmp_ne c0_162 (fun q => absurd q (by decide)) (fun _ => ?_)
    refine go_aload c0_165 rfl rfl ?_
    refine go_push c0_167 ?_
    refine go_iload c0_168 rfl ?_
    refine go_iload c0_170 rfl ?_
    refine go_iload c0_172 rfl ?_
    refine go_aload c0_174 rfl rfl ?_
    refine go_callS1 (y := x) (W := 0) (argsL := [(.ref a3), (.int 0), (.int c0), (.int 4), (.int 2), (.ref r)]) (st := []) c0_176 (rm_chk0 l Z a0 hw h13 n0 2 a3 m con rea c0 c1 c2 c3 0 0 0 0 (.ref r) (.ref r) .null .null .null .null .null .null ka10 va10 b10 n13 ks13 vs13 (own_up (own_up (own_up (own_up (own_up (own_up (fun _ => -1) c0 0) c1 1) c2 2) c3 3) c3 (-1)) c2 (-1)) Rp13 P13 rfl c0 4 2 r hc0 (Or.inl ⟨by decide, (by simp [own_up, d01, d02, d03, d10, d12, d13, d20, d21, d23, d30, d31, d32]), rfl, rfl⟩)) (t61 hw) (t62 hw) (t63 hw) (t64 hw) (by decide) (lenOf pd8 rfl) rfl rfl (by decide) (by decide) (by decide) (by decide) rfl ?_
    rintro _ _ ⟨rfl, rfl⟩
    refine go_more (k' := 14) (n' := 104) (by decide) (by decide) ?_
    refine go_if_eq c0_179 (fun q => absurd q (by decide)) (fun _ => ?_)
    refine go_aload c0_182 rfl rfl ?_
    refine go_push c0_184 ?_
    refine go_iload c0_185 rfl ?_
    refine go_iload c0_187 rfl ?_
    refine go_iload c0_189 rfl ?_
    refine go_aload c0_191 rfl rfl ?_
    refine go_callS1 (y := x) (W := 0) (argsL := [(.ref a3), (.int 1), (.int c1), (.int 4), (.int 2), (.ref r)]) (st := []) c0_193 (rm_chk1 l Z a0 hw h13 n0 2 a3 m con rea c0 c1 c2 c3 0 0 0 0 (.ref r) (.ref r) .null .null .null .null .null .null ka10 va10 b10 n13 ks13 vs13 (own_up (own_up (own_up (own_up (own_up (own_up (fun _ => -1) c0 0) c1 1) c2 2) c3 3) c3 (-1)) c2 (-1)) Rp13 P13 rfl c1 4 2 r hc1 (Or.inl ⟨by decide, (by simp [own_up, d01, d02, d03, d10, d12, d13, d20, d21, d23, d30, d31, d32]), rfl, rfl⟩)) (t61 hw) (t62 hw) (t63 hw) (t64 hw) (by decide) (lenOf pd8 rfl) rfl rfl (by decide) (by decide) (by decide) (by decide) rfl ?_
    rintro _ _ ⟨rfl, rfl⟩
    refine go_more (k' := 14) (n' := 104) (by decide) (by decide) ?_
    refine go_if_eq c0_196 (fun q => absurd q (by decide)) (fun _ => ?_)
    refine go_aload c0_199 rfl rfl ?_
    refine go_push c0_201 ?_
    refine go_iload c0_202 rfl ?_
    refine go_iload c0_204 rfl ?_
    refine go_iload c0_206 rfl ?_
    refine go_aload c0_208 rfl rfl ?_
    refine go_callS1 (y := x) (W := 0) (argsL := [(.ref a3), (.int 2), (.int c2), (.int 4), (.int 2), (.ref r)]) (st := []) c0_210 (rm_chk2 l Z a0 hw h13 n0 2 a3 m con rea c0 c1 c2 c3 0 0 0 0 (.ref r) (.ref r) .null .null .null .null .null .null ka10 va10 b10 n13 ks13 vs13 (own_up (own_up (own_up (own_up (own_up (own_up (fun _ => -1) c0 0) c1 1) c2 2) c3 3) c3 (-1)) c2 (-1)) Rp13 P13 rfl c2 4 2 r hc2 (Or.inr ⟨by decide, (by simp [own_up, d01, d02, d03, d10, d12, d13, d20, d21, d23, d30, d31, d32]), fun _ => rfl⟩)) (t61 hw) (t62 hw) (t63 hw) (t64 hw) (by decide) (lenOf pd8 rfl) rfl rfl (by decide) (by decide) (by decide) (by decide) rfl ?_
    rintro _ _ ⟨rfl, rfl⟩
    refine go_more (k' := 14) (n' := 104) (by decide) (by decide) ?_
    refine go_if_eq c0_213 (fun q => absurd q (by decide)) (fun _ => ?_)
    refine go_aload c0_216 rfl rfl ?_
    refine go_push c0_218 ?_
    refine go_iload c0_219 rfl ?_
    refine go_iload c0_221 rfl ?_
    refine go_iload c0_223 rfl ?_
    refine go_aload c0_225 rfl rfl ?_
    refine go_callS1 (y := x) (W := 0) (argsL := [(.ref a3), (.int 3), (.int c3), (.int 4), (.int 2), (.ref r)]) (st := []) c0_227 (rm_chk3 l Z a0 hw h13 n0 2 a3 m con rea c0 c1 c2 c3 0 0 0 0 (.ref r) (.ref r) .null .null .null .null .null .null ka10 va10 b10 n13 ks13 vs13 (own_up (own_up (own_up (own_up (own_up (own_up (fun _ => -1) c0 0) c1 1) c2 2) c3 3) c3 (-1)) c2 (-1)) Rp13 P13 rfl c3 4 2 r hc3 (Or.inr ⟨by decide, (by simp [own_up, d01, d02, d03, d10, d12, d13, d20, d21, d23, d30, d31, d32]), fun _ => rfl⟩)) (t61 hw) (t62 hw) (t63 hw) (t64 hw) (by decide) (lenOf pd8 rfl) rfl rfl (by decide) (by decide) (by decide) (by decide) rfl ?_
    rintro _ _ ⟨rfl, rfl⟩
    refine go_more (k' := 14) (n' := 104) (by decide) (by decide) ?_
    refine go_if_eq c0_230 (fun q => absurd q (by decide)) (fun _ => ?_)
    refine go_push c0_233 ?_
    refine go_goto c0_234 ?_
    exact go_bret rfl c0_238 (by decide) (by decide) (by decide) ⟨_, rfl, rfl⟩
  · refine go_aload c0_139 rfl rfl ?_
    refine go_iload c0_141 rfl ?_
    refine go_callV0 (y := x) (W := 0) (argsL := [(.int 3)]) (st := []) c0_143 (rm_tr4_3 l Z a0 hw h10 n0 a3 m con rea c0 c1 c2 c3 0 0 0 0 (.ref r) (.ref r) (.ref r) (.ref r) .null .null .null .null ka10 va10 b10 n10 ks10 vs10 (own_up (own_up (own_up (own_up (fun _ => -1) c0 0) c1 1) c2 2) c3 3) Rp10 P10 hc3) (P10.exa (i := 5) rfl) (t45 hw) (t46 hw) (fun _ q => notFace_of_selects (args := #[]) (mvT q (t48 hw))) (t48 hw) (t47 hw) (t8 hw) (t49 hw) (by decide) (lenOf pd2 rfl) rfl rfl (by decide) (by decide) (by decide) (by decide) rfl ?_
    rintro h14 ⟨n14, ks14, vs14, hle14, Rp14, P14⟩
    refine go_more (k' := 14) (n' := 104) (by decide) (by decide) ?_
    refine go_iload c0_146 rfl ?_
    refine go_iload c0_148 rfl ?_
    refine go_callS1 (y := x) (W := 0) (argsL := [(.int 4), (.int 3)]) (st := []) c0_150 (rm_min l Z a0 hw h14 n0 4 3) (t52 hw) (t53 hw) (t54 hw) (t55 hw) (by decide) (lenOf pd6 rfl) rfl rfl (by decide) (by decide) (by decide) (by decide) rfl ?_
    rintro _ _ ⟨rfl, rfl⟩
    refine go_more (k' := 14) (n' := 104) (by decide) (by decide) ?_
    refine go_isI 3 (by decide) ?_
    refine go_istore c0_153 rfl rfl ?_
    dsimp only [setl]
    refine go_aload c0_155 rfl rfl ?_
    refine go_callV1 (y := x) (W := 0) (argsL := []) (st := []) c0_157 (rm_size l Z a0 hw h14 n0 3 a3 m con rea c0 c1 c2 c3 0 0 0 0 (.ref r) (.ref r) (.ref r) .null .null .null .null .null ka10 va10 b10 n14 ks14 vs14 (own_up (own_up (own_up (own_up (own_up (fun _ => -1) c0 0) c1 1) c2 2) c3 3) c3 (-1)) Rp14 P14) (P14.exa (i := 5) rfl) (t56 hw) (t57 hw) (fun _ q => notFace_of_selects (args := #[]) (mvT q (t59 hw))) (t59 hw) (t58 hw) (t8 hw) (t60 hw) (by decide) (lenOf pd7 rfl) rfl rfl (by decide) (by decide) (by decide) (by decide) rfl ?_
    rintro _ _ ⟨rfl, rfl⟩
    refine go_more (k' := 14) (n' := 104) (by decide) (by decide) ?_
    refine go_iload c0_160 rfl ?_
    refine go_icmp_ne c0_162 (fun q => absurd q (by decide)) (fun _ => ?_)
    refine go_aload c0_165 rfl rfl ?_
    refine go_push c0_167 ?_
    refine go_iload c0_168 rfl ?_
    refine go_iload c0_170 rfl ?_
    refine go_iload c0_172 rfl ?_
    refine go_aload c0_174 rfl rfl ?_
    refine go_callS1 (y := x) (W := 0) (argsL := [(.ref a3), (.int 0), (.int c0), (.int 4), (.int 3), (.ref r)]) (st := []) c0_176 (rm_chk0 l Z a0 hw h14 n0 3 a3 m con rea c0 c1 c2 c3 0 0 0 0 (.ref r) (.ref r) (.ref r) .null .null .null .null .null ka10 va10 b10 n14 ks14 vs14 (own_up (own_up (own_up (own_up (own_up (fun _ => -1) c0 0) c1 1) c2 2) c3 3) c3 (-1)) Rp14 P14 rfl c0 4 3 r hc0 (Or.inl ⟨by decide, (by simp [own_up, d01, d02, d03, d10, d12, d13, d20, d21, d23, d30, d31, d32]), rfl, rfl⟩)) (t61 hw) (t62 hw) (t63 hw) (t64 hw) (by decide) (lenOf pd8 rfl) rfl rfl (by decide) (by decide) (by decide) (by decide) rfl ?_
    rintro _ _ ⟨rfl, rfl⟩
    refine go_more (k' := 14) (n' := 104) (by decide) (by decide) ?_
    refine go_if_eq c0_179 (fun q => absurd q (by decide)) (fun _ => ?_)
    refine go_aload c0_182 rfl rfl ?_
    refine go_push c0_184 ?_
    refine go_iload c0_185 rfl ?_
    refine go_iload c0_187 rfl ?_
    refine go_iload c0_189 rfl ?_
    refine go_aload c0_191 rfl rfl ?_
    refine go_callS1 (y := x) (W := 0) (argsL := [(.ref a3), (.int 1), (.int c1), (.int 4), (.int 3), (.ref r)]) (st := []) c0_193 (rm_chk1 l Z a0 hw h14 n0 3 a3 m con rea c0 c1 c2 c3 0 0 0 0 (.ref r) (.ref r) (.ref r) .null .null .null .null .null ka10 va10 b10 n14 ks14 vs14 (own_up (own_up (own_up (own_up (own_up (fun _ => -1) c0 0) c1 1) c2 2) c3 3) c3 (-1)) Rp14 P14 rfl c1 4 3 r hc1 (Or.inl ⟨by decide, (by simp [own_up, d01, d02, d03, d10, d12, d13, d20, d21, d23, d30, d31, d32]), rfl, rfl⟩)) (t61 hw) (t62 hw) (t63 hw) (t64 hw) (by decide) (lenOf pd8 rfl) rfl rfl (by decide) (by decide) (by decide) (by decide) rfl ?_
    rintro _ _ ⟨rfl, rfl⟩
    refine go_more (k' := 14) (n' := 104) (by decide) (by decide) ?_
    refine go_if_eq c0_196 (fun q => absurd q (by decide)) (fun _ => ?_)
    refine go_aload c0_199 rfl rfl ?_
    refine go_push c0_201 ?_
    refine go_iload c0_202 rfl ?_
    refine go_iload c0_204 rfl ?_
    refine go_iload c0_206 rfl ?_
    refine go_aload c0_208 rfl rfl ?_
    refine go_callS1 (y := x) (W := 0) (argsL := [(.ref a3), (.int 2), (.int c2), (.int 4), (.int 3), (.ref r)]) (st := []) c0_210 (rm_chk2 l Z a0 hw h14 n0 3 a3 m con rea c0 c1 c2 c3 0 0 0 0 (.ref r) (.ref r) (.ref r) .null .null .null .null .null ka10 va10 b10 n14 ks14 vs14 (own_up (own_up (own_up (own_up (own_up (fun _ => -1) c0 0) c1 1) c2 2) c3 3) c3 (-1)) Rp14 P14 rfl c2 4 3 r hc2 (Or.inl ⟨by decide, (by simp [own_up, d01, d02, d03, d10, d12, d13, d20, d21, d23, d30, d31, d32]), rfl, rfl⟩)) (t61 hw) (t62 hw) (t63 hw) (t64 hw) (by decide) (lenOf pd8 rfl) rfl rfl (by decide) (by decide) (by decide) (by decide) rfl ?_
    rintro _ _ ⟨rfl, rfl⟩
    refine go_more (k' := 14) (n' := 104) (by decide) (by decide) ?_
    refine go_if_eq c0_213 (fun q => absurd q (by decide)) (fun _ => ?_)
    refine go_aload c0_216 rfl rfl ?_
    refine go_push c0_218 ?_
    refine go_iload c0_219 rfl ?_
    refine go_iload c0_221 rfl ?_
    refine go_iload c0_223 rfl ?_
    refine go_aload c0_225 rfl rfl ?_
    refine go_callS1 (y := x) (W := 0) (argsL := [(.ref a3), (.int 3), (.int c3), (.int 4), (.int 3), (.ref r)]) (st := []) c0_227 (rm_chk3 l Z a0 hw h14 n0 3 a3 m con rea c0 c1 c2 c3 0 0 0 0 (.ref r) (.ref r) (.ref r) .null .null .null .null .null ka10 va10 b10 n14 ks14 vs14 (own_up (own_up (own_up (own_up (own_up (fun _ => -1) c0 0) c1 1) c2 2) c3 3) c3 (-1)) Rp14 P14 rfl c3 4 3 r hc3 (Or.inr ⟨by decide, (by simp [own_up, d01, d02, d03, d10, d12, d13, d20, d21, d23, d30, d31, d32]), fun _ => rfl⟩)) (t61 hw) (t62 hw) (t63 hw) (t64 hw) (by decide) (lenOf pd8 rfl) rfl rfl (by decide) (by decide) (by decide) (by decide) rfl ?_
    rintro _ _ ⟨rfl, rfl⟩
    refine go_more (k' := 14) (n' := 104) (by decide) (by decide) ?_
    refine go_if_eq c0_230 (fun q => absurd q (by decide)) (fun _ => ?_)
    refine go_push c0_233 ?_
    refine go_goto c0_234 ?_
    exact go_bret rfl c0_238 (by decide) (by decide) (by decide) ⟨_, rfl, rfl⟩
  · refine go_aload c0_139 rfl rfl ?_
    refine go_iload c0_141 rfl ?_
    refine go_callV0 (y := x) (W := 0) (argsL := [(.int pos)]) (st := []) c0_143 (rm_tr4_4 l Z a0 hw h10 n0 a3 m con rea c0 c1 c2 c3 0 0 0 0 (.ref r) (.ref r) (.ref r) (.ref r) .null .null .null .null ka10 va10 b10 n10 ks10 vs10 (own_up (own_up (own_up (own_up (fun _ => -1) c0 0) c1 1) c2 2) c3 3) Rp10 P10 pos hp) (P10.exa (i := 5) rfl) (t45 hw) (t46 hw) (fun _ q => notFace_of_selects (args := #[]) (mvT q (t48 hw))) (t48 hw) (t47 hw) (t8 hw) (t49 hw) (by decide) (lenOf pd2 rfl) rfl rfl (by decide) (by decide) (by decide) (by decide) rfl ?_
    rintro h15 ⟨n15, ks15, vs15, hle15, Rp15, P15⟩
    refine go_more (k' := 14) (n' := 104) (by decide) (by decide) ?_
    refine go_iload c0_146 rfl ?_
    refine go_iload c0_148 rfl ?_
    refine go_callS1 (y := x) (W := 0) (argsL := [(.int 4), (.int pos)]) (st := []) c0_150 (rm_min l Z a0 hw h15 n0 4 pos) (t52 hw) (t53 hw) (t54 hw) (t55 hw) (by decide) (lenOf pd6 rfl) rfl rfl (by decide) (by decide) (by decide) (by decide) rfl ?_
    rintro _ _ ⟨rfl, rfl⟩
    refine go_more (k' := 14) (n' := 104) (by decide) (by decide) ?_
    refine go_isI 4 (by unfold own_min; rw [if_neg hp]) ?_
    refine go_istore c0_153 rfl rfl ?_
    dsimp only [setl]
    refine go_aload c0_155 rfl rfl ?_
    refine go_callV1 (y := x) (W := 0) (argsL := []) (st := []) c0_157 (rm_size l Z a0 hw h15 n0 4 a3 m con rea c0 c1 c2 c3 0 0 0 0 (.ref r) (.ref r) (.ref r) (.ref r) .null .null .null .null ka10 va10 b10 n15 ks15 vs15 (own_up (own_up (own_up (own_up (fun _ => -1) c0 0) c1 1) c2 2) c3 3) Rp15 P15) (P15.exa (i := 5) rfl) (t56 hw) (t57 hw) (fun _ q => notFace_of_selects (args := #[]) (mvT q (t59 hw))) (t59 hw) (t58 hw) (t8 hw) (t60 hw) (by decide) (lenOf pd7 rfl) rfl rfl (by decide) (by decide) (by decide) (by decide) rfl ?_
    rintro _ _ ⟨rfl, rfl⟩
    refine go_more (k' := 14) (n' := 104) (by decide) (by decide) ?_
    refine go_iload c0_160 rfl ?_
    refine go_icmp_ne c0_162 (fun q => absurd q (by decide)) (fun _ => ?_)
    refine go_aload c0_165 rfl rfl ?_
    refine go_push c0_167 ?_
    refine go_iload c0_168 rfl ?_
    refine go_iload c0_170 rfl ?_
    refine go_iload c0_172 rfl ?_
    refine go_aload c0_174 rfl rfl ?_
    refine go_callS1 (y := x) (W := 0) (argsL := [(.ref a3), (.int 0), (.int c0), (.int 4), (.int 4), (.ref r)]) (st := []) c0_176 (rm_chk0 l Z a0 hw h15 n0 4 a3 m con rea c0 c1 c2 c3 0 0 0 0 (.ref r) (.ref r) (.ref r) (.ref r) .null .null .null .null ka10 va10 b10 n15 ks15 vs15 (own_up (own_up (own_up (own_up (fun _ => -1) c0 0) c1 1) c2 2) c3 3) Rp15 P15 rfl c0 4 4 r hc0 (Or.inl ⟨by decide, (by simp [own_up, d01, d02, d03, d10, d12, d13, d20, d21, d23, d30, d31, d32]), rfl, rfl⟩)) (t61 hw) (t62 hw) (t63 hw) (t64 hw) (by decide) (lenOf pd8 rfl) rfl rfl (by decide) (by decide) (by decide) (by decide) rfl ?_
    rintro _ _ ⟨rfl, rfl⟩
    refine go_more (k' := 14) (n' := 104) (by decide) (by decide) ?_
    refine go_if_eq c0_179 (fun q => absurd q (by decide)) (fun _ => ?_)
    refine go_aload c0_182 rfl rfl ?_
    refine go_push c0_184 ?_
    refine go_iload c0_185 rfl ?_
    refine go_iload c0_187 rfl ?_
    refine go_iload c0_189 rfl ?_
    refine go_aload c0_191 rfl rfl ?_
    refine go_callS1 (y := x) (W := 0) (argsL := [(.ref a3), (.int 1), (.int c1), (.int 4), (.int 4), (.ref r)]) (st := []) c0_193 (rm_chk1 l Z a0 hw h15 n0 4 a3 m con rea c0 c1 c2 c3 0 0 0 0 (.ref r) (.ref r) (.ref r) (.ref r) .null .null .null .null ka10 va10 b10 n15 ks15 vs15 (own_up (own_up (own_up (own_up (fun _ => -1) c0 0) c1 1) c2 2) c3 3) Rp15 P15 rfl c1 4 4 r hc1 (Or.inl ⟨by decide, (by simp [own_up, d01, d02, d03, d10, d12, d13, d20, d21, d23, d30, d31, d32]), rfl, rfl⟩)) (t61 hw) (t62 hw) (t63 hw) (t64 hw) (by decide) (lenOf pd8 rfl) rfl rfl (by decide) (by decide) (by decide) (by decide) rfl ?_
    rintro _ _ ⟨rfl, rfl⟩
    refine go_more (k' := 14) (n' := 104) (by decide) (by decide) ?_
    refine go_if_eq c0_196 (fun q => absurd q (by decide)) (fun _ => ?_)
    refine go_aload c0_199 rfl rfl ?_
    refine go_push c0_201 ?_
    refine go_iload c0_202 rfl ?_
    refine go_iload c0_204 rfl ?_
    refine go_iload c0_206 rfl ?_
    refine go_aload c0_208 rfl rfl ?_
    refine go_callS1 (y := x) (W := 0) (argsL := [(.ref a3), (.int 2), (.int c2), (.int 4), (.int 4), (.ref r)]) (st := []) c0_210 (rm_chk2 l Z a0 hw h15 n0 4 a3 m con rea c0 c1 c2 c3 0 0 0 0 (.ref r) (.ref r) (.ref r) (.ref r) .null .null .null .null ka10 va10 b10 n15 ks15 vs15 (own_up (own_up (own_up (own_up (fun _ => -1) c0 0) c1 1) c2 2) c3 3) Rp15 P15 rfl c2 4 4 r hc2 (Or.inl ⟨by decide, (by simp [own_up, d01, d02, d03, d10, d12, d13, d20, d21, d23, d30, d31, d32]), rfl, rfl⟩)) (t61 hw) (t62 hw) (t63 hw) (t64 hw) (by decide) (lenOf pd8 rfl) rfl rfl (by decide) (by decide) (by decide) (by decide) rfl ?_
    rintro _ _ ⟨rfl, rfl⟩
    refine go_more (k' := 14) (n' := 104) (by decide) (by decide) ?_
    refine go_if_eq c0_213 (fun q => absurd q (by decide)) (fun _ => ?_)
    refine go_aload c0_216 rfl rfl ?_
    refine go_push c0_218 ?_
    refine go_iload c0_219 rfl ?_
    refine go_iload c0_221 rfl ?_
    refine go_iload c0_223 rfl ?_
    refine go_aload c0_225 rfl rfl ?_
    refine go_callS1 (y := x) (W := 0) (argsL := [(.ref a3), (.int 3), (.int c3), (.int 4), (.int 4), (.ref r)]) (st := []) c0_227 (rm_chk3 l Z a0 hw h15 n0 4 a3 m con rea c0 c1 c2 c3 0 0 0 0 (.ref r) (.ref r) (.ref r) (.ref r) .null .null .null .null ka10 va10 b10 n15 ks15 vs15 (own_up (own_up (own_up (own_up (fun _ => -1) c0 0) c1 1) c2 2) c3 3) Rp15 P15 rfl c3 4 4 r hc3 (Or.inl ⟨by decide, (by simp [own_up, d01, d02, d03, d10, d12, d13, d20, d21, d23, d30, d31, d32]), rfl, rfl⟩)) (t61 hw) (t62 hw) (t63 hw) (t64 hw) (by decide) (lenOf pd8 rfl) rfl rfl (by decide) (by decide) (by decide) (by decide) rfl ?_
    rintro _ _ ⟨rfl, rfl⟩
    refine go_more (k' := 14) (n' := 104) (by decide) (by decide) ?_
    refine go_if_eq c0_230 (fun q => absurd q (by decide)) (fun _ => ?_)
    refine go_push c0_233 ?_
    refine go_goto c0_234 ?_
    exact go_bret rfl c0_238 (by decide) (by decide) (by decide) ⟨_, rfl, rfl⟩
set_option maxRecDepth 65536 in
set_option maxHeartbeats 4000000 in
theorem rm0 (l : Launch) (Z : State) (a0 : Array Value) (hw : ∀ d ∈ tables_1, d.before a0 Z = true) (h0 : Heap) (n0 : Nat) (P0 : Hp Z n0 h0 []) (r : Addr) (hr : Exa Z Z.heap r "com/example/satisfy/satisfy/reasoner/Reason") (S0 : Sta Z Z.heap "com/example/satisfy/satisfy/reasoner/Reason" "NONE" "Lcom/example/satisfy/satisfy/reasoner/Reason;" (.ref r)) (n p a b c d : Int32) :
    Con false l Z x code maxLocals ret room_1 #[(.int n), (.int p), (.int a), (.int b), (.int c), (.int d)] h0 n0 (R1 fun w _ => w = .int 1) := by
  refine con_of (ls := [.val (.int n), .val (.int p), .val (.int a), .val (.int b), .val (.int c), .val (.int d), .unset, .unset, .unset, .unset, .unset, .unset, .unset, .unset, .unset]) (plainFor_of_name pn3) rfl ?_
  refine go_iload c0_0 rfl ?_
  refine go_ldcI (y := x) c0_1 (t0 hw) ?_
  refine go_iand c0_3 ?_
  refine go_push c0_4 ?_
  refine go_irem c0_5 (by decide) ?_
  rcases own_k5 n with hk | hk | hk | hk | hk
  · refine go_isI 0 hk ?_
    refine go_istore c0_6 rfl rfl ?_
    dsimp only [setl]
    refine go_iload c0_8 rfl ?_
    refine go_if_ge c0_9 (fun b9 => ?_) (fun b9 => ?_)
    · refine go_iload c0_19 rfl ?_
      refine go_push c0_20 ?_
      refine go_irem c0_22 (by decide) ?_
      exact law_k0 l Z a0 hw h0 n0 P0 r hr S0 n p a b c d _ (own_pm6 p b9)
    · refine go_iload c0_12 rfl ?_
      refine go_ldcI (y := x) c0_13 (t0 hw) ?_
      refine go_iand c0_15 ?_
      refine go_goto c0_16 ?_
      exact law_k0 l Z a0 hw h0 n0 P0 r hr S0 n p a b c d _ (own_nneg p)
  · refine go_isI 1 hk ?_
    refine go_istore c0_6 rfl rfl ?_
    dsimp only [setl]
    refine go_iload c0_8 rfl ?_
    refine go_if_ge c0_9 (fun b9 => ?_) (fun b9 => ?_)
    · refine go_iload c0_19 rfl ?_
      refine go_push c0_20 ?_
      refine go_irem c0_22 (by decide) ?_
      exact law_k1 l Z a0 hw h0 n0 P0 r hr S0 n p a b c d _ (own_pm6 p b9)
    · refine go_iload c0_12 rfl ?_
      refine go_ldcI (y := x) c0_13 (t0 hw) ?_
      refine go_iand c0_15 ?_
      refine go_goto c0_16 ?_
      exact law_k1 l Z a0 hw h0 n0 P0 r hr S0 n p a b c d _ (own_nneg p)
  · refine go_isI 2 hk ?_
    refine go_istore c0_6 rfl rfl ?_
    dsimp only [setl]
    refine go_iload c0_8 rfl ?_
    refine go_if_ge c0_9 (fun b9 => ?_) (fun b9 => ?_)
    · refine go_iload c0_19 rfl ?_
      refine go_push c0_20 ?_
      refine go_irem c0_22 (by decide) ?_
      exact law_k2 l Z a0 hw h0 n0 P0 r hr S0 n p a b c d _ (own_pm6 p b9)
    · refine go_iload c0_12 rfl ?_
      refine go_ldcI (y := x) c0_13 (t0 hw) ?_
      refine go_iand c0_15 ?_
      refine go_goto c0_16 ?_
      exact law_k2 l Z a0 hw h0 n0 P0 r hr S0 n p a b c d _ (own_nneg p)
  · refine go_isI 3 hk ?_
    refine go_istore c0_6 rfl rfl ?_
    dsimp only [setl]
    refine go_iload c0_8 rfl ?_
    refine go_if_ge c0_9 (fun b9 => ?_) (fun b9 => ?_)
    · refine go_iload c0_19 rfl ?_
      refine go_push c0_20 ?_
      refine go_irem c0_22 (by decide) ?_
      exact law_k3 l Z a0 hw h0 n0 P0 r hr S0 n p a b c d _ (own_pm6 p b9)
    · refine go_iload c0_12 rfl ?_
      refine go_ldcI (y := x) c0_13 (t0 hw) ?_
      refine go_iand c0_15 ?_
      refine go_goto c0_16 ?_
      exact law_k3 l Z a0 hw h0 n0 P0 r hr S0 n p a b c d _ (own_nneg p)
  · refine go_isI 4 hk ?_
    refine go_istore c0_6 rfl rfl ?_
    dsimp only [setl]
    refine go_iload c0_8 rfl ?_
    refine go_if_ge c0_9 (fun b9 => ?_) (fun b9 => ?_)
    · refine go_iload c0_19 rfl ?_
      refine go_push c0_20 ?_
      refine go_irem c0_22 (by decide) ?_
      exact law_k4 l Z a0 hw h0 n0 P0 r hr S0 n p a b c d _ (own_pm6 p b9)
    · refine go_iload c0_12 rfl ?_
      refine go_ldcI (y := x) c0_13 (t0 hw) ?_
      refine go_iand c0_15 ?_
      refine go_goto c0_16 ?_
      exact law_k4 l Z a0 hw h0 n0 P0 r hr S0 n p a b c d _ (own_nneg p)
set_option maxRecDepth 65536 in
set_option maxHeartbeats 4000000 in
theorem comes_1 {Post : Tables → Env → Array Value → State → Outcome → State → Prop} (hpost : ∀ tb e args s v u, (limb_1_1.after args s (.returned v) u = true ∧ limb_1_2.after args s (.returned v) u = true ∧ True) → FrameEnd s (.returned v) u (Jvm.fieldLocs frame_1_writes args s ++ Jvm.arrayLocs frame_1_arrays args s ++ Jvm.staticLocs frame_1_statics s) 32 192 → Post tb e args s (.returned v) u) :
    ArmFor flags0 classFile x code maxLocals ret World_1 tables_1 room_1 Calls_1 rest_1 Pre_1 Post := by
  intro l hfl _ _ p e ha hc hk s m args below hf hA hF happ hP
  obtain ⟨hcalls, hrest, hpre⟩ := hP
  obtain ⟨-, -, -, hnamed, -, -, -, hat⟩ := (Spec.applies_iff hf).mp happ
  obtain ⟨hg, hn⟩ := and_e (Cond.before_iff.mp (show (Jvm.Cond.and given_1 narrow_1).before args s = true from hpre))
  obtain ⟨hct, hg0⟩ := and_e hg
  obtain ⟨ga0, hg1⟩ := and_e hg0
  obtain ⟨ga1, hg2⟩ := and_e hg1
  obtain ⟨ga2, hg3⟩ := and_e hg2
  obtain ⟨ga3, hg4⟩ := and_e hg3
  obtain ⟨ga4, hg5⟩ := and_e hg4
  have ga5 := hg5
  obtain ⟨w0, w1, w2, w3, w4, w5, rfl⟩ : ∃ w0 w1 w2 w3 w4 w5 : Value, args = #[w0, w1, w2, w3, w4, w5] := by
    have hs : args.size = 6 := by simpa [Cond.value, given_1] using hct
    obtain ⟨L⟩ := args
    match L, hs with
    | [w0, w1, w2, w3, w4, w5], _ => exact ⟨w0, w1, w2, w3, w4, w5, rfl⟩
  have hw := fun d (hd : d ∈ tables_1) => atoms_spec (ws := Jvm.Cond.code x code maxLocals ret :: tables_1) hat d (List.mem_cons_of_mem _ hd)
  have hfit : Fit s := fun {y c} hc i hi => by
    obtain ⟨ha, rfl⟩ := Array.getElem?_eq_some_iff.mp hc
    have q := List.all_eq_true.mp ((Array.all_eq_true_iff_forall_mem.mp hF) _ (Array.getElem_mem ha)) i (List.mem_range.mpr hi)
    simpa [Array.getElem?_eq_getElem hi] using q
  obtain ⟨i0, ei0⟩ := is_v ga0
  obtain rfl : w0 = (.int i0) := Option.some.inj ei0
  obtain ⟨i1, ei1⟩ := is_v ga1
  obtain rfl : w1 = (.int i1) := Option.some.inj ei1
  obtain ⟨i2, ei2⟩ := is_v ga2
  obtain rfl : w2 = (.int i2) := Option.some.inj ei2
  obtain ⟨i3, ei3⟩ := is_v ga3
  obtain rfl : w3 = (.int i3) := Option.some.inj ei3
  obtain ⟨i4, ei4⟩ := is_v ga4
  obtain rfl : w4 = (.int i4) := Option.some.inj ei4
  obtain ⟨i5, ei5⟩ := is_v ga5
  obtain rfl : w5 = (.int i5) := Option.some.inj ei5
  obtain ⟨r, ev⟩ := exa_v hn
  have K := rm0 l s _ hw s.heap s.heap.size (Hp.start s) r (Exa.start ev hn) (Sta.start ev (Or.inr ⟨(t4 hw), (t5 hw)⟩)) i0 i1 i2 i3 i4 i5
  obtain ⟨n, o, h1, h2, h3, v, L, rfl, ⟨⟨⟨w, rfl, rfl⟩, -⟩, N⟩, hq⟩ := K tables_1 p e ha hc hk s m _ below hf ((Spec.applies_iff_loose hf).mp happ).1 ⟨rfl, State.Warmed39.refl s, rfl⟩ trivial
  refine ⟨n, _, h1, h2, h3, hpost _ _ _ _ _ _ ⟨Cond.after_iff.mpr rfl, Cond.after_iff.mpr (eq_i res_at (Term.int_eval (1)) rfl), trivial⟩ ⟨hq.1, hq.2.1, (hq.2.2.sift fun y hy => Or.inr (N y hy)).mono (by decide) (by decide)⟩⟩
theorem main_1_1 : Claimed_1_1 := comes_1 fun _ _ _ _ _ _ h hF => ⟨h.1, hF⟩
theorem main_1_2 : Claimed_1_2 := comes_1 fun _ _ _ _ _ _ h hF => ⟨h.2.1, hF⟩
end Jvm.Pilot.@@N@@
namespace Jvm.Pilot.@@N@@
open Jvm Jvm.ClassFile Sem Op Lib Jvm.Free Jvm.Stand Jvm.Pilot.@@N@@.Jvm.D
/-! MADE BY PROGRAM (witnessworld.py) out of the Statement's table words and the real class files: 14 classes; the members and pool entries that the words name. The judged class is class 1, her method 1. -/
namespace start1
open Jvm.ClassFile
def u (s : String) : CpInfo := .utf8 (stringToUtf16 s)
/-- a pool by its gaps: so many unusable entries, then the entry; so many at the end -/
def gap : Nat → List CpInfo → List CpInfo
  | 0, r => r
  | n + 1, r => .unusable :: gap n r
def poolList (es : List (Nat × CpInfo)) (last : Nat) : List CpInfo := es.foldr (fun e r => gap e.1 (e.2 :: r)) (gap last [])
def pool (es : List (Nat × CpInfo)) (last : Nat) : Array CpInfo := ⟨poolList es last⟩
def fileOf (pool : Array CpInfo) (this : Nat) (attrs : Array Attribute := #[]) (ms : Array MethodInfo := #[]) (fl : Nat := 33) (sup : Nat := 0) (ifs : Array Nat := #[]) (fds : Array FieldInfo := #[]) : ClassFile where
  minorVersion := 0
  majorVersion := 65
  constantPool := pool
  accessFlags := fl
  thisClass := this
  superClass := sup
  interfaces := ifs
  fields := fds
  methods := ms
  attributes := attrs
def plain (name : String) (sup : Option ClassId) : Class where
  name := name
  kind := .ordinary
  loader := none
  accessFlags := 33
  super := sup
  interfaces := #[]
  cf := none
  fields := #[]
  methods := #[]
  instanceTypes := #[]
  staticTypes := #[]
  resolved := #[]
  callSites := []
  init := .initialized
  statics := none
  mirror := none

def pool0 : Array CpInfo := pool [(5, u "<init>"), (0, u "()V"), (1, .class_ 10), (1, u "java/lang/Object")] 113

def k0c0 : Code := { maxStack := 0, maxLocals := 1, code := object_method_1_code, exceptionTable := #[], attributes := #[] }
def k0m0 : Method := { name := "<init>", desc := "()V", sig := { parameters := [], returnType := none }, accessFlags := 1, code := some k0c0 }
/-- java/lang/Object -/
def k0 : Class := { plain "java/lang/Object" none with
  accessFlags := 33
  interfaces := #[]
  cf := some (fileOf pool0 8 #[] #[{ accessFlags := 1, nameIndex := 5, descriptorIndex := 6, attributes := #[] }] 33 0 #[] #[])
  fields := #[]
  methods := #[k0m0]
  instanceTypes := #[]
  staticTypes := #[]
  resolved := Array.replicate 124 none
  statics := none }

def pool1 : Array CpInfo := pool [(2, .class_ 4), (0, .nameAndType 5 6), (0, u "java/lang/Object"), (0, u "<init>"), (0, u "()V"), (0, .integer 2147483647), (0, .integer 1073741823), (0, .integer 268435455), (0, .fieldref 11 12), (0, .class_ 13), (0, .nameAndType 14 15), (0, u "com/example/satisfy/satisfy/reasoner/Reason"), (0, u "NONE"), (0, u "Lcom/example/satisfy/satisfy/reasoner/Reason;"), (0, .class_ 17), (0, u "com/example/satisfy/satisfy/reasoner/Trail"), (0, .methodref 16 3), (0, .methodref 16 20), (0, .nameAndType 21 22), (0, u "add"), (0, u "(ILcom/example/satisfy/satisfy/reasoner/Reason;)V"), (0, .methodref 16 24), (0, .nameAndType 25 26), (0, u "truncate"), (0, u "(I)V"), (0, .methodref 28 29), (0, .class_ 30), (0, .nameAndType 31 32), (0, u "java/lang/Math"), (0, u "min"), (0, u "(II)I"), (0, .methodref 16 34), (0, .nameAndType 35 36), (0, u "size"), (0, u "()I"), (0, .methodref 38 39), (0, .class_ 40), (0, .nameAndType 41 42), (0, u "com/example/satisfy/satisfy/reasoner/TrailTruncatePinLaw"), (0, u "check"), (0, u "(Lcom/example/satisfy/satisfy/reasoner/Trail;IIIILcom/example/satisfy/satisfy/reasoner/Reason;)Z"), (0, .methodref 16 44), (0, .nameAndType 45 46), (0, u "position"), (0, u "(I)I"), (0, .methodref 16 48), (0, .nameAndType 49 46), (0, u "concept"), (0, .methodref 16 51), (0, .nameAndType 52 53), (0, u "reason"), (0, u "(I)Lcom/example/satisfy/satisfy/reasoner/Reason;"), (2, u "law"), (0, u "(IIIIII)Z")] 3

def k1m0 : Method := { name := "<init>", desc := "()V", sig := { parameters := [], returnType := none }, accessFlags := 1, code := none }
def k1c1 : Code := { maxStack := 6, maxLocals := 15, code := code, exceptionTable := #[], attributes := #[] }
def k1m1 : Method := { name := "law", desc := "(IIIIII)Z", sig := { parameters := [.int, .int, .int, .int, .int, .int], returnType := some .boolean }, accessFlags := 9, code := some k1c1 }
def k1c2 : Code := { maxStack := 2, maxLocals := 7, code := method_3_code, exceptionTable := #[], attributes := #[] }
def k1m2 : Method := { name := "check", desc := "(Lcom/example/satisfy/satisfy/reasoner/Trail;IIIILcom/example/satisfy/satisfy/reasoner/Reason;)Z", sig := { parameters := [(.object "com/example/satisfy/satisfy/reasoner/Trail"), .int, .int, .int, .int, (.object "com/example/satisfy/satisfy/reasoner/Reason")], returnType := some .boolean }, accessFlags := 10, code := some k1c2 }
/-- com/example/satisfy/satisfy/reasoner/TrailTruncatePinLaw -/
def k1 : Class := { plain "com/example/satisfy/satisfy/reasoner/TrailTruncatePinLaw" (some 0) with
  accessFlags := 49
  interfaces := #[]
  cf := some (fileOf pool1 38 #[] #[{ accessFlags := 1, nameIndex := 5, descriptorIndex := 6, attributes := #[] }, { accessFlags := 9, nameIndex := 56, descriptorIndex := 57, attributes := #[] }, { accessFlags := 10, nameIndex := 41, descriptorIndex := 42, attributes := #[] }] 49 2 #[] #[])
  fields := #[]
  methods := #[k1m0, k1m1, k1m2]
  instanceTypes := #[]
  staticTypes := #[]
  resolved := Array.replicate 61 none
  statics := none }

def pool2 : Array CpInfo := pool [(2, .class_ 4), (1, u "java/lang/Object"), (3, .class_ 10), (1, u "com/example/satisfy/satisfy/reasoner/Reason"), (0, u "levels"), (0, u "[I"), (5, u "NONE"), (0, u "Lcom/example/satisfy/satisfy/reasoner/Reason;")] 42

/-- com/example/satisfy/satisfy/reasoner/Reason -/
def k2 : Class := { plain "com/example/satisfy/satisfy/reasoner/Reason" (some 0) with
  accessFlags := 32
  interfaces := #[]
  cf := some (fileOf pool2 8 #[] #[] 32 2 #[] #[{ accessFlags := 24, nameIndex := 18, descriptorIndex := 19, attributes := #[] }, { accessFlags := 18, nameIndex := 11, descriptorIndex := 12, attributes := #[] }])
  fields := #[{ name := "NONE", type := (.object "com/example/satisfy/satisfy/reasoner/Reason"), accessFlags := 24, slot := 0, constantValue := 0 }, { name := "levels", type := (.array .int), accessFlags := 18, slot := 0, constantValue := 0 }]
  methods := #[]
  instanceTypes := #[(.array .int)]
  staticTypes := #[(.object "com/example/satisfy/satisfy/reasoner/Reason")]
  resolved := Array.replicate 62 none
  statics := some 0 }

def pool3 : Array CpInfo := pool [(1, .methodref 2 3), (0, .class_ 4), (0, .nameAndType 5 6), (0, u "java/lang/Object"), (0, u "<init>"), (0, u "()V"), (0, .fieldref 8 9), (0, .class_ 10), (0, .nameAndType 11 12), (0, u "com/example/satisfy/satisfy/reasoner/Trail"), (0, u "concepts"), (0, u "[I"), (0, .class_ 14), (0, u "com/example/satisfy/satisfy/reasoner/Reason"), (0, .fieldref 8 16), (0, .nameAndType 17 18), (0, u "reasons"), (0, u "[Lcom/example/satisfy/satisfy/reasoner/Reason;"), (0, .class_ 20), (0, u "com/example/satisfy/satisfy/reasoner/IntMap"), (0, .methodref 19 3), (0, .fieldref 8 23), (0, .nameAndType 24 25), (0, u "positions"), (0, u "Lcom/example/satisfy/satisfy/reasoner/IntMap;"), (0, .fieldref 8 27), (0, .nameAndType 28 29), (0, u "size"), (0, u "I"), (0, .methodref 19 31), (0, .nameAndType 32 33), (0, u "get"), (0, u "(I)I"), (10, .methodref 19 45), (0, .nameAndType 46 47), (0, u "put"), (0, u "(II)V"), (0, .methodref 19 49), (0, .nameAndType 50 51), (0, u "remove"), (0, u "(I)V"), (2, u "()I"), (0, u "concept"), (0, u "reason"), (0, u "(I)Lcom/example/satisfy/satisfy/reasoner/Reason;"), (3, u "position"), (0, u "add"), (0, u "(ILcom/example/satisfy/satisfy/reasoner/Reason;)V"), (0, u "truncate")] 2

def k3c0 : Code := { maxStack := 3, maxLocals := 1, code := prog_91_method_1_code, exceptionTable := #[], attributes := #[] }
def k3m0 : Method := { name := "<init>", desc := "()V", sig := { parameters := [], returnType := none }, accessFlags := 0, code := some k3c0 }
def k3c1 : Code := { maxStack := 1, maxLocals := 1, code := prog_91_method_2_code, exceptionTable := #[], attributes := #[] }
def k3m1 : Method := { name := "size", desc := "()I", sig := { parameters := [], returnType := some .int }, accessFlags := 0, code := some k3c1 }
def k3c2 : Code := { maxStack := 2, maxLocals := 2, code := prog_91_method_3_code, exceptionTable := #[], attributes := #[] }
def k3m2 : Method := { name := "concept", desc := "(I)I", sig := { parameters := [.int], returnType := some .int }, accessFlags := 0, code := some k3c2 }
def k3c3 : Code := { maxStack := 2, maxLocals := 2, code := prog_91_method_4_code, exceptionTable := #[], attributes := #[] }
def k3m3 : Method := { name := "reason", desc := "(I)Lcom/example/satisfy/satisfy/reasoner/Reason;", sig := { parameters := [.int], returnType := some (.object "com/example/satisfy/satisfy/reasoner/Reason") }, accessFlags := 0, code := some k3c3 }
def k3c4 : Code := { maxStack := 2, maxLocals := 2, code := prog_91_method_6_code, exceptionTable := #[], attributes := #[] }
def k3m4 : Method := { name := "position", desc := "(I)I", sig := { parameters := [.int], returnType := some .int }, accessFlags := 0, code := some k3c4 }
def k3c5 : Code := { maxStack := 4, maxLocals := 3, code := prog_91_method_7_code, exceptionTable := #[], attributes := #[] }
def k3m5 : Method := { name := "add", desc := "(ILcom/example/satisfy/satisfy/reasoner/Reason;)V", sig := { parameters := [.int, (.object "com/example/satisfy/satisfy/reasoner/Reason")], returnType := none }, accessFlags := 0, code := some k3c5 }
def k3c6 : Code := { maxStack := 3, maxLocals := 2, code := prog_91_method_8_code, exceptionTable := #[], attributes := #[] }
def k3m6 : Method := { name := "truncate", desc := "(I)V", sig := { parameters := [.int], returnType := none }, accessFlags := 0, code := some k3c6 }
/-- com/example/satisfy/satisfy/reasoner/Trail -/
def k3 : Class := { plain "com/example/satisfy/satisfy/reasoner/Trail" (some 0) with
  accessFlags := 32
  interfaces := #[]
  cf := some (fileOf pool3 8 #[] #[{ accessFlags := 0, nameIndex := 5, descriptorIndex := 6, attributes := #[] }, { accessFlags := 0, nameIndex := 28, descriptorIndex := 54, attributes := #[] }, { accessFlags := 0, nameIndex := 55, descriptorIndex := 33, attributes := #[] }, { accessFlags := 0, nameIndex := 56, descriptorIndex := 57, attributes := #[] }, { accessFlags := 0, nameIndex := 61, descriptorIndex := 33, attributes := #[] }, { accessFlags := 0, nameIndex := 62, descriptorIndex := 63, attributes := #[] }, { accessFlags := 0, nameIndex := 64, descriptorIndex := 51, attributes := #[] }] 32 2 #[] #[{ accessFlags := 2, nameIndex := 11, descriptorIndex := 12, attributes := #[] }, { accessFlags := 2, nameIndex := 17, descriptorIndex := 18, attributes := #[] }, { accessFlags := 2, nameIndex := 28, descriptorIndex := 29, attributes := #[] }, { accessFlags := 18, nameIndex := 24, descriptorIndex := 25, attributes := #[] }])
  fields := #[{ name := "concepts", type := (.array .int), accessFlags := 2, slot := 0, constantValue := 0 }, { name := "reasons", type := (.array (.object "com/example/satisfy/satisfy/reasoner/Reason")), accessFlags := 2, slot := 1, constantValue := 0 }, { name := "size", type := .int, accessFlags := 2, slot := 2, constantValue := 0 }, { name := "positions", type := (.object "com/example/satisfy/satisfy/reasoner/IntMap"), accessFlags := 18, slot := 3, constantValue := 0 }]
  methods := #[k3m0, k3m1, k3m2, k3m3, k3m4, k3m5, k3m6]
  instanceTypes := #[(.array .int), (.array (.object "com/example/satisfy/satisfy/reasoner/Reason")), .int, (.object "com/example/satisfy/satisfy/reasoner/IntMap")]
  staticTypes := #[]
  resolved := Array.replicate 67 none
  statics := none }

def pool4 : Array CpInfo := pool [(1, .methodref 2 3), (0, .class_ 4), (0, .nameAndType 5 6), (0, u "java/lang/Object"), (0, u "<init>"), (0, u "()V"), (0, .methodref 8 9), (0, .class_ 10), (0, .nameAndType 11 12), (0, u "com/example/satisfy/satisfy/reasoner/IntMap"), (0, u "allocate"), (0, u "(I)V"), (0, .methodref 8 14), (0, .nameAndType 15 16), (0, u "slotOf"), (0, u "(I)I"), (0, .fieldref 8 18), (0, .nameAndType 19 20), (0, u "keys"), (0, u "[I"), (0, .fieldref 8 22), (0, .nameAndType 23 20), (0, u "values"), (0, .fieldref 8 25), (0, .nameAndType 26 27), (0, u "size"), (0, u "I"), (0, .methodref 8 29), (0, .nameAndType 30 6), (0, u "grow"), (0, .methodref 8 32), (0, .nameAndType 33 16), (0, u "hash"), (0, .integer 2654435769), (0, .fieldref 8 36), (0, .nameAndType 37 27), (0, u "bits"), (0, .methodref 39 40), (0, .class_ 41), (0, .nameAndType 42 43), (0, u "java/util/Arrays"), (0, u "fill"), (0, u "([II)V"), (0, u "FREE"), (4, u "get"), (1, u "put"), (0, u "(II)V"), (0, u "remove")] 3

def k4c0 : Code := { maxStack := 2, maxLocals := 1, code := prog_57_method_1_code, exceptionTable := #[], attributes := #[] }
def k4m0 : Method := { name := "<init>", desc := "()V", sig := { parameters := [], returnType := none }, accessFlags := 0, code := some k4c0 }
def k4c1 : Code := { maxStack := 2, maxLocals := 3, code := prog_57_method_2_code, exceptionTable := #[], attributes := #[] }
def k4m1 : Method := { name := "get", desc := "(I)I", sig := { parameters := [.int], returnType := some .int }, accessFlags := 0, code := some k4c1 }
def k4c2 : Code := { maxStack := 3, maxLocals := 4, code := prog_57_method_3_code, exceptionTable := #[], attributes := #[] }
def k4m2 : Method := { name := "put", desc := "(II)V", sig := { parameters := [.int, .int], returnType := none }, accessFlags := 0, code := some k4c2 }
def k4c3 : Code := { maxStack := 4, maxLocals := 6, code := prog_57_method_4_code, exceptionTable := #[], attributes := #[] }
def k4m3 : Method := { name := "remove", desc := "(I)V", sig := { parameters := [.int], returnType := none }, accessFlags := 0, code := some k4c3 }
def k4c4 : Code := { maxStack := 2, maxLocals := 4, code := prog_57_method_5_code, exceptionTable := #[], attributes := #[] }
def k4m4 : Method := { name := "slotOf", desc := "(I)I", sig := { parameters := [.int], returnType := some .int }, accessFlags := 2, code := some k4c4 }
def k4c5 : Code := { maxStack := 3, maxLocals := 2, code := prog_57_method_6_code, exceptionTable := #[], attributes := #[] }
def k4m5 : Method := { name := "hash", desc := "(I)I", sig := { parameters := [.int], returnType := some .int }, accessFlags := 2, code := some k4c5 }
def k4c6 : Code := { maxStack := 4, maxLocals := 5, code := prog_57_method_7_code, exceptionTable := #[], attributes := #[] }
def k4m6 : Method := { name := "grow", desc := "()V", sig := { parameters := [], returnType := none }, accessFlags := 2, code := some k4c6 }
def k4c7 : Code := { maxStack := 3, maxLocals := 2, code := prog_57_method_8_code, exceptionTable := #[], attributes := #[] }
def k4m7 : Method := { name := "allocate", desc := "(I)V", sig := { parameters := [.int], returnType := none }, accessFlags := 2, code := some k4c7 }
/-- com/example/satisfy/satisfy/reasoner/IntMap -/
def k4 : Class := { plain "com/example/satisfy/satisfy/reasoner/IntMap" (some 0) with
  accessFlags := 32
  interfaces := #[]
  cf := some (fileOf pool4 8 #[] #[{ accessFlags := 0, nameIndex := 5, descriptorIndex := 6, attributes := #[] }, { accessFlags := 0, nameIndex := 49, descriptorIndex := 16, attributes := #[] }, { accessFlags := 0, nameIndex := 51, descriptorIndex := 52, attributes := #[] }, { accessFlags := 0, nameIndex := 53, descriptorIndex := 12, attributes := #[] }, { accessFlags := 2, nameIndex := 15, descriptorIndex := 16, attributes := #[] }, { accessFlags := 2, nameIndex := 33, descriptorIndex := 16, attributes := #[] }, { accessFlags := 2, nameIndex := 30, descriptorIndex := 6, attributes := #[] }, { accessFlags := 2, nameIndex := 11, descriptorIndex := 12, attributes := #[] }] 32 2 #[] #[{ accessFlags := 26, nameIndex := 44, descriptorIndex := 27, attributes := #[] }, { accessFlags := 2, nameIndex := 19, descriptorIndex := 20, attributes := #[] }, { accessFlags := 2, nameIndex := 23, descriptorIndex := 20, attributes := #[] }, { accessFlags := 2, nameIndex := 26, descriptorIndex := 27, attributes := #[] }, { accessFlags := 2, nameIndex := 37, descriptorIndex := 27, attributes := #[] }])
  fields := #[{ name := "FREE", type := .int, accessFlags := 26, slot := 0, constantValue := 0 }, { name := "keys", type := (.array .int), accessFlags := 2, slot := 0, constantValue := 0 }, { name := "values", type := (.array .int), accessFlags := 2, slot := 1, constantValue := 0 }, { name := "size", type := .int, accessFlags := 2, slot := 2, constantValue := 0 }, { name := "bits", type := .int, accessFlags := 2, slot := 3, constantValue := 0 }]
  methods := #[k4m0, k4m1, k4m2, k4m3, k4m4, k4m5, k4m6, k4m7]
  instanceTypes := #[(.array .int), (.array .int), .int, .int]
  staticTypes := #[.int]
  resolved := Array.replicate 57 none
  statics := none }

def pool5 : Array CpInfo := pool [(2, .class_ 4), (1, u "java/lang/Object"), (0, u "<init>"), (0, u "()V"), (7, .class_ 16), (1, u "java/util/Arrays"), (57, .class_ 76), (1, u "java/util/Arrays$NaturalOrder"), (36, .class_ 115), (1, u "java/util/Arrays$LegacyMergeSort"), (1, u "Z"), (257, .class_ 376), (0, u "java/util/Arrays$ArrayList"), (68, u "$assertionsDisabled"), (269, u "MIN_ARRAY_SORT_GRAN"), (0, u "I"), (2, u "INSERTIONSORT_THRESHOLD"), (120, u "fill"), (4, u "([II)V"), (129, .class_ 976), (0, u "java/util/Arrays$ArrayItr")] 52

def k5m0 : Method := { name := "<init>", desc := "()V", sig := { parameters := [], returnType := none }, accessFlags := 2, code := none }
def k5c1 : Code := { maxStack := 3, maxLocals := 4, code := jdk_65_method_103_code, exceptionTable := #[], attributes := #[] }
def k5m1 : Method := { name := "fill", desc := "([II)V", sig := { parameters := [(.array .int), .int], returnType := none }, accessFlags := 9, code := some k5c1 }
/-- java/util/Arrays -/
def k5 : Class := { plain "java/util/Arrays" (some 0) with
  accessFlags := 49
  interfaces := #[]
  cf := some (fileOf pool5 14 #[.nestMembers #[975, 375, 113, 74]] #[{ accessFlags := 2, nameIndex := 5, descriptorIndex := 6, attributes := #[] }, { accessFlags := 9, nameIndex := 840, descriptorIndex := 845, attributes := #[] }] 49 2 #[] #[{ accessFlags := 26, nameIndex := 715, descriptorIndex := 716, attributes := #[] }, { accessFlags := 26, nameIndex := 719, descriptorIndex := 716, attributes := #[] }, { accessFlags := 4120, nameIndex := 445, descriptorIndex := 117, attributes := #[] }])
  fields := #[{ name := "MIN_ARRAY_SORT_GRAN", type := .int, accessFlags := 26, slot := 0, constantValue := 0 }, { name := "INSERTIONSORT_THRESHOLD", type := .int, accessFlags := 26, slot := 1, constantValue := 0 }, { name := "$assertionsDisabled", type := .boolean, accessFlags := 4120, slot := 2, constantValue := 0 }]
  methods := #[k5m0, k5m1]
  instanceTypes := #[]
  staticTypes := #[.int, .int, .boolean]
  resolved := Array.replicate 1029 none
  statics := none }

def pool6 : Array CpInfo := pool [(1, .class_ 2), (0, u "java/lang/Math"), (1, .class_ 6), (1, u "java/lang/Object"), (0, u "<init>"), (0, u "()V"), (89, .class_ 100), (1, u "java/lang/Math$RandomNumberGeneratorHolder"), (71, u "negativeZeroFloatBits"), (0, u "J"), (2, u "negativeZeroDoubleBits"), (24, u "min"), (43, u "$assertionsDisabled"), (0, u "Z"), (88, u "(II)I"), (2, u "twoToTheDoubleScaleDown"), (0, u "D"), (4, u "twoToTheDoubleScaleUp"), (9, u "E"), (3, u "PI"), (2, u "TAU"), (2, u "DEGREES_TO_RADIANS"), (0, u "RADIANS_TO_DEGREES")] 94

def k6m0 : Method := { name := "<init>", desc := "()V", sig := { parameters := [], returnType := none }, accessFlags := 2, code := none }
def k6c1 : Code := { maxStack := 2, maxLocals := 2, code := jdk_29_method_69_code, exceptionTable := #[], attributes := #[] }
def k6m1 : Method := { name := "min", desc := "(II)I", sig := { parameters := [.int, .int], returnType := some .int }, accessFlags := 9, code := some k6c1 }
/-- java/lang/Math -/
def k6 : Class := { plain "java/lang/Math" (some 0) with
  accessFlags := 49
  interfaces := #[]
  cf := some (fileOf pool6 1 #[.nestMembers #[98]] #[{ accessFlags := 2, nameIndex := 7, descriptorIndex := 8, attributes := #[] }, { accessFlags := 9, nameIndex := 201, descriptorIndex := 335, attributes := #[] }] 49 4 #[] #[{ accessFlags := 25, nameIndex := 354, descriptorIndex := 339, attributes := #[] }, { accessFlags := 25, nameIndex := 358, descriptorIndex := 339, attributes := #[] }, { accessFlags := 25, nameIndex := 361, descriptorIndex := 339, attributes := #[] }, { accessFlags := 26, nameIndex := 364, descriptorIndex := 339, attributes := #[] }, { accessFlags := 26, nameIndex := 365, descriptorIndex := 339, attributes := #[] }, { accessFlags := 26, nameIndex := 172, descriptorIndex := 173, attributes := #[] }, { accessFlags := 26, nameIndex := 176, descriptorIndex := 173, attributes := #[] }, { accessFlags := 8, nameIndex := 344, descriptorIndex := 339, attributes := #[] }, { accessFlags := 8, nameIndex := 338, descriptorIndex := 339, attributes := #[] }, { accessFlags := 4120, nameIndex := 245, descriptorIndex := 246, attributes := #[] }])
  fields := #[{ name := "E", type := .double, accessFlags := 25, slot := 0, constantValue := 0 }, { name := "PI", type := .double, accessFlags := 25, slot := 1, constantValue := 0 }, { name := "TAU", type := .double, accessFlags := 25, slot := 2, constantValue := 0 }, { name := "DEGREES_TO_RADIANS", type := .double, accessFlags := 26, slot := 3, constantValue := 0 }, { name := "RADIANS_TO_DEGREES", type := .double, accessFlags := 26, slot := 4, constantValue := 0 }, { name := "negativeZeroFloatBits", type := .long, accessFlags := 26, slot := 5, constantValue := 0 }, { name := "negativeZeroDoubleBits", type := .long, accessFlags := 26, slot := 6, constantValue := 0 }, { name := "twoToTheDoubleScaleUp", type := .double, accessFlags := 8, slot := 7, constantValue := 0 }, { name := "twoToTheDoubleScaleDown", type := .double, accessFlags := 8, slot := 8, constantValue := 0 }, { name := "$assertionsDisabled", type := .boolean, accessFlags := 4120, slot := 9, constantValue := 0 }]
  methods := #[k6m0, k6m1]
  instanceTypes := #[]
  staticTypes := #[.double, .double, .double, .double, .double, .long, .long, .double, .double, .boolean]
  resolved := Array.replicate 460 none
  statics := none }

def pool7 : Array CpInfo := pool [(1, u "java/lang/Cloneable"), (0, .class_ 1), (0, u "java/lang/Object"), (0, .class_ 3)] 3

/-- java/lang/Cloneable -/
def k7 : Class := { plain "java/lang/Cloneable" (some 0) with
  accessFlags := 1537
  interfaces := #[]
  cf := some (fileOf pool7 2 #[] #[] 1537 4 #[] #[])
  fields := #[]
  methods := #[]
  instanceTypes := #[]
  staticTypes := #[]
  resolved := Array.replicate 8 none
  statics := none }

def pool8 : Array CpInfo := pool [(1, u "java/io/Serializable"), (0, .class_ 1), (0, u "java/lang/Object"), (0, .class_ 3)] 3

/-- java/io/Serializable -/
def k8 : Class := { plain "java/io/Serializable" (some 0) with
  accessFlags := 1537
  interfaces := #[]
  cf := some (fileOf pool8 2 #[] #[] 1537 4 #[] #[])
  fields := #[]
  methods := #[]
  instanceTypes := #[]
  staticTypes := #[]
  resolved := Array.replicate 8 none
  statics := none }

/-- the primitive byte -/
def k9 : Class := { plain "byte" none with kind := .primitive 'B', accessFlags := 0x411 }
/-- [B -/
def k10 : Class := { plain "[B" (some 0) with kind := .array 9 .byte, interfaces := #[7, 8], accessFlags := 1041 }

/-- the primitive int -/
def k11 : Class := { plain "int" none with kind := .primitive 'I', accessFlags := 0x411 }
/-- [I -/
def k12 : Class := { plain "[I" (some 0) with kind := .array 11 .int, interfaces := #[7, 8], accessFlags := 1041 }

/-- [Lcom/example/satisfy/satisfy/reasoner/Reason; -/
def k13 : Class := { plain "[Lcom/example/satisfy/satisfy/reasoner/Reason;" (some 0) with kind := .array 2 (.object "com/example/satisfy/satisfy/reasoner/Reason"), interfaces := #[7, 8], accessFlags := 1041 }

def heap : Heap := #[{ cls := 2, slots := #[.ref 1], vm := .statics 2 },
  { cls := 2, slots := #[.null], vm := .none }]
def classes : Array Class := #[k0, k1, k2, k3, k4, k5, k6, k7, k8, k9, k10, k11, k12, k13]
def interned : List (Array UInt16 × Addr) := []
def slotsUsed : Nat := 2
def theMethod : MethodId := ⟨1, 1⟩
def args0 : Array Value := #[.int 5, .int 5, .int 5, .int 5, .int 5, .int 5]
def aboutOver (below : List Frame) : State where
  vm := { classes := classes, interned := interned.toArray }
  heap := heap
  slotsUsed := slotsUsed
  threads := #[{ frames := .invoking theMethod args0 :: below }]
def below0 : List Frame := [.native { method := ⟨0, 0⟩, args := #[] }]
def about1 : State := aboutOver below0
def p0 : Program := .bare "" "" ""
def e0 : Env := launch0.env 0 0 0
theorem w_frames : about1.frames = Frame.invoking theMethod args0 :: below0 := rfl
set_option maxRecDepth 65536 in
theorem w_args : argsFit about1.vm theMethod args0 = true := by decide +kernel
set_option maxRecDepth 65536 in
theorem w_heap : heapFits about1 = true := by decide +kernel
set_option maxRecDepth 65536 in
theorem w_runnable : about1.curStatus? = some .runnable := by decide +kernel
set_option maxRecDepth 65536 in
theorem w_alone : about1.alone = true := by decide +kernel
set_option maxRecDepth 65536 in
theorem w_named : about1.methodNamed? x = some theMethod := by decide +kernel
set_option maxRecDepth 65536 in
theorem w_hears : about1.hears theMethod below0 = true := by decide +kernel
set_option maxRecDepth 65536 in
theorem w_ripe : about1.ripe theMethod args0 below0 = true := by decide +kernel
theorem w_running : about1.status = .running := rfl
set_option maxRecDepth 65536 in
theorem w_room : about1.hasRoom e0.platform room_1 = true :=
  launch0.hasRoom_least _ room_1 (by decide +kernel) (by decide +kernel) (by decide +kernel) (by decide +kernel) (by decide +kernel) (by decide +kernel)
theorem allAtoms_all (ts : List Jvm.Cond) (a : Array Jvm.Value) (st : Jvm.State) : (allAtoms ts).before a st = ts.all (fun c => c.before a st) := by
  induction ts with
  | nil => rfl
  | cons c t ih =>
    show (Jvm.Cond.and c (allAtoms t)).before a st = _
    rw [Jvm.Cond.before_and, ih, List.all_cons]
def words1 : List Jvm.Cond := Jvm.Cond.code x code maxLocals ret :: tables_1
/-- a 'code' word, met by the world's own term for the bytes: nothing is compared byte by byte -/
theorem code_word {y : MethodName} {bytes : ByteArray} {mx : Nat} {rt : Option FieldType} {a : Array Value} {s : State} {m : MethodId} {meth : Method} {c : Code} (h1 : s.methodNamed? y = some m) (h2 : s.vm.method? m = some meth) (h3 : meth.code = some c) (h4 : c.code = bytes)
    (h5 : (c.maxLocals == mx && c.exceptionTable.isEmpty && decide (c.maxStack ≤ mostOperands) && decide (meth.sig.returnType = rt) && !meth.locks && decide (parseMethodDescriptor y.desc = some meth.sig)) = true) : (Jvm.Cond.code y bytes mx rt).before a s = true := by
  simp only [Bool.and_eq_true, beq_iff_eq, Bool.not_eq_true', decide_eq_true_eq] at h5
  obtain ⟨⟨⟨⟨⟨g1, g2⟩, g3⟩, g4⟩, g5⟩, g6⟩ := h5
  simp [Cond.before, Cond.holds, Cond.value, h1, h2, h3, h4, g1, g2, g3, g4, g5, g6]
def isCode : Jvm.Cond → Bool
  | .code _ _ _ _ => true
  | _ => false
theorem all_split {L : List Jvm.Cond} {P : Jvm.Cond → Bool} (h1 : L.all (fun c => isCode c || P c) = true) (h2 : ∀ c ∈ L.filter isCode, P c = true) : L.all P = true := by
  refine List.all_eq_true.mpr fun c hc => ?_
  have h := List.all_eq_true.mp h1 c hc
  rcases Bool.eq_false_or_eq_true (isCode c) with hi | hi
  · exact h2 c (List.mem_filter.mpr ⟨hc, hi⟩)
  · simpa [hi] using h
set_option maxRecDepth 65536 in
theorem w_c0 : (Jvm.Cond.code x code maxLocals ret).before args0 about1 = true := code_word (m := ⟨1, 1⟩) (meth := k1m1) (c := k1c1) (by decide +kernel) rfl rfl rfl (by decide +kernel)
set_option maxRecDepth 65536 in
theorem w_c1 : (Jvm.Cond.code ({ cls := "com/example/satisfy/satisfy/reasoner/Trail", name := "<init>", desc := "()V" } : Jvm.MethodName) prog_91_method_1_code (1 : Nat) (Option.none : Option Jvm.ClassFile.FieldType)).before args0 about1 = true := code_word (m := ⟨3, 0⟩) (meth := k3m0) (c := k3c0) (by decide +kernel) rfl rfl rfl (by decide +kernel)
set_option maxRecDepth 65536 in
theorem w_c2 : (Jvm.Cond.code ({ cls := "java/lang/Object", name := "<init>", desc := "()V" } : Jvm.MethodName) object_method_1_code (1 : Nat) (Option.none : Option Jvm.ClassFile.FieldType)).before args0 about1 = true := code_word (m := ⟨0, 0⟩) (meth := k0m0) (c := k0c0) (by decide +kernel) rfl rfl rfl (by decide +kernel)
set_option maxRecDepth 65536 in
theorem w_c3 : (Jvm.Cond.code ({ cls := "com/example/satisfy/satisfy/reasoner/IntMap", name := "<init>", desc := "()V" } : Jvm.MethodName) prog_57_method_1_code (1 : Nat) (Option.none : Option Jvm.ClassFile.FieldType)).before args0 about1 = true := code_word (m := ⟨4, 0⟩) (meth := k4m0) (c := k4c0) (by decide +kernel) rfl rfl rfl (by decide +kernel)
set_option maxRecDepth 65536 in
theorem w_c4 : (Jvm.Cond.code ({ cls := "com/example/satisfy/satisfy/reasoner/IntMap", name := "allocate", desc := "(I)V" } : Jvm.MethodName) prog_57_method_8_code (2 : Nat) (Option.none : Option Jvm.ClassFile.FieldType)).before args0 about1 = true := code_word (m := ⟨4, 7⟩) (meth := k4m7) (c := k4c7) (by decide +kernel) rfl rfl rfl (by decide +kernel)
set_option maxRecDepth 65536 in
theorem w_c5 : (Jvm.Cond.code ({ cls := "java/util/Arrays", name := "fill", desc := "([II)V" } : Jvm.MethodName) jdk_65_method_103_code (4 : Nat) (Option.none : Option Jvm.ClassFile.FieldType)).before args0 about1 = true := code_word (m := ⟨5, 1⟩) (meth := k5m1) (c := k5c1) (by decide +kernel) rfl rfl rfl (by decide +kernel)
set_option maxRecDepth 65536 in
theorem w_c6 : (Jvm.Cond.code ({ cls := "com/example/satisfy/satisfy/reasoner/Trail", name := "truncate", desc := "(I)V" } : Jvm.MethodName) prog_91_method_8_code (2 : Nat) (Option.none : Option Jvm.ClassFile.FieldType)).before args0 about1 = true := code_word (m := ⟨3, 6⟩) (meth := k3m6) (c := k3c6) (by decide +kernel) rfl rfl rfl (by decide +kernel)
set_option maxRecDepth 65536 in
theorem w_c7 : (Jvm.Cond.code ({ cls := "java/lang/Math", name := "min", desc := "(II)I" } : Jvm.MethodName) jdk_29_method_69_code (2 : Nat) (Option.some Jvm.ClassFile.FieldType.int)).before args0 about1 = true := code_word (m := ⟨6, 1⟩) (meth := k6m1) (c := k6c1) (by decide +kernel) rfl rfl rfl (by decide +kernel)
set_option maxRecDepth 65536 in
theorem w_c8 : (Jvm.Cond.code ({ cls := "com/example/satisfy/satisfy/reasoner/Trail", name := "size", desc := "()I" } : Jvm.MethodName) prog_91_method_2_code (1 : Nat) (Option.some Jvm.ClassFile.FieldType.int)).before args0 about1 = true := code_word (m := ⟨3, 1⟩) (meth := k3m1) (c := k3c1) (by decide +kernel) rfl rfl rfl (by decide +kernel)
set_option maxRecDepth 65536 in
theorem w_c9 : (Jvm.Cond.code ({ cls := "com/example/satisfy/satisfy/reasoner/TrailTruncatePinLaw", name := "check", desc := "(Lcom/example/satisfy/satisfy/reasoner/Trail;IIIILcom/example/satisfy/satisfy/reasoner/Reason;)Z" } : Jvm.MethodName) method_3_code (7 : Nat) (Option.some Jvm.ClassFile.FieldType.boolean)).before args0 about1 = true := code_word (m := ⟨1, 2⟩) (meth := k1m2) (c := k1c2) (by decide +kernel) rfl rfl rfl (by decide +kernel)
set_option maxRecDepth 65536 in
theorem w_c10 : (Jvm.Cond.code ({ cls := "com/example/satisfy/satisfy/reasoner/Trail", name := "position", desc := "(I)I" } : Jvm.MethodName) prog_91_method_6_code (2 : Nat) (Option.some Jvm.ClassFile.FieldType.int)).before args0 about1 = true := code_word (m := ⟨3, 4⟩) (meth := k3m4) (c := k3c4) (by decide +kernel) rfl rfl rfl (by decide +kernel)
set_option maxRecDepth 65536 in
theorem w_c11 : (Jvm.Cond.code ({ cls := "com/example/satisfy/satisfy/reasoner/IntMap", name := "get", desc := "(I)I" } : Jvm.MethodName) prog_57_method_2_code (3 : Nat) (Option.some Jvm.ClassFile.FieldType.int)).before args0 about1 = true := code_word (m := ⟨4, 1⟩) (meth := k4m1) (c := k4c1) (by decide +kernel) rfl rfl rfl (by decide +kernel)
set_option maxRecDepth 65536 in
theorem w_c12 : (Jvm.Cond.code ({ cls := "com/example/satisfy/satisfy/reasoner/IntMap", name := "slotOf", desc := "(I)I" } : Jvm.MethodName) prog_57_method_5_code (4 : Nat) (Option.some Jvm.ClassFile.FieldType.int)).before args0 about1 = true := code_word (m := ⟨4, 4⟩) (meth := k4m4) (c := k4c4) (by decide +kernel) rfl rfl rfl (by decide +kernel)
set_option maxRecDepth 65536 in
theorem w_c13 : (Jvm.Cond.code ({ cls := "com/example/satisfy/satisfy/reasoner/IntMap", name := "hash", desc := "(I)I" } : Jvm.MethodName) prog_57_method_6_code (2 : Nat) (Option.some Jvm.ClassFile.FieldType.int)).before args0 about1 = true := code_word (m := ⟨4, 5⟩) (meth := k4m5) (c := k4c5) (by decide +kernel) rfl rfl rfl (by decide +kernel)
set_option maxRecDepth 65536 in
theorem w_c14 : (Jvm.Cond.code ({ cls := "com/example/satisfy/satisfy/reasoner/Trail", name := "add", desc := "(ILcom/example/satisfy/satisfy/reasoner/Reason;)V" } : Jvm.MethodName) prog_91_method_7_code (3 : Nat) (Option.none : Option Jvm.ClassFile.FieldType)).before args0 about1 = true := code_word (m := ⟨3, 5⟩) (meth := k3m5) (c := k3c5) (by decide +kernel) rfl rfl rfl (by decide +kernel)
set_option maxRecDepth 65536 in
theorem w_c15 : (Jvm.Cond.code ({ cls := "com/example/satisfy/satisfy/reasoner/IntMap", name := "put", desc := "(II)V" } : Jvm.MethodName) prog_57_method_3_code (4 : Nat) (Option.none : Option Jvm.ClassFile.FieldType)).before args0 about1 = true := code_word (m := ⟨4, 2⟩) (meth := k4m2) (c := k4c2) (by decide +kernel) rfl rfl rfl (by decide +kernel)
set_option maxRecDepth 65536 in
theorem w_c16 : (Jvm.Cond.code ({ cls := "com/example/satisfy/satisfy/reasoner/IntMap", name := "grow", desc := "()V" } : Jvm.MethodName) prog_57_method_7_code (5 : Nat) (Option.none : Option Jvm.ClassFile.FieldType)).before args0 about1 = true := code_word (m := ⟨4, 6⟩) (meth := k4m6) (c := k4c6) (by decide +kernel) rfl rfl rfl (by decide +kernel)
set_option maxRecDepth 65536 in
theorem w_c17 : (Jvm.Cond.code ({ cls := "com/example/satisfy/satisfy/reasoner/Trail", name := "concept", desc := "(I)I" } : Jvm.MethodName) prog_91_method_3_code (2 : Nat) (Option.some Jvm.ClassFile.FieldType.int)).before args0 about1 = true := code_word (m := ⟨3, 2⟩) (meth := k3m2) (c := k3c2) (by decide +kernel) rfl rfl rfl (by decide +kernel)
set_option maxRecDepth 65536 in
theorem w_c18 : (Jvm.Cond.code ({ cls := "com/example/satisfy/satisfy/reasoner/Trail", name := "reason", desc := "(I)Lcom/example/satisfy/satisfy/reasoner/Reason;" } : Jvm.MethodName) prog_91_method_4_code (2 : Nat) (Option.some (Jvm.ClassFile.FieldType.object "com/example/satisfy/satisfy/reasoner/Reason"))).before args0 about1 = true := code_word (m := ⟨3, 3⟩) (meth := k3m3) (c := k3c3) (by decide +kernel) rfl rfl rfl (by decide +kernel)
set_option maxRecDepth 65536 in
theorem w_c19 : (Jvm.Cond.code ({ cls := "com/example/satisfy/satisfy/reasoner/IntMap", name := "remove", desc := "(I)V" } : Jvm.MethodName) prog_57_method_4_code (6 : Nat) (Option.none : Option Jvm.ClassFile.FieldType)).before args0 about1 = true := code_word (m := ⟨4, 3⟩) (meth := k4m3) (c := k4c3) (by decide +kernel) rfl rfl rfl (by decide +kernel)
def codes1 : List Jvm.Cond := [Jvm.Cond.code x code maxLocals ret, Jvm.Cond.code ({ cls := "com/example/satisfy/satisfy/reasoner/Trail", name := "<init>", desc := "()V" } : Jvm.MethodName) prog_91_method_1_code (1 : Nat) (Option.none : Option Jvm.ClassFile.FieldType), Jvm.Cond.code ({ cls := "java/lang/Object", name := "<init>", desc := "()V" } : Jvm.MethodName) object_method_1_code (1 : Nat) (Option.none : Option Jvm.ClassFile.FieldType), Jvm.Cond.code ({ cls := "com/example/satisfy/satisfy/reasoner/IntMap", name := "<init>", desc := "()V" } : Jvm.MethodName) prog_57_method_1_code (1 : Nat) (Option.none : Option Jvm.ClassFile.FieldType), Jvm.Cond.code ({ cls := "com/example/satisfy/satisfy/reasoner/IntMap", name := "allocate", desc := "(I)V" } : Jvm.MethodName) prog_57_method_8_code (2 : Nat) (Option.none : Option Jvm.ClassFile.FieldType), Jvm.Cond.code ({ cls := "java/util/Arrays", name := "fill", desc := "([II)V" } : Jvm.MethodName) jdk_65_method_103_code (4 : Nat) (Option.none : Option Jvm.ClassFile.FieldType), Jvm.Cond.code ({ cls := "com/example/satisfy/satisfy/reasoner/Trail", name := "truncate", desc := "(I)V" } : Jvm.MethodName) prog_91_method_8_code (2 : Nat) (Option.none : Option Jvm.ClassFile.FieldType), Jvm.Cond.code ({ cls := "java/lang/Math", name := "min", desc := "(II)I" } : Jvm.MethodName) jdk_29_method_69_code (2 : Nat) (Option.some Jvm.ClassFile.FieldType.int), Jvm.Cond.code ({ cls := "com/example/satisfy/satisfy/reasoner/Trail", name := "size", desc := "()I" } : Jvm.MethodName) prog_91_method_2_code (1 : Nat) (Option.some Jvm.ClassFile.FieldType.int), Jvm.Cond.code ({ cls := "com/example/satisfy/satisfy/reasoner/TrailTruncatePinLaw", name := "check", desc := "(Lcom/example/satisfy/satisfy/reasoner/Trail;IIIILcom/example/satisfy/satisfy/reasoner/Reason;)Z" } : Jvm.MethodName) method_3_code (7 : Nat) (Option.some Jvm.ClassFile.FieldType.boolean), Jvm.Cond.code ({ cls := "com/example/satisfy/satisfy/reasoner/Trail", name := "position", desc := "(I)I" } : Jvm.MethodName) prog_91_method_6_code (2 : Nat) (Option.some Jvm.ClassFile.FieldType.int), Jvm.Cond.code ({ cls := "com/example/satisfy/satisfy/reasoner/IntMap", name := "get", desc := "(I)I" } : Jvm.MethodName) prog_57_method_2_code (3 : Nat) (Option.some Jvm.ClassFile.FieldType.int), Jvm.Cond.code ({ cls := "com/example/satisfy/satisfy/reasoner/IntMap", name := "slotOf", desc := "(I)I" } : Jvm.MethodName) prog_57_method_5_code (4 : Nat) (Option.some Jvm.ClassFile.FieldType.int), Jvm.Cond.code ({ cls := "com/example/satisfy/satisfy/reasoner/IntMap", name := "hash", desc := "(I)I" } : Jvm.MethodName) prog_57_method_6_code (2 : Nat) (Option.some Jvm.ClassFile.FieldType.int), Jvm.Cond.code ({ cls := "com/example/satisfy/satisfy/reasoner/Trail", name := "add", desc := "(ILcom/example/satisfy/satisfy/reasoner/Reason;)V" } : Jvm.MethodName) prog_91_method_7_code (3 : Nat) (Option.none : Option Jvm.ClassFile.FieldType), Jvm.Cond.code ({ cls := "com/example/satisfy/satisfy/reasoner/IntMap", name := "put", desc := "(II)V" } : Jvm.MethodName) prog_57_method_3_code (4 : Nat) (Option.none : Option Jvm.ClassFile.FieldType), Jvm.Cond.code ({ cls := "com/example/satisfy/satisfy/reasoner/IntMap", name := "grow", desc := "()V" } : Jvm.MethodName) prog_57_method_7_code (5 : Nat) (Option.none : Option Jvm.ClassFile.FieldType), Jvm.Cond.code ({ cls := "com/example/satisfy/satisfy/reasoner/Trail", name := "concept", desc := "(I)I" } : Jvm.MethodName) prog_91_method_3_code (2 : Nat) (Option.some Jvm.ClassFile.FieldType.int), Jvm.Cond.code ({ cls := "com/example/satisfy/satisfy/reasoner/Trail", name := "reason", desc := "(I)Lcom/example/satisfy/satisfy/reasoner/Reason;" } : Jvm.MethodName) prog_91_method_4_code (2 : Nat) (Option.some (Jvm.ClassFile.FieldType.object "com/example/satisfy/satisfy/reasoner/Reason")), Jvm.Cond.code ({ cls := "com/example/satisfy/satisfy/reasoner/IntMap", name := "remove", desc := "(I)V" } : Jvm.MethodName) prog_57_method_4_code (6 : Nat) (Option.none : Option Jvm.ClassFile.FieldType)]
set_option maxRecDepth 65536 in
theorem codes_eq : words1.filter isCode = codes1 := rfl
theorem w_codes : ∀ c ∈ words1.filter isCode, c.before args0 about1 = true := by
  rw [codes_eq]
  intro c hc
  simp only [codes1, List.mem_cons, List.not_mem_nil, or_false] at hc
  rcases hc with rfl | rfl | rfl | rfl | rfl | rfl | rfl | rfl | rfl | rfl | rfl | rfl | rfl | rfl | rfl | rfl | rfl | rfl | rfl | rfl
  · exact w_c0
  · exact w_c1
  · exact w_c2
  · exact w_c3
  · exact w_c4
  · exact w_c5
  · exact w_c6
  · exact w_c7
  · exact w_c8
  · exact w_c9
  · exact w_c10
  · exact w_c11
  · exact w_c12
  · exact w_c13
  · exact w_c14
  · exact w_c15
  · exact w_c16
  · exact w_c17
  · exact w_c18
  · exact w_c19
set_option maxRecDepth 65536 in
theorem w_t1 : (words1.take 24).all (fun c => isCode c || c.before args0 about1) = true := by decide +kernel
set_option maxRecDepth 65536 in
theorem w_t2 : ((words1.drop 24).take 24).all (fun c => isCode c || c.before args0 about1) = true := by decide +kernel
set_option maxRecDepth 65536 in
theorem w_t3 : (((words1.drop 24).drop 24).take 24).all (fun c => isCode c || c.before args0 about1) = true := by decide +kernel
set_option maxRecDepth 65536 in
theorem w_t4 : ((((words1.drop 24).drop 24).drop 24).take 24).all (fun c => isCode c || c.before args0 about1) = true := by decide +kernel
set_option maxRecDepth 65536 in
theorem w_t5 : ((((words1.drop 24).drop 24).drop 24).drop 24).all (fun c => isCode c || c.before args0 about1) = true := by decide +kernel
theorem w_tables : (allAtoms (Jvm.Cond.code x code maxLocals ret :: tables_1)).before args0 about1 = true := by
  rw [allAtoms_all]
  show words1.all (fun c => c.before args0 about1) = true
  refine all_split ?_ w_codes
  rw [← List.take_append_drop 24 words1, List.all_append, w_t1, ← List.take_append_drop 24 (words1.drop 24), List.all_append, w_t2, ← List.take_append_drop 24 ((words1.drop 24).drop 24), List.all_append, w_t3, ← List.take_append_drop 24 (((words1.drop 24).drop 24).drop 24), List.all_append, w_t4, w_t5]
  rfl
set_option maxRecDepth 65536 in
theorem w_case : (Jvm.Cond.and given_1 narrow_1).before args0 about1 = true := by decide +kernel
theorem w_applies : (headSpec (Jvm.Cond.code x code maxLocals ret :: tables_1) room_1).applies x e0.platform about1 = true :=
  (Spec.applies_iff w_frames).mpr ⟨w_running, w_runnable, w_alone, w_named, w_hears, w_ripe, w_room, w_tables⟩
theorem atStart : AtStart classFile x code maxLocals ret World_1 tables_1 room_1 Calls_1 rest_1 Pre_1 launch0 p0 e0 about1 theMethod args0 below0 :=
  ⟨lists_1, trivial, launch0.admits_env _ _ _, launch0.least_env, fairChoices_fair.cas, fairChoices_fair.clock, w_frames, w_args, w_heap, w_applies, trivial, trivial, w_case⟩
end start1
theorem witness_1 : WitnessClaimed_1 := ⟨start1.p0, start1.e0, start1.about1, start1.theMethod, start1.args0, start1.below0, start1.atStart⟩
end Jvm.Pilot.@@N@@
