import JvmDerived
import JvmDerived.Pilot.@@N@@Statement
import JvmDerived.Pilot.@@N@@Code
set_option linter.unusedVariables false
set_option linter.unusedSimpArgs false
@@BLOCK:NumsL.lean.txt@@
@@BLOCK:Masks.lean.txt@@
namespace Jvm.Own
open Sem ClassFile Op Lib Jvm.Stand Jvm.Free Jvm.LawKit Jvm.RoadKit
/-! ## A program logic over an abstract heap: references count from the start's heap size. -/
def cv (k : Nat) : Value → Value
  | .ref i => .ref (k + i)
  | v => v
def cs (k : Nat) : Slot → Slot
  | .val v => .val (cv k v)
  | .unset => .unset
  | .second => .second
theorem cv_cat (k : Nat) (v : Value) : (cv k v).category = v.category := by cases v <;> rfl
theorem cv_isRef (k : Nat) (v : Value) : (cv k v).isRef = v.isRef := by cases v <;> rfl
theorem cv_fits (k : Nat) (t : FieldType) (v : Value) : fits t (cv k v) = fits t v := by cases v <;> cases t <;> rfl
theorem cv_narrow (k : Nat) (t : FieldType) (v : Value) : narrow t (cv k v) = cv k (narrow t v) := by cases v <;> cases t <;> rfl
theorem cv_default (k : Nat) (t : FieldType) : cv k (defaultValue t) = defaultValue t := by cases t <;> rfl
theorem cat_map (k : Nat) (S : List Value) : ((S.map (cv k)).map fun v => v.category) = S.map fun v => v.category := by
  rw [List.map_map]; exact List.map_congr_left fun v _ => cv_cat k v
/-- an object: the number of its class, its fields' values; or an array: its kind, its values -/
abbrev ACell := (Nat × List Value) ⊕ (FieldType × List Value)
abbrev AHeap := List ACell
/-- the classes: name, slots, fields (declaring class, name, descriptor, type) -/
abbrev KTab := List (String × Nat × List (String × String × String × FieldType))
/-- a method: name, bytes, max_locals, return type -/
abbrev Mth := MethodName × ByteArray × Nat × Option FieldType
def CellOk (Z : State) (K : KTab) (h : Heap) (a : Addr) : ACell → Prop
  | .inl (c, vs) => K[c]? = none ∨ ∃ (C : String) (n : Nat) (fs : List (String × String × String × FieldType)), K[c]? = some (C, n, fs) ∧ vs.length = fs.length ∧ Exa Z h a C ∧ ∀ (j : Nat) (f : String × String × String × FieldType) (v : Value), fs[j]? = some f → vs[j]? = some v → Fld Z h a f.1 f.2.1 f.2.2.1 (cv Z.heap.size v)
  | .inr (ty, vs) => ∃ cell : Cell, Arr Z h a cell ty ∧ cell.slots = (vs.map (cv Z.heap.size)).toArray ∧ ∀ v ∈ vs, fits ty v = true
def Rel (Z : State) (K : KTab) (h : Heap) (H : AHeap) : Prop :=
  h.size = Z.heap.size + H.length ∧ ∀ (i : Nat) (c : ACell), H[i]? = some c → CellOk Z K h (Z.heap.size + i) c
def FOk (tb : List Cond) (C : String) (f : String × String × String × FieldType) : Prop :=
  (Cond.lays C f.1 f.2.1 f.2.2.1 ∈ tb ∨ Cond.laysFinal C f.1 f.2.1 f.2.2.1 ∈ tb) ∧ parseFieldDescriptor f.2.2.1 = some f.2.2.2
def KOk (tb : List Cond) (K : KTab) : Prop :=
  ∀ q ∈ K, Cond.instantiable q.1 q.2.1 ∈ tb ∧ (∀ f ∈ q.2.2, FOk tb q.1 f) ∧ (q.2.2.map fun f => f.2.1).Nodup
theorem KOk.nil {tb : List Cond} : KOk tb [] := fun _ h => nomatch h
theorem KOk.cons {tb : List Cond} {K : KTab} {q : String × Nat × List (String × String × String × FieldType)} (h1 : Cond.instantiable q.1 q.2.1 ∈ tb) (h2 : ∀ f ∈ q.2.2, FOk tb q.1 f) (h3 : (q.2.2.map fun f => f.2.1).Nodup) (h : KOk tb K) : KOk tb (q :: K) := fun x hx => by
  rcases List.mem_cons.mp hx with rfl | hx
  · exact ⟨h1, h2, h3⟩
  · exact h x hx
theorem fok0 {tb : List Cond} {C : String} : ∀ f ∈ ([] : List (String × String × String × FieldType)), FOk tb C f := fun _ h => nomatch h
theorem fokS {tb : List Cond} {C : String} {g : String × String × String × FieldType} {L : List (String × String × String × FieldType)} (h1 : FOk tb C g) (h2 : ∀ f ∈ L, FOk tb C f) : ∀ f ∈ g :: L, FOk tb C f := fun f hf => by
  rcases List.mem_cons.mp hf with rfl | hf
  · exact h1
  · exact h2 f hf
/-- where a walk stands -/
def Here (tb : List Cond) (K : KTab) (μ : Mth) (rm : Room) (H : AHeap) (Z : State) (a0 : Array Value) (p : Program) (l : Launch) (e : Env) (R : Room) (s : State) (m : MethodId) (args : Array Value) (below : List Frame) (meth : Method) (c : Code)
    (T : State) (locs : List Loc) (cells slots : Nat) : Prop :=
  Stand p l e R s m args below meth c T locs cells slots ∧ p.tables.exec = Jvm.exec ∧ Z.Warmed39 s.vm ∧ (∀ d ∈ tb, d.before a0 Z = true) ∧ c.code = μ.2.1 ∧ c.maxLocals = μ.2.2.1 ∧ meth.sig.returnType = μ.2.2.2 ∧ meth.name = μ.1.name ∧ meth.locks = false ∧
    s.vm.findClass μ.1.cls = some m.cls ∧ Rel Z K T.heap H ∧ Fr Z.heap.size locs ∧ rm.frames ≤ R.frames ∧ cells + rm.cells ≤ R.cells ∧ slots + rm.slots ≤ R.slots ∧ rm.locals ≤ R.locals
/-- how it ends -/
def Ends (K : KTab) (Q : Option Value → AHeap → Prop) (Z : State) (p : Program) (e : Env) (R : Room) (s : State) (below : List Frame) (T0 : State) : Prop :=
  ∃ (v : Option Value) (H' : AHeap) (T : State) (locs : List Loc) (fs : List Frame), Q v H' ∧ Steps p.tables e below T0 (T.setFrames fs) ∧ (T.setFrames fs).status = .running ∧ Ended (T.setFrames fs) below (.returned (v.map (cv Z.heap.size))) ∧
    s.WarmedH (T.setFrames fs).vm ∧ s.sameButNew ({ T.setFrames fs with vm := s.vm } : State) locs R.cells R.slots ∧ Fr Z.heap.size locs ∧ Rel Z K T.heap H'
/-- from the frame (pc, L, S) over the heap H the body returns, and Q -/
def W (tb : List Cond) (K : KTab) (μ : Mth) (rm : Room) (pc : Nat) (L : List Slot) (S : List Value) (H : AHeap) (Q : Option Value → AHeap → Prop) : Prop :=
  L.length = μ.2.2.1 → ∀ (Z : State) (a0 : Array Value) (p : Program) (l : Launch) (e : Env) (R : Room) (s : State) (m : MethodId) (args : Array Value) (below : List Frame) (meth : Method) (c : Code) (T : State) (locs : List Loc) (cells slots : Nat),
    Here tb K μ rm H Z a0 p l e R s m args below meth c T locs cells slots → Ends K Q Z p e R s below (T.setTop (mkF m pc (L.map (cs Z.heap.size)).toArray (S.map (cv Z.heap.size))))
/-- a call of μ comes back, and Q -/
def M (tb : List Cond) (K : KTab) (μ : Mth) (rm : Room) (as : List Value) (H : AHeap) (Q : Option Value → AHeap → Prop) : Prop :=
  ∀ (Z : State) (a0 : Array Value), (∀ d ∈ tb, d.before a0 Z = true) → ∀ (l : Launch) (h : Heap) (ws : List Cond), Rel Z K h H →
    MetFree l μ.1 (head1 (Cond.code μ.1 μ.2.1 μ.2.2.1 μ.2.2.2 :: ws) rm) (fun a U => a = (as.map (cv Z.heap.size)).toArray ∧ Z.Warmed39 U.vm ∧ U.heap = h) (fun _ _ _ _ _ => True)
      (fun _ U o U' => ∃ v L, o = .returned v ∧ (∃ v' H', v = v'.map (cv Z.heap.size) ∧ Rel Z K U'.heap H' ∧ Q v' H' ∧ Fr Z.heap.size L) ∧ FrameEnd U o U' L rm.cells rm.slots)
section Logic
variable {tb : List Cond} {K : KTab} {μ : Mth} {rm : Room} {pc : Nat} {L : List Slot} {S : List Value} {H : AHeap} {Q Q' : Option Value → AHeap → Prop}
theorem Ends.mono {Z : State} {p : Program} {e : Env} {R : Room} {s : State} {below : List Frame} {T0 : State} (h : Ends K Q Z p e R s below T0) (hq : ∀ v H, Q v H → Q' v H) : Ends K Q' Z p e R s below T0 := by
  obtain ⟨v, H', T, locs, fs, h1, r⟩ := h; exact ⟨v, H', T, locs, fs, hq _ _ h1, r⟩
theorem W.mono (h : W tb K μ rm pc L S H Q) (hq : ∀ v H, Q v H → Q' v H) : W tb K μ rm pc L S H Q' := fun hl Z a0 p l e R s m args below meth c T locs cells slots X => (h hl Z a0 p l e R s m args below meth c T locs cells slots X).mono hq
theorem M.mono {as : List Value} (h : M tb K μ rm as H Q) (hq : ∀ v H, Q v H → Q' v H) : M tb K μ rm as H Q' := fun Z a0 hw l h0 ws hr p e ha hc hk s m args below hf happ hP hK => by
  obtain ⟨n, o, h1, h2, h3, v, L, h4, ⟨v', H', h5, h6, h7, h8⟩, h9⟩ := h Z a0 hw l h0 ws hr p e ha hc hk s m args below hf happ hP hK
  exact ⟨n, o, h1, h2, h3, v, L, h4, ⟨v', H', h5, h6, hq _ _ h7, h8⟩, h9⟩
theorem Ends.steps {Z : State} {p : Program} {e : Env} {R : Room} {s : State} {below : List Frame} {T0 T1 : State} (st : ∀ target, Steps p.tables e below T1 target → Steps p.tables e below T0 target) (h : Ends K Q Z p e R s below T1) : Ends K Q Z p e R s below T0 := by
  obtain ⟨v, H', T, locs, fs, h1, h2, r⟩ := h; exact ⟨v, H', T, locs, fs, h1, st _ h2, r⟩
/-- a step that moves the frame alone -/
theorem W.pure {pc' : Nat} {L' : List Slot} {S' : List Value} (hl : L'.length = L.length)
    (st : ∀ (k : Nat) (p : Program) (e : Env) (m : MethodId) (below : List Frame) (c : Code) (T : State), At T m c below → p.tables.exec = Jvm.exec → c.code = μ.2.1 → ∀ target, Steps p.tables e below (T.setTop (mkF m pc' (L'.map (cs k)).toArray (S'.map (cv k)))) target → Steps p.tables e below (T.setTop (mkF m pc (L.map (cs k)).toArray (S.map (cv k)))) target)
    (h : W tb K μ rm pc' L' S' H Q) : W tb K μ rm pc L S H Q := fun hL Z a0 p l e R s m args below meth c T locs cells slots X =>
  (h (hl.trans hL) Z a0 p l e R s m args below meth c T locs cells slots X).steps (st _ p e m below c T X.1.here X.2.1 X.2.2.2.2.1)
theorem get_conc {k : Nat} {i : Nat} {v : Value} (h : L[i]? = some (.val v)) : (L.map (cs k)).toArray[i]? = some (.val (cv k v)) := by
  simp [h, cs]
theorem W.iload_n {i : Fin 4} {x : Int32} (hd : decode μ.2.1 pc = .ok (.iload_n i, 1)) (hl : L[i.val]? = some (.val (.int x))) (h : W tb K μ rm (pc + 1) L (.int x :: S) H Q) : W tb K μ rm pc L S H Q :=
  W.pure rfl (fun k p e m below c T hA hx hb' t ht => XS.iloadN hA hx rfl (hb hb' hd) (get_conc hl) ht) h
theorem W.iload {i : Nat} {x : Int32} (hd : decode μ.2.1 pc = .ok (.iload i, 2)) (hl : L[i]? = some (.val (.int x))) (h : W tb K μ rm (pc + 2) L (.int x :: S) H Q) : W tb K μ rm pc L S H Q :=
  W.pure rfl (fun k p e m below c T hA hx hb' t ht => XS.iload hA hx rfl (hb hb' hd) (get_conc hl) ht) h
theorem W.lload_n {i : Fin 4} {x : Int64} (hd : decode μ.2.1 pc = .ok (.lload_n i, 1)) (hl : L[i.val]? = some (.val (.long x))) (h : W tb K μ rm (pc + 1) L (.long x :: S) H Q) : W tb K μ rm pc L S H Q :=
  W.pure rfl (fun k p e m below c T hA hx hb' t ht => XS.lloadN hA hx rfl (hb hb' hd) (get_conc hl) ht) h
theorem W.lload {i : Nat} {x : Int64} (hd : decode μ.2.1 pc = .ok (.lload i, 2)) (hl : L[i]? = some (.val (.long x))) (h : W tb K μ rm (pc + 2) L (.long x :: S) H Q) : W tb K μ rm pc L S H Q :=
  W.pure rfl (fun k p e m below c T hA hx hb' t ht => XS.lload hA hx rfl (hb hb' hd) (get_conc hl) ht) h
theorem W.aload_n {i : Fin 4} {v : Value} (hd : decode μ.2.1 pc = .ok (.aload_n i, 1)) (hl : L[i.val]? = some (.val v)) (hv : v.isRef = true) (h : W tb K μ rm (pc + 1) L (v :: S) H Q) : W tb K μ rm pc L S H Q :=
  W.pure rfl (fun k p e m below c T hA hx hb' t ht => XS.aloadN hA hx rfl (hb hb' hd) (get_conc hl) (by rw [cv_isRef]; exact hv) ht) h
theorem W.aload {i : Nat} {v : Value} (hd : decode μ.2.1 pc = .ok (.aload i, 2)) (hl : L[i]? = some (.val v)) (hv : v.isRef = true) (h : W tb K μ rm (pc + 2) L (v :: S) H Q) : W tb K μ rm pc L S H Q :=
  W.pure rfl (fun k p e m below c T hA hx hb' t ht => XS.aload hA hx rfl (hb hb' hd) (get_conc hl) (by rw [cv_isRef]; exact hv) ht) h
theorem W.iadd {x y : Int32} (hd : decode μ.2.1 pc = .ok (.iadd, 1)) (h : W tb K μ rm (pc + 1) L (.int (x + y) :: S) H Q) : W tb K μ rm pc L (.int y :: .int x :: S) H Q :=
  W.pure rfl (fun k p e m below c T hA hx hb' t ht => XS.iadd hA hx rfl (hb hb' hd) rfl ht) h
theorem W.isub {x y : Int32} (hd : decode μ.2.1 pc = .ok (.isub, 1)) (h : W tb K μ rm (pc + 1) L (.int (x - y) :: S) H Q) : W tb K μ rm pc L (.int y :: .int x :: S) H Q :=
  W.pure rfl (fun k p e m below c T hA hx hb' t ht => XS.isub hA hx rfl (hb hb' hd) rfl ht) h
theorem W.imul {x y : Int32} (hd : decode μ.2.1 pc = .ok (.imul, 1)) (h : W tb K μ rm (pc + 1) L (.int (x * y) :: S) H Q) : W tb K μ rm pc L (.int y :: .int x :: S) H Q :=
  W.pure rfl (fun k p e m below c T hA hx hb' t ht => XS.imul hA hx rfl (hb hb' hd) rfl ht) h
theorem W.idiv {x y : Int32} (hd : decode μ.2.1 pc = .ok (.idiv, 1)) (hy : y ≠ 0) (h : W tb K μ rm (pc + 1) L (.int (x / y) :: S) H Q) : W tb K μ rm pc L (.int y :: .int x :: S) H Q :=
  W.pure rfl (fun k p e m below c T hA hx hb' t ht => XS.idiv hA hx rfl (hb hb' hd) rfl hy ht) h
theorem W.irem {x y : Int32} (hd : decode μ.2.1 pc = .ok (.irem, 1)) (hy : y ≠ 0) (h : W tb K μ rm (pc + 1) L (.int (x % y) :: S) H Q) : W tb K μ rm pc L (.int y :: .int x :: S) H Q :=
  W.pure rfl (fun k p e m below c T hA hx hb' t ht => XS.irem hA hx rfl (hb hb' hd) rfl hy (by rw [irem_eq_mod x y]; exact ht)) h
theorem W.ineg {x : Int32} (hd : decode μ.2.1 pc = .ok (.ineg, 1)) (h : W tb K μ rm (pc + 1) L (.int (-x) :: S) H Q) : W tb K μ rm pc L (.int x :: S) H Q :=
  W.pure rfl (fun k p e m below c T hA hx hb' t ht => XS.ineg hA hx rfl (hb hb' hd) rfl ht) h
theorem W.iand {x y : Int32} (hd : decode μ.2.1 pc = .ok (.iand, 1)) (h : W tb K μ rm (pc + 1) L (.int (x &&& y) :: S) H Q) : W tb K μ rm pc L (.int y :: .int x :: S) H Q :=
  W.pure rfl (fun k p e m below c T hA hx hb' t ht => XS.iand hA hx rfl (hb hb' hd) rfl ht) h
theorem W.ior {x y : Int32} (hd : decode μ.2.1 pc = .ok (.ior, 1)) (h : W tb K μ rm (pc + 1) L (.int (x ||| y) :: S) H Q) : W tb K μ rm pc L (.int y :: .int x :: S) H Q :=
  W.pure rfl (fun k p e m below c T hA hx hb' t ht => XT.ior hA hx rfl (hb hb' hd) rfl ht) h
theorem W.ixor {x y : Int32} (hd : decode μ.2.1 pc = .ok (.ixor, 1)) (h : W tb K μ rm (pc + 1) L (.int (x ^^^ y) :: S) H Q) : W tb K μ rm pc L (.int y :: .int x :: S) H Q :=
  W.pure rfl (fun k p e m below c T hA hx hb' t ht => XT.ixor hA hx rfl (hb hb' hd) rfl ht) h
theorem W.ishl {x y : Int32} (hd : decode μ.2.1 pc = .ok (.ishl, 1)) (h : W tb K μ rm (pc + 1) L (.int (x <<< (y &&& 31)) :: S) H Q) : W tb K μ rm pc L (.int y :: .int x :: S) H Q :=
  W.pure rfl (fun k p e m below c T hA hx hb' t ht => XT.ishl hA hx rfl (hb hb' hd) rfl ht) h
theorem W.ishr {x y : Int32} (hd : decode μ.2.1 pc = .ok (.ishr, 1)) (h : W tb K μ rm (pc + 1) L (.int (x >>> (y &&& 31)) :: S) H Q) : W tb K μ rm pc L (.int y :: .int x :: S) H Q :=
  W.pure rfl (fun k p e m below c T hA hx hb' t ht => XT.ishr hA hx rfl (hb hb' hd) rfl ht) h
theorem W.iushr {x y : Int32} (hd : decode μ.2.1 pc = .ok (.iushr, 1)) (h : W tb K μ rm (pc + 1) L (.int (XT.ushr x y) :: S) H Q) : W tb K μ rm pc L (.int y :: .int x :: S) H Q :=
  W.pure rfl (fun k p e m below c T hA hx hb' t ht => XT.iushr hA hx rfl (hb hb' hd) rfl ht) h
theorem W.ladd {x y : Int64} (hd : decode μ.2.1 pc = .ok (.ladd, 1)) (h : W tb K μ rm (pc + 1) L (.long (x + y) :: S) H Q) : W tb K μ rm pc L (.long y :: .long x :: S) H Q :=
  W.pure rfl (fun k p e m below c T hA hx hb' t ht => XT.ladd hA hx rfl (hb hb' hd) rfl ht) h
theorem W.lsub {x y : Int64} (hd : decode μ.2.1 pc = .ok (.lsub, 1)) (h : W tb K μ rm (pc + 1) L (.long (x - y) :: S) H Q) : W tb K μ rm pc L (.long y :: .long x :: S) H Q :=
  W.pure rfl (fun k p e m below c T hA hx hb' t ht => XT.lsub hA hx rfl (hb hb' hd) rfl ht) h
theorem W.lmul {x y : Int64} (hd : decode μ.2.1 pc = .ok (.lmul, 1)) (h : W tb K μ rm (pc + 1) L (.long (x * y) :: S) H Q) : W tb K μ rm pc L (.long y :: .long x :: S) H Q :=
  W.pure rfl (fun k p e m below c T hA hx hb' t ht => XT.lmul hA hx rfl (hb hb' hd) rfl ht) h
theorem W.ldiv {x y : Int64} (hd : decode μ.2.1 pc = .ok (.ldiv, 1)) (hy : y ≠ 0) (h : W tb K μ rm (pc + 1) L (.long (x / y) :: S) H Q) : W tb K μ rm pc L (.long y :: .long x :: S) H Q :=
  W.pure rfl (fun k p e m below c T hA hx hb' t ht => XT.ldiv hA hx rfl (hb hb' hd) rfl hy ht) h
theorem W.land {x y : Int64} (hd : decode μ.2.1 pc = .ok (.land, 1)) (h : W tb K μ rm (pc + 1) L (.long (x &&& y) :: S) H Q) : W tb K μ rm pc L (.long y :: .long x :: S) H Q :=
  W.pure rfl (fun k p e m below c T hA hx hb' t ht => XT.land hA hx rfl (hb hb' hd) rfl ht) h
theorem W.lor {x y : Int64} (hd : decode μ.2.1 pc = .ok (.lor, 1)) (h : W tb K μ rm (pc + 1) L (.long (x ||| y) :: S) H Q) : W tb K μ rm pc L (.long y :: .long x :: S) H Q :=
  W.pure rfl (fun k p e m below c T hA hx hb' t ht => XT.lor hA hx rfl (hb hb' hd) rfl ht) h
theorem W.lxor {x y : Int64} (hd : decode μ.2.1 pc = .ok (.lxor, 1)) (h : W tb K μ rm (pc + 1) L (.long (x ^^^ y) :: S) H Q) : W tb K μ rm pc L (.long y :: .long x :: S) H Q :=
  W.pure rfl (fun k p e m below c T hA hx hb' t ht => XT.lxor hA hx rfl (hb hb' hd) rfl ht) h
theorem W.lshl {x : Int64} {y : Int32} (hd : decode μ.2.1 pc = .ok (.lshl, 1)) (h : W tb K μ rm (pc + 1) L (.long (x <<< (y.toInt64 &&& 63)) :: S) H Q) : W tb K μ rm pc L (.int y :: .long x :: S) H Q :=
  W.pure rfl (fun k p e m below c T hA hx hb' t ht => XT.lshl hA hx rfl (hb hb' hd) rfl ht) h
theorem W.lushr {x : Int64} {y : Int32} (hd : decode μ.2.1 pc = .ok (.lushr, 1)) (h : W tb K μ rm (pc + 1) L (.long (XT.ushrL x y) :: S) H Q) : W tb K μ rm pc L (.int y :: .long x :: S) H Q :=
  W.pure rfl (fun k p e m below c T hA hx hb' t ht => XT.lushr hA hx rfl (hb hb' hd) rfl ht) h
theorem W.lcmp {x y : Int64} (hd : decode μ.2.1 pc = .ok (.lcmp, 1)) (h : W tb K μ rm (pc + 1) L (.int (XT.cmpL x y) :: S) H Q) : W tb K μ rm pc L (.long y :: .long x :: S) H Q :=
  W.pure rfl (fun k p e m below c T hA hx hb' t ht => XT.lcmp hA hx rfl (hb hb' hd) rfl ht) h
theorem W.i2l {x : Int32} (hd : decode μ.2.1 pc = .ok (.i2l, 1)) (h : W tb K μ rm (pc + 1) L (.long x.toInt64 :: S) H Q) : W tb K μ rm pc L (.int x :: S) H Q :=
  W.pure rfl (fun k p e m below c T hA hx hb' t ht => XT.i2l hA hx rfl (hb hb' hd) rfl ht) h
theorem W.l2i {x : Int64} (hd : decode μ.2.1 pc = .ok (.l2i, 1)) (h : W tb K μ rm (pc + 1) L (.int x.toInt32 :: S) H Q) : W tb K μ rm pc L (.long x :: S) H Q :=
  W.pure rfl (fun k p e m below c T hA hx hb' t ht => XT.l2i hA hx rfl (hb hb' hd) rfl ht) h
theorem W.i2b {x : Int32} (hd : decode μ.2.1 pc = .ok (.i2b, 1)) (h : W tb K μ rm (pc + 1) L (.int x.toInt8.toInt32 :: S) H Q) : W tb K μ rm pc L (.int x :: S) H Q :=
  W.pure rfl (fun k p e m below c T hA hx hb' t ht => XT.i2b hA hx rfl (hb hb' hd) rfl ht) h
theorem W.i2c {x : Int32} (hd : decode μ.2.1 pc = .ok (.i2c, 1)) (h : W tb K μ rm (pc + 1) L (.int x.toUInt32.toUInt16.toUInt32.toInt32 :: S) H Q) : W tb K μ rm pc L (.int x :: S) H Q :=
  W.pure rfl (fun k p e m below c T hA hx hb' t ht => XT.i2c hA hx rfl (hb hb' hd) rfl ht) h
theorem W.iconst {i : Int} (hd : decode μ.2.1 pc = .ok (.iconst i, 1)) (h : W tb K μ rm (pc + 1) L (.int (Int32.ofInt i) :: S) H Q) : W tb K μ rm pc L (S) H Q :=
  W.pure rfl (fun k p e m below c T hA hx hb' t ht => XS.iconst hA hx rfl (hb hb' hd) ht) h
theorem W.bipush {i : Int} (hd : decode μ.2.1 pc = .ok (.bipush i, 2)) (h : W tb K μ rm (pc + 2) L (.int (Int8.ofInt i).toInt32 :: S) H Q) : W tb K μ rm pc L (S) H Q :=
  W.pure rfl (fun k p e m below c T hA hx hb' t ht => XS.bipush hA hx rfl (hb hb' hd) ht) h
theorem W.sipush {i : Int} (hd : decode μ.2.1 pc = .ok (.sipush i, 3)) (h : W tb K μ rm (pc + 3) L (.int (Int16.ofInt i).toInt32 :: S) H Q) : W tb K μ rm pc L (S) H Q :=
  W.pure rfl (fun k p e m below c T hA hx hb' t ht => XS.sipush hA hx rfl (hb hb' hd) ht) h
theorem W.lconst {i : Fin 2} (hd : decode μ.2.1 pc = .ok (.lconst i, 1)) (h : W tb K μ rm (pc + 1) L (.long (Int64.ofNat i) :: S) H Q) : W tb K μ rm pc L (S) H Q :=
  W.pure rfl (fun k p e m below c T hA hx hb' t ht => XT.lconst hA hx rfl (hb hb' hd) ht) h
theorem W.aconst_null  (hd : decode μ.2.1 pc = .ok (.aconst_null, 1)) (h : W tb K μ rm (pc + 1) L (.null :: S) H Q) : W tb K μ rm pc L (S) H Q :=
  W.pure rfl (fun k p e m below c T hA hx hb' t ht => XS.aconstNull hA hx rfl (hb hb' hd) ht) h
theorem W.dup {v : Value} (hd : decode μ.2.1 pc = .ok (.dup, 1)) (hc : v.category = 1) (h : W tb K μ rm (pc + 1) L (v :: v :: S) H Q) : W tb K μ rm pc L (v :: S) H Q :=
  W.pure rfl (fun k p e m below c T hA hx hb' t ht => XS.dup hA hx rfl (hb hb' hd) rfl (by rw [cv_cat]; exact hc) ht) h
theorem W.pop {v : Value} (hd : decode μ.2.1 pc = .ok (.pop, 1)) (hc : v.category = 1) (h : W tb K μ rm (pc + 1) L (S) H Q) : W tb K μ rm pc L (v :: S) H Q :=
  W.pure rfl (fun k p e m below c T hA hx hb' t ht => XT.pop hA hx rfl (hb hb' hd) rfl (by rw [cv_cat]; exact hc) ht) h
theorem W.dup_x1 {v w : Value} (hd : decode μ.2.1 pc = .ok (.dup_x1, 1)) (hc : v.category = 1) (hc' : w.category = 1) (h : W tb K μ rm (pc + 1) L (v :: w :: v :: S) H Q) : W tb K μ rm pc L (v :: w :: S) H Q :=
  W.pure rfl (fun k p e m below c T hA hx hb' t ht => XT.dupX1 hA hx rfl (hb hb' hd) rfl (by rw [cv_cat]; exact hc) (by rw [cv_cat]; exact hc') ht) h
theorem W.iconst' {i : Int} {x : Int32} (hd : decode μ.2.1 pc = .ok (.iconst i, 1)) (hx : Int32.ofInt i = x) (h : W tb K μ rm (pc + 1) L (.int x :: S) H Q) : W tb K μ rm pc L S H Q := W.iconst hd (by rw [hx]; exact h)
theorem W.bipush' {i : Int} {x : Int32} (hd : decode μ.2.1 pc = .ok (.bipush i, 2)) (hx : (Int8.ofInt i).toInt32 = x) (h : W tb K μ rm (pc + 2) L (.int x :: S) H Q) : W tb K μ rm pc L S H Q := W.bipush hd (by rw [hx]; exact h)
theorem W.sipush' {i : Int} {x : Int32} (hd : decode μ.2.1 pc = .ok (.sipush i, 3)) (hx : (Int16.ofInt i).toInt32 = x) (h : W tb K μ rm (pc + 3) L (.int x :: S) H Q) : W tb K μ rm pc L S H Q := W.sipush hd (by rw [hx]; exact h)
theorem W.lconst' {i : Fin 2} {x : Int64} (hd : decode μ.2.1 pc = .ok (.lconst i, 1)) (hx : Int64.ofNat i = x) (h : W tb K μ rm (pc + 1) L (.long x :: S) H Q) : W tb K μ rm pc L S H Q := W.lconst hd (by rw [hx]; exact h)
/-- a local of one word -/
def one : Slot → Bool
  | .unset => true
  | .val v => v.category == 1
  | .second => false
theorem cs_one {k : Nat} {o : Slot} (h : one o = true) : cs k o = .unset ∨ ∃ w, cs k o = .val w ∧ w.category = 1 := by
  cases o with
  | unset => exact Or.inl rfl
  | second => cases h
  | val v => exact Or.inr ⟨cv k v, rfl, by rw [cv_cat]; simpa [one] using h⟩
theorem set_conc {k i : Nat} {x : Slot} : (L.map (cs k)).toArray.setIfInBounds i (cs k x) = ((L.set i x).map (cs k)).toArray := by
  simp [List.map_set]
theorem sto1 {k i : Nat} {o : Slot} {v : Value} (hl : L[i]? = some o) (ho : one o = true) (hv : v.category = 1) : storeLocals (L.map (cs k)).toArray i (cv k v) = some ((L.set i (.val v)).map (cs k)).toArray := by
  rw [XS.store1 (o := cs k o) (by simp [hl]) (cs_one ho) (by rw [cv_cat]; exact hv)]
  exact congrArg some (set_conc (x := .val v))
/-- over the first half of a long -/
theorem sto1w {k i : Nat} {w v : Value} (hl : L[i]? = some (.val w)) (ho : w.category = 2) (hi : i + 1 < L.length) (hv : v.category = 1) : storeLocals (L.map (cs k)).toArray i (cv k v) = some (((L.set (i + 1) .unset).set i (.val v)).map (cs k)).toArray := by
  have h0 : i < L.length := by omega
  have e : L[i] = .val w := by rw [List.getElem?_eq_getElem h0] at hl; exact Option.some.inj hl
  simp [storeLocals, storeSelf, setAt, h0, e, cs, cv_cat, ho, hi, hv, List.map_set]
/-- over the second half of a long -/
theorem sto1s {k i : Nat} {v : Value} (hl : L[i]? = some .second) (hi : 0 < i) (hv : v.category = 1) : storeLocals (L.map (cs k)).toArray i (cv k v) = some (((L.set (i - 1) .unset).set i (.val v)).map (cs k)).toArray := by
  have h0 : i < L.length := (List.getElem?_eq_some_iff.mp hl).1
  have e : L[i] = .second := by rw [List.getElem?_eq_getElem h0] at hl; exact Option.some.inj hl
  have h1 : i - 1 < L.length := by omega
  simp [storeLocals, storeSelf, setAt, h0, h1, e, cs, cv_cat, hv, List.map_set]
/-- what a long may be stored over -/
def two : Slot → Slot → Bool
  | .second, _ => false
  | _, .val w => w.category == 1
  | _, _ => true
theorem sto2 {k i : Nat} {o o' : Slot} {x : Int64} (hl : L[i]? = some o) (hl' : L[i + 1]? = some o') (ho : two o o' = true) : storeLocals (L.map (cs k)).toArray i (.long x) = some (((L.set i (.val (.long x))).set (i + 1) .second).map (cs k)).toArray := by
  have h0 : i < L.length := (List.getElem?_eq_some_iff.mp hl).1
  have h1 : i + 1 < L.length := (List.getElem?_eq_some_iff.mp hl').1
  have e : L[i] = o := by rw [List.getElem?_eq_getElem h0] at hl; exact Option.some.inj hl
  have e' : L[i + 1] = o' := by rw [List.getElem?_eq_getElem h1] at hl'; exact Option.some.inj hl'
  have ne : ¬ (i = i + 1) := by omega
  have c2 : (Value.long x).category = 2 := rfl
  have cl : cv k (.long x) = .long x := rfl
  have sw : ∀ (l : List Slot) (u v w : Slot), ((l.set (i + 1) u).set i v).set (i + 1) w = (l.set i v).set (i + 1) w := fun l u v w => by
    rw [List.set_comm _ _ (by omega : i + 1 ≠ i), List.set_set]
  cases o with
  | second => cases ho
  | unset =>
    cases o' with
    | unset => simp [storeLocals, storeSelf, setAt, h0, h1, e, e', cs, c2, cl, List.map_set]
    | second => simp [storeLocals, storeSelf, setAt, h0, h1, e, e', cs, c2, cl, List.map_set]
    | val w' =>
      have hc : w'.category = 1 := by simpa [two] using ho
      simp [storeLocals, storeSelf, setAt, h0, h1, e, e', cs, cv_cat, hc, c2, cl, List.map_set]
  | val w =>
    by_cases hw : w.category = 2
    · simp [storeLocals, storeSelf, setAt, h0, h1, e, cs, cv_cat, hw, c2, cl, List.map_set, sw]
    · cases o' with
      | unset => simp [storeLocals, storeSelf, setAt, h0, h1, e, e', cs, cv_cat, hw, c2, cl, List.map_set]
      | second => simp [storeLocals, storeSelf, setAt, h0, h1, e, e', cs, cv_cat, hw, c2, cl, List.map_set]
      | val w' =>
        have hc : w'.category = 1 := by simpa [two] using ho
        simp [storeLocals, storeSelf, setAt, h0, h1, e, e', cs, cv_cat, hw, hc, c2, cl, List.map_set]
theorem W.istore_n {i : Fin 4} {o : Slot} {x : Int32} (hd : decode μ.2.1 pc = .ok (.istore_n i, 1)) (hl : L[i.val]? = some o) (ho : one o = true) (h : W tb K μ rm (pc + 1) (L.set i.val (.val (.int x))) S H Q) : W tb K μ rm pc L (.int x :: S) H Q :=
  W.pure (by simp) (fun k p e m below c T hA hx hb' t ht => XS.istoreN hA hx rfl (hb hb' hd) rfl (sto1 (v := .int x) hl ho rfl) ht) h
theorem W.istore_nW {i : Fin 4} {w : Value} {x : Int32} (hd : decode μ.2.1 pc = .ok (.istore_n i, 1)) (hl : L[i.val]? = some (.val w)) (ho : w.category = 2) (hi : i.val + 1 < L.length) (h : W tb K μ rm (pc + 1) ((L.set (i.val + 1) .unset).set i.val (.val (.int x))) S H Q) : W tb K μ rm pc L (.int x :: S) H Q :=
  W.pure (by simp) (fun k p e m below c T hA hx hb' t ht => XS.istoreN hA hx rfl (hb hb' hd) rfl (sto1w (v := .int x) hl ho hi rfl) ht) h
theorem W.istore_nS {i : Fin 4} {x : Int32} (hd : decode μ.2.1 pc = .ok (.istore_n i, 1)) (hl : L[i.val]? = some .second) (hi : 0 < i.val) (h : W tb K μ rm (pc + 1) ((L.set (i.val - 1) .unset).set i.val (.val (.int x))) S H Q) : W tb K μ rm pc L (.int x :: S) H Q :=
  W.pure (by simp) (fun k p e m below c T hA hx hb' t ht => XS.istoreN hA hx rfl (hb hb' hd) rfl (sto1s (v := .int x) hl hi rfl) ht) h
theorem W.istore {i : Nat} {o : Slot} {x : Int32} (hd : decode μ.2.1 pc = .ok (.istore i, 2)) (hl : L[i]? = some o) (ho : one o = true) (h : W tb K μ rm (pc + 2) (L.set i (.val (.int x))) S H Q) : W tb K μ rm pc L (.int x :: S) H Q :=
  W.pure (by simp) (fun k p e m below c T hA hx hb' t ht => XS.istore hA hx rfl (hb hb' hd) rfl (sto1 (v := .int x) hl ho rfl) ht) h
theorem W.istoreW {i : Nat} {w : Value} {x : Int32} (hd : decode μ.2.1 pc = .ok (.istore i, 2)) (hl : L[i]? = some (.val w)) (ho : w.category = 2) (hi : i + 1 < L.length) (h : W tb K μ rm (pc + 2) ((L.set (i + 1) .unset).set i (.val (.int x))) S H Q) : W tb K μ rm pc L (.int x :: S) H Q :=
  W.pure (by simp) (fun k p e m below c T hA hx hb' t ht => XS.istore hA hx rfl (hb hb' hd) rfl (sto1w (v := .int x) hl ho hi rfl) ht) h
theorem W.istoreS {i : Nat} {x : Int32} (hd : decode μ.2.1 pc = .ok (.istore i, 2)) (hl : L[i]? = some .second) (hi : 0 < i) (h : W tb K μ rm (pc + 2) ((L.set (i - 1) .unset).set i (.val (.int x))) S H Q) : W tb K μ rm pc L (.int x :: S) H Q :=
  W.pure (by simp) (fun k p e m below c T hA hx hb' t ht => XS.istore hA hx rfl (hb hb' hd) rfl (sto1s (v := .int x) hl hi rfl) ht) h
theorem W.astore_n {i : Fin 4} {o : Slot} {v : Value} (hd : decode μ.2.1 pc = .ok (.astore_n i, 1)) (hl : L[i.val]? = some o) (ho : one o = true) (hv : v.isRef = true) (h : W tb K μ rm (pc + 1) (L.set i.val (.val v)) S H Q) : W tb K μ rm pc L (v :: S) H Q :=
  W.pure (by simp) (fun k p e m below c T hA hx hb' t ht => XS.astoreN hA hx rfl (hb hb' hd) rfl (by rw [cv_isRef]; exact hv) (sto1 (v := v) hl ho (by cases v <;> first | rfl | cases hv)) ht) h
theorem W.astore {i : Nat} {o : Slot} {v : Value} (hd : decode μ.2.1 pc = .ok (.astore i, 2)) (hl : L[i]? = some o) (ho : one o = true) (hv : v.isRef = true) (h : W tb K μ rm (pc + 2) (L.set i (.val v)) S H Q) : W tb K μ rm pc L (v :: S) H Q :=
  W.pure (by simp) (fun k p e m below c T hA hx hb' t ht => XS.astore hA hx rfl (hb hb' hd) rfl (by rw [cv_isRef]; exact hv) (sto1 (v := v) hl ho (by cases v <;> first | rfl | cases hv)) ht) h
theorem W.lstore_n {i : Fin 4} {o o' : Slot} {x : Int64} (hd : decode μ.2.1 pc = .ok (.lstore_n i, 1)) (hl : L[i.val]? = some o) (hl' : L[i.val + 1]? = some o') (ho : two o o' = true) (h : W tb K μ rm (pc + 1) ((L.set i.val (.val (.long x))).set (i.val + 1) .second) S H Q) : W tb K μ rm pc L (.long x :: S) H Q :=
  W.pure (by simp) (fun k p e m below c T hA hx hb' t ht => XT.lstoreN hA hx rfl (hb hb' hd) rfl (sto2 hl hl' ho) ht) h
theorem W.lstore {i : Nat} {o o' : Slot} {x : Int64} (hd : decode μ.2.1 pc = .ok (.lstore i, 2)) (hl : L[i]? = some o) (hl' : L[i + 1]? = some o') (ho : two o o' = true) (h : W tb K μ rm (pc + 2) ((L.set i (.val (.long x))).set (i + 1) .second) S H Q) : W tb K μ rm pc L (.long x :: S) H Q :=
  W.pure (by simp) (fun k p e m below c T hA hx hb' t ht => XT.lstore hA hx rfl (hb hb' hd) rfl (sto2 hl hl' ho) ht) h
theorem W.iinc {i : Nat} {n : Int} {x y : Int32} (hd : decode μ.2.1 pc = .ok (.iinc i n, 3)) (hy : Int32.ofInt n = y) (hl : L[i]? = some (.val (.int x))) (h : W tb K μ rm (pc + 3) (L.set i (.val (.int (x + y)))) S H Q) : W tb K μ rm pc L S H Q := by
  subst hy
  exact W.pure (by simp) (fun k p e m below c T hA hx hb' t ht => XS.iinc hA hx rfl (hb hb' hd) (get_conc hl) (sto1 (v := .int (x + Int32.ofInt n)) hl rfl rfl) ht) h
theorem W.goto {o : Int} {pc' : Nat} (hd : decode μ.2.1 pc = .ok (.goto o, 3)) (ho : 0 ≤ (pc : Int) + o) (hp : ((pc : Int) + o).toNat = pc') (h : W tb K μ rm pc' L S H Q) : W tb K μ rm pc L S H Q :=
  W.pure rfl (fun k p e m below c T hA hx hb' t ht => XS.goto hA hx rfl rfl (hb hb' hd) ho hp ht) h
/-- what a comparison asks -/
def cnd : ClassFile.Cond → Int32 → Int32 → Prop
  | .eq, x, y => x = y
  | .ne, x, y => ¬ x = y
  | .lt, x, y => x < y
  | .ge, x, y => ¬ x < y
  | .gt, x, y => y < x
  | .le, x, y => ¬ y < x
def cndN : ClassFile.Cond → Int32 → Int32 → Prop
  | .eq, x, y => ¬ x = y
  | .ne, x, y => x = y
  | .lt, x, y => ¬ x < y
  | .ge, x, y => x < y
  | .gt, x, y => ¬ y < x
  | .le, x, y => y < x
theorem cndN_of (cd : ClassFile.Cond) (x y : Int32) (h : ¬ cnd cd x y) : cndN cd x y := by
  cases cd <;> first | exact h | exact Classical.not_not.mp h
theorem cnd_iff (cd : ClassFile.Cond) (x y : Int32) : if_icmp.holds cd x y = true ↔ cnd cd x y := by
  cases cd <;> simp [if_icmp.holds, cnd, Int32.not_lt]
theorem cnd_not (cd : ClassFile.Cond) (x y : Int32) : if_icmp.holds cd x y = false ↔ ¬ cnd cd x y := by
  rw [← cnd_iff]; cases if_icmp.holds cd x y <;> simp
theorem W.icmp {cd : ClassFile.Cond} {x y : Int32} {o : Int} {pc' : Nat} (hd : decode μ.2.1 pc = .ok (.if_icmp cd o, 3)) (ho : 0 ≤ (pc : Int) + o) (hp : ((pc : Int) + o).toNat = pc') (h1 : cnd cd x y → W tb K μ rm pc' L S H Q) (h2 : cndN cd x y → W tb K μ rm (pc + 3) L S H Q) : W tb K μ rm pc L (.int y :: .int x :: S) H Q := by
  cases hc : if_icmp.holds cd x y
  · exact W.pure rfl (fun k p e m below c T hA hx hb' t ht => XS.icmpNo hA hx rfl (hb hb' hd) rfl hc ht) (h2 (cndN_of cd x y ((cnd_not cd x y).mp hc)))
  · exact W.pure rfl (fun k p e m below c T hA hx hb' t ht => XS.icmpYes hA hx rfl rfl (hb hb' hd) rfl hc ho hp ht) (h1 ((cnd_iff cd x y).mp hc))
theorem W.ifc {cd : ClassFile.Cond} {x : Int32} {o : Int} {pc' : Nat} (hd : decode μ.2.1 pc = .ok (.ifCond cd o, 3)) (ho : 0 ≤ (pc : Int) + o) (hp : ((pc : Int) + o).toNat = pc') (h1 : cnd cd x 0 → W tb K μ rm pc' L S H Q) (h2 : cndN cd x 0 → W tb K μ rm (pc + 3) L S H Q) : W tb K μ rm pc L (.int x :: S) H Q := by
  cases hc : ifCond.holds cd x
  · exact W.pure rfl (fun k p e m below c T hA hx hb' t ht => XS.ifNo hA hx rfl (hb hb' hd) rfl hc ht) (h2 (cndN_of cd x 0 ((cnd_not cd x 0).mp (by rw [← if0]; exact hc))))
  · exact W.pure rfl (fun k p e m below c T hA hx hb' t ht => XS.ifYes hA hx rfl rfl (hb hb' hd) rfl hc ho hp ht) (h1 ((cnd_iff cd x 0).mp (by rw [← if0]; exact hc)))
def cndL : ClassFile.Cond → Int64 → Int64 → Prop
  | .eq, x, y => x = y
  | .ne, x, y => ¬ x = y
  | .lt, x, y => x < y
  | .ge, x, y => ¬ x < y
  | .gt, x, y => y < x
  | .le, x, y => ¬ y < x
def cndLN : ClassFile.Cond → Int64 → Int64 → Prop
  | .eq, x, y => ¬ x = y
  | .ne, x, y => x = y
  | .lt, x, y => ¬ x < y
  | .ge, x, y => x < y
  | .gt, x, y => ¬ y < x
  | .le, x, y => y < x
theorem cndLN_iff (cd : ClassFile.Cond) (x y : Int64) : cndLN cd x y ↔ ¬ cndL cd x y := by
  cases cd <;> first | exact Iff.rfl | exact Classical.not_not.symm
theorem cndN_iff (cd : ClassFile.Cond) (x y : Int32) : cndN cd x y ↔ ¬ cnd cd x y := by
  cases cd <;> first | exact Iff.rfl | exact Classical.not_not.symm
theorem cmpL_iff (cd : ClassFile.Cond) (x y : Int64) : cnd cd (XT.cmpL x y) 0 ↔ cndL cd x y := by
  have e : XT.cmpL x y = lcmpW x y := by simp [XT.cmpL, lcmpW]
  rw [e]
  cases cd
  · exact lw_eq x y
  · exact not_congr (lw_eq x y)
  · exact lw_lt x y
  · exact not_congr (lw_lt x y)
  · exact lw_gt x y
  · exact not_congr (lw_gt x y)
/-- lcmp and the branch behind it -/
theorem W.lcif {cd : ClassFile.Cond} {x y : Int64} {o : Int} {pc1 pc' : Nat} (hd1 : decode μ.2.1 pc = .ok (.lcmp, 1)) (hp1 : pc + 1 = pc1) (hd : decode μ.2.1 pc1 = .ok (.ifCond cd o, 3)) (ho : 0 ≤ (pc1 : Int) + o) (hp : ((pc1 : Int) + o).toNat = pc') (h1 : cndL cd x y → W tb K μ rm pc' L S H Q) (h2 : cndLN cd x y → W tb K μ rm (pc1 + 3) L S H Q) : W tb K μ rm pc L (.long y :: .long x :: S) H Q := by
  subst hp1
  exact W.lcmp hd1 (W.ifc hd ho hp (fun h => h1 ((cmpL_iff cd x y).mp h)) (fun h => h2 ((cndLN_iff cd x y).mpr fun q => (cndN_iff cd _ 0).mp h ((cmpL_iff cd x y).mpr q))))
theorem W.ifnullR {i : Nat} {o : Int} (hd : decode μ.2.1 pc = .ok (.ifnull o, 3)) (h : W tb K μ rm (pc + 3) L S H Q) : W tb K μ rm pc L (.ref i :: S) H Q :=
  W.pure rfl (fun k p e m below c T hA hx hb' t ht => XS.ifnullNo hA hx rfl (hb hb' hd) rfl ht) h
theorem W.ifnonnullR {i : Nat} {o : Int} {pc' : Nat} (hd : decode μ.2.1 pc = .ok (.ifnonnull o, 3)) (ho : 0 ≤ (pc : Int) + o) (hp : ((pc : Int) + o).toNat = pc') (h : W tb K μ rm pc' L S H Q) : W tb K μ rm pc L (.ref i :: S) H Q :=
  W.pure rfl (fun k p e m below c T hA hx hb' t ht => XT.ifnonnullYes hA hx rfl rfl (hb hb' hd) rfl ho hp ht) h
theorem W.lsw {d : Int} {ps : Array (Int × Int)} {len : Nat} {x : Int32} {o : Int} {pc' : Nat} (hd : decode μ.2.1 pc = .ok (.lookupswitch d ps, len)) (hs : (ps.toList.zip (ps.toList.drop 1)).all (fun (a, next) => a.1 < next.1) = true) (ho : lookupswitch.offset ps.toList d x.toInt = o) (h0 : 0 ≤ (pc : Int) + o) (hp : ((pc : Int) + o).toNat = pc')
    (h : W tb K μ rm pc' L S H Q) : W tb K μ rm pc L (.int x :: S) H Q := by
  subst hp
  refine W.pure rfl (fun k p e m below c T hA hx hb' t ht => ?_) h
  have hd' := hb hb' hd
  show Steps p.tables e below (T.setTop (mkF m pc (L.map (cs k)).toArray (.int x :: S.map (cv k)))) _
  jvm_step hA [hA.top, hx, hd', lookupswitch.wp_chain, ho, h0]
  refine ⟨?_, ht⟩
  simpa using hs
end Logic
end Jvm.Own
namespace Jvm.Own
open Sem ClassFile Op Lib Jvm.Stand Jvm.Free Jvm.LawKit Jvm.RoadKit
section Heap
variable {Z : State} {K : KTab} {h h' : Heap} {H : AHeap} {a b : Addr} {tb : List Cond} {a0 : Array Value}
theorem CellOk.ext {c : ACell} (E : Ext h h') (F : CellOk Z K h a c) : CellOk Z K h' a c := by
  cases c with
  | inl q =>
    rcases F with q0 | ⟨C, n, fs, h1, h2, h3, h4⟩
    · exact Or.inl q0
    · exact Or.inr ⟨C, n, fs, h1, h2, h3.ext E, fun j f v hf hv => (h4 j f v hf hv).ext E⟩
  | inr q =>
    obtain ⟨cell, h1, h2⟩ := F
    exact ⟨cell, h1.ext E, h2⟩
/-- a cell whose class is in the table -/
theorem CellOk.obj {c n : Nat} {vs : List Value} {C : String} {fs : List (String × String × String × FieldType)} (hK : K[c]? = some (C, n, fs)) (F : CellOk Z K h a (.inl (c, vs))) : vs.length = fs.length ∧ Exa Z h a C ∧ ∀ (j : Nat) (f : String × String × String × FieldType) (v : Value), fs[j]? = some f → vs[j]? = some v → Fld Z h a f.1 f.2.1 f.2.2.1 (cv Z.heap.size v) := by
  rcases F with q | ⟨C', n', fs', h1, h2, h3, h4⟩
  · rw [hK] at q; cases q
  · cases hK.symm.trans h1; exact ⟨h2, h3, h4⟩
theorem CellOk.other {c : ACell} {sl : Nat} {v : Value} (W : Wr h h' b sl v) (F : CellOk Z K h a c) (ne : a ≠ b) : CellOk Z K h' a c := by
  cases c with
  | inl q =>
    rcases F with q0 | ⟨C, n, fs, h1, h2, h3, h4⟩
    · exact Or.inl q0
    · exact Or.inr ⟨C, n, fs, h1, h2, h3.wr W, fun j f v hf hv => (h4 j f v hf hv).other W (Or.inl ne)⟩
  | inr q =>
    obtain ⟨cell, h1, h2⟩ := F
    exact ⟨cell, h1.other W ne, h2⟩
theorem Rel.start (Z : State) (K : KTab) : Rel Z K Z.heap [] := ⟨rfl, fun i c q => by simp at q⟩
theorem Rel.push {c : ACell} {cell : Cell} (R : Rel Z K h H) (F : CellOk Z K (h.push cell) (Z.heap.size + H.length) c) : Rel Z K (h.push cell) (H ++ [c]) := by
  have E : Ext h (h.push cell) := ⟨by simp, fun x c q => by rw [Array.getElem?_push_lt (Array.getElem?_eq_some_iff.mp q).1]; exact (Array.getElem?_eq_getElem _).symm.trans q⟩
  refine ⟨by simp [R.1]; omega, fun i c' q => ?_⟩
  rcases Nat.lt_trichotomy i H.length with hi | hi | hi
  · rw [List.getElem?_append_left hi] at q
    exact (R.2 i c' q).ext E
  · subst hi
    rw [List.getElem?_append_right (Nat.le_refl _)] at q
    simp at q
    subst q
    exact F
  · rw [List.getElem?_append_right (Nat.le_of_lt hi)] at q
    rw [List.getElem?_eq_none (show 1 ≤ i - H.length from Nat.sub_pos_of_lt hi)] at q
    cases q
theorem Rel.set {c : ACell} {i sl : Nat} {v : Value} (R : Rel Z K h H) (W : Wr h h' (Z.heap.size + i) sl v) (F : CellOk Z K h' (Z.heap.size + i) c) : Rel Z K h' (H.set i c) := by
  refine ⟨by rw [W.size, List.length_set]; exact R.1, fun j c' q => ?_⟩
  by_cases e : j = i
  · subst e
    obtain ⟨hl, -⟩ := List.getElem?_eq_some_iff.mp q
    rw [List.getElem?_set_self (by simpa using hl)] at q
    cases q
    exact F
  · rw [List.getElem?_set_ne (Ne.symm e)] at q
    exact (R.2 j c' q).other W (fun q' => e (Nat.add_left_cancel q'))
theorem mem_of_get {q : String × Nat × List (String × String × String × FieldType)} {c : Nat} (hK : K[c]? = some q) : q ∈ K := List.mem_of_getElem? hK
theorem FOk.laid {C : String} {f : String × String × String × FieldType} (F : FOk tb C f) (hw : ∀ d ∈ tb, d.before a0 Z = true) : Laid Z a0 C f.1 f.2.1 f.2.2.1 := F.1.imp (hw _) (hw _)
theorem CellOk.put {c i j : Nat} {vs : List Value} {C : String} {n : Nat} {fs : List (String × String × String × FieldType)} {f : String × String × String × FieldType} {v : Value} (hKO : KOk tb K) (hw : ∀ d ∈ tb, d.before a0 Z = true) (hK : K[c]? = some (C, n, fs)) (hf : fs[j]? = some f)
    (W : Wr h h' a (RoadKit.slotOf Z f.1 f.2.1 f.2.2.1) (cv Z.heap.size v)) (F : CellOk Z K h a (.inl (c, vs))) : CellOk Z K h' a (.inl (c, vs.set j v)) := by
  obtain ⟨h2, h3, h4⟩ := CellOk.obj hK F
  obtain ⟨k1, k2, k3⟩ := hKO _ (mem_of_get hK)
  refine Or.inr ⟨C, n, fs, hK, by simpa using h2, h3.wr W, fun j' f' v' hf' hv' => ?_⟩
  by_cases e : j' = j
  · subst e
    cases hf.symm.trans hf'
    have hl : j' < vs.length := by rw [h2]; exact (List.getElem?_eq_some_iff.mp hf).1
    rw [List.getElem?_set_self hl] at hv'
    cases hv'
    obtain ⟨w, hw'⟩ : ∃ w, vs[j']? = some w := ⟨vs[j'], List.getElem?_eq_getElem hl⟩
    exact (h4 j' f w hf hw').same W
  · rw [List.getElem?_set_ne (Ne.symm e)] at hv'
    have m1 : f ∈ fs := List.mem_of_getElem? hf
    have m2 : f' ∈ fs := List.mem_of_getElem? hf'
    have hn : f'.2.1 ≠ f.2.1 := fun q => by
      have g1 : (fs.map fun f => f.2.1)[j']? = some f'.2.1 := by simp [hf']
      have g2 : (fs.map fun f => f.2.1)[j]? = some f.2.1 := by simp [hf]
      rw [q] at g1
      obtain ⟨l1, e1⟩ := List.getElem?_eq_some_iff.mp g1
      obtain ⟨l2, e2⟩ := List.getElem?_eq_some_iff.mp g2
      rcases Nat.lt_or_gt_of_ne e with lt | lt
      · exact (List.pairwise_iff_getElem.mp k3) j' j l1 l2 lt (e1.trans e2.symm)
      · exact (List.pairwise_iff_getElem.mp k3) j j' l2 l1 lt (e2.trans e1.symm)
    exact (h4 j' f' v' hf' hv').other W (Or.inr (slot_ne ((k2 f' m2).laid hw) ((k2 f m1).laid hw) hn (k2 f' m2).2 (k2 f m1).2))
theorem CellOk.sto {ty : FieldType} {vs : List Value} {j : Nat} {v : Value} (W : Wr h h' a j (cv Z.heap.size v)) (F : CellOk Z K h a (.inr (ty, vs))) (hv : fits ty v = true) : CellOk Z K h' a (.inr (ty, vs.set j v)) := by
  obtain ⟨cell, h1, h2, h3⟩ := F
  refine ⟨_, h1.same W, ?_, fun w hw => ?_⟩
  · simp [Cell.setSlot, h2, List.map_set]
  · rcases List.mem_or_eq_of_mem_set hw with q | q
    · exact h3 w q
    · exact q ▸ hv
end Heap
section Logic
variable {tb : List Cond} {K : KTab} {μ : Mth} {rm : Room} {pc : Nat} {L : List Slot} {S : List Value} {H : AHeap} {Q Q' : Option Value → AHeap → Prop}
theorem via_of {Z : State} {a0 : Array Value} (hw : ∀ d ∈ tb, d.before a0 Z = true) {R0 O n d : String} (via : R0 = O ∨ Cond.sameField R0 O n d ∈ tb) : Via Z R0 O n d := by
  rcases via with rfl | q
  · exact Via.refl
  · exact Via.of (hw _ q)
theorem W.getF {idx i j c n : Nat} {C R0 host : String} {fs : List (String × String × String × FieldType)} {vs : List Value} {f : String × String × String × FieldType} {v : Value} (hd : decode μ.2.1 pc = .ok (.getfield idx, 3))
    (w : Cond.fieldLink μ.1.cls idx R0 f.2.1 f.2.2.1 ∈ tb ∨ Cond.fieldLinkNest μ.1.cls idx R0 f.2.1 f.2.2.1 host ∈ tb) (via : R0 = f.1 ∨ Cond.sameField R0 f.1 f.2.1 f.2.2.1 ∈ tb) (hK : K[c]? = some (C, n, fs)) (hf : fs[j]? = some f) (hH : H[i]? = some (.inl (c, vs))) (hv : vs[j]? = some v)
    (h : W tb K μ rm (pc + 3) L (v :: S) H Q) : W tb K μ rm pc L (.ref i :: S) H Q := by
  intro hL Z a0 p l e R s m args below meth c' T locs cells slots X
  obtain ⟨X0, hx, hZ, hw, hby, hml, hrt, hnm, hlk, hown, hR, hr⟩ := X
  obtain ⟨k2, k3, k4⟩ := CellOk.obj hK (hR.2 _ _ hH)
  have F := k4 j f v hf hv
  obtain ⟨T1, X1, e1, st⟩ := RoadKit.getF X0 hx hZ hown (w.imp (hw _) (hw _)) (via_of hw via) rfl F (g := mkF m pc (L.map (cs Z.heap.size)).toArray ((Value.ref i :: S).map (cv Z.heap.size))) rfl rfl (hb hby hd)
  exact (h hL Z a0 p l e R s m args below meth c' T1 locs cells slots ⟨X1, hx, hZ, hw, hby, hml, hrt, hnm, hlk, hown, e1 ▸ hR, hr⟩).steps st
theorem W.putF {idx i j c n : Nat} {C R0 host : String} {fs : List (String × String × String × FieldType)} {vs : List Value} {f : String × String × String × FieldType} {v : Value} (hKO : KOk tb K) (hd : decode μ.2.1 pc = .ok (.putfield idx, 3))
    (w : Cond.fieldLink μ.1.cls idx R0 f.2.1 f.2.2.1 ∈ tb ∨ Cond.fieldLinkNest μ.1.cls idx R0 f.2.1 f.2.2.1 host ∈ tb) (via : R0 = f.1 ∨ Cond.sameField R0 f.1 f.2.1 f.2.2.1 ∈ tb) (hK : K[c]? = some (C, n, fs)) (hf : fs[j]? = some f)
    (la : Cond.lays C f.1 f.2.1 f.2.2.1 ∈ tb ∨ (Cond.laysFinal C f.1 f.2.1 f.2.2.1 ∈ tb ∧ μ.1.cls = f.1 ∧ μ.1.name = "<init>")) (hn : narrow f.2.2.2 v = v) (hfi : fits f.2.2.2 v = true) (hH : H[i]? = some (.inl (c, vs)))
    (h : W tb K μ rm (pc + 3) L S (H.set i (.inl (c, vs.set j v))) Q) : W tb K μ rm pc L (v :: .ref i :: S) H Q := by
  intro hL Z a0 p l e R s m args below meth c' T locs cells slots X
  obtain ⟨X0, hx, hZ, hw, hby, hml, hrt, hnm, hlk, hown, hR, hFr, hr⟩ := X
  obtain ⟨k2, k3, k4⟩ := CellOk.obj hK (hR.2 _ _ hH)
  have hl : j < vs.length := by rw [k2]; exact (List.getElem?_eq_some_iff.mp hf).1
  have F := k4 j f vs[j] hf (List.getElem?_eq_getElem hl)
  obtain ⟨o1, o2, o3⟩ := hKO _ (mem_of_get hK)
  obtain ⟨T1, h1, X1, e1, W1, st⟩ := RoadKit.putF X0 hx hZ hown (w.imp (hw _) (hw _)) (via_of hw via) rfl F k3 (la.imp (hw _) fun q => ⟨hw _ q.1, q.2.1, hnm.trans q.2.2⟩) (hw _ o1) (o2 f (List.mem_of_getElem? hf)).2 (v := cv Z.heap.size v) (by rw [cv_narrow, hn]) (by rw [cv_fits]; exact hfi) (g := mkF m pc (L.map (cs Z.heap.size)).toArray ((v :: Value.ref i :: S).map (cv Z.heap.size))) rfl rfl (hb hby hd)
  exact (h hL Z a0 p l e R s m args below meth c' T1 _ cells slots ⟨X1, hx, hZ, hw, hby, hml, hrt, hnm, hlk, hown, e1 ▸ hR.set W1 (CellOk.put (i := i) hKO hw hK hf W1 (hR.2 _ _ hH)), Fr.snoc X1 hFr (Nat.le_add_right _ _), hr⟩).steps st
/-- a field of a boolean, byte, char or short -/
theorem W.putFN {idx i j c n : Nat} {C R0 : String} {fs : List (String × String × String × FieldType)} {vs : List Value} {f : String × String × String × FieldType} {v v' : Value} (hKO : KOk tb K) (hd : decode μ.2.1 pc = .ok (.putfield idx, 3))
    (w : Cond.fieldLink μ.1.cls idx R0 f.2.1 f.2.2.1 ∈ tb) (via : R0 = f.1 ∨ Cond.sameField R0 f.1 f.2.1 f.2.2.1 ∈ tb) (hK : K[c]? = some (C, n, fs)) (hf : fs[j]? = some f)
    (la : Cond.lays C f.1 f.2.1 f.2.2.1 ∈ tb ∨ (Cond.laysFinal C f.1 f.2.1 f.2.2.1 ∈ tb ∧ μ.1.cls = f.1 ∧ μ.1.name = "<init>")) (hn : narrow f.2.2.2 v = v') (hfi : fits f.2.2.2 v' = true) (hH : H[i]? = some (.inl (c, vs)))
    (h : W tb K μ rm (pc + 3) L S (H.set i (.inl (c, vs.set j v'))) Q) : W tb K μ rm pc L (v :: .ref i :: S) H Q := by
  intro hL Z a0 p l e R s m args below meth c' T locs cells slots X
  obtain ⟨X0, hx, hZ, hw, hby, hml, hrt, hnm, hlk, hown, hR, hFr, hr⟩ := X
  obtain ⟨k2, k3, k4⟩ := CellOk.obj hK (hR.2 _ _ hH)
  have hl : j < vs.length := by rw [k2]; exact (List.getElem?_eq_some_iff.mp hf).1
  have F := k4 j f vs[j] hf (List.getElem?_eq_getElem hl)
  obtain ⟨o1, o2, o3⟩ := hKO _ (mem_of_get hK)
  obtain ⟨T1, h1, X1, e1, W1, st⟩ := RoadKit.putFN X0 hx hZ hown (hw _ w) (via_of hw via) rfl F k3 (la.imp (hw _) fun q => ⟨hw _ q.1, q.2.1, hnm.trans q.2.2⟩) (hw _ o1) (o2 f (List.mem_of_getElem? hf)).2 (v := cv Z.heap.size v) (v' := cv Z.heap.size v') (by rw [cv_narrow, hn]) (by rw [cv_fits]; exact hfi) (g := mkF m pc (L.map (cs Z.heap.size)).toArray ((v :: Value.ref i :: S).map (cv Z.heap.size))) rfl rfl (hb hby hd)
  exact (h hL Z a0 p l e R s m args below meth c' T1 _ cells slots ⟨X1, hx, hZ, hw, hby, hml, hrt, hnm, hlk, hown, e1 ▸ hR.set W1 (CellOk.put (i := i) hKO hw hK hf W1 (hR.2 _ _ hH)), Fr.snoc X1 hFr (Nat.le_add_right _ _), hr⟩).steps st
/-- the index j is the natural N -/
abbrev ix (j : Int32) (N : Nat) : Prop := ¬ j < 0 ∧ j.toNatClampNeg = N
theorem ix_ofNat {N : Nat} (h : N < 2 ^ 31) : ix (Int32.ofNat N) N := by
  have e : (Int32.ofNat N).toInt = N := Int32.toInt_ofNat_of_lt h
  refine ⟨?_, ?_⟩
  · rw [Int32.lt_iff_toInt_lt, e]; simp
  · rw [Int32.toNatClampNeg, e]; rfl
theorem inb {cell : Cell} {j : Int32} {N : Nat} {vs : List Value} {k : Nat} (k2 : cell.slots = (vs.map (cv k)).toArray) (hj : ¬ j < 0) (hN : j.toNatClampNeg = N) (hl : N < vs.length) : ¬ (j < 0 ∨ cell.slots.size ≤ j.toNatClampNeg) := by
  rw [k2, hN]; simp; exact ⟨by simpa using hj, hl⟩
/-- room for an object of n slots -/
def nok (rm : Room) (n : Nat) : Bool := Nat.ble 1 rm.cells && (Nat.ble n rm.slots && Nat.ble n 67108864)
theorem nok_spec {rm : Room} {n : Nat} (h : nok rm n = true) : 1 ≤ rm.cells ∧ n ≤ rm.slots ∧ n * 8 ≤ 536870912 := by
  simp only [nok, Bool.and_eq_true, Nat.ble_eq] at h
  omega
theorem W.new {idx c n i : Nat} {C : String} {fs : List (String × String × String × FieldType)} (hKO : KOk tb K) (hd : decode μ.2.1 pc = .ok (.new idx, 3)) (w : Cond.classLink μ.1.cls idx C ∈ tb) (wz : Cond.initialized C ∈ tb) (hK : K[c]? = some (C, n, fs)) (hi : H.length = i) (hr : nok rm n = true)
    (h : W tb K μ ⟨rm.frames, rm.cells - 1, rm.slots - n, rm.locals⟩ (pc + 3) L (.ref i :: S) (H ++ [.inl (c, fs.map fun f => defaultValue f.2.2.2)]) Q) : W tb K μ rm pc L S H Q := by
  intro hL Z a0 p l e R s m args below meth c' T locs cells slots X
  obtain ⟨X0, hx, hZ, hw, hby, hml, hrt, hnm, hlk, hown, hR, hFr, hr1, hr2, hr3, hr4⟩ := X
  obtain ⟨hc, hs, hb'⟩ := nok_spec hr
  obtain ⟨o1, o2, o3⟩ := hKO _ (mem_of_get hK)
  obtain ⟨vm', cC, kC, h1, h2, h3, h4, X', st⟩ := X0.newCold hx hown (mv hZ (hw _ w)) (mv hZ (hw _ (show Cond.instantiable C n ∈ tb from o1))) (mv hZ (hw _ wz)) (g := mkF m pc (L.map (cs Z.heap.size)).toArray (S.map (cv Z.heap.size))) rfl (hb hby hd) (by omega) (by omega)
  rw [hZ.alike.findClass] at h1
  obtain ⟨kZ, z1, -⟩ := Vm.findClass_spec h1
  obtain ⟨k', z2, z3⟩ := hZ.alike.2.2 _ _ z1
  cases h2.symm.trans z2
  have ei : kC.instanceTypes = kZ.instanceTypes := by rw [z3]
  have hN : (T.heap.push { cls := cC, slots := kC.instanceTypes.map defaultValue, vm := .none })[T.heap.size]? = some { cls := cC, slots := kC.instanceTypes.map defaultValue, vm := .none } := by simp
  have ea : Z.heap.size + i = T.heap.size := by rw [hR.1, hi]
  have CO : CellOk Z K (T.heap.push { cls := cC, slots := kC.instanceTypes.map defaultValue, vm := .none }) (Z.heap.size + H.length) (.inl (c, fs.map fun f => defaultValue f.2.2.2)) := by
    refine Or.inr ⟨C, n, fs, hK, by simp, ⟨_, kZ, by rw [← hR.1]; exact hN, h1, z1, rfl, fun _ => by simp [ei]⟩, fun j f v hf hv => ?_⟩
    have hv' : v = defaultValue f.2.2.2 := by simpa [hf] using hv.symm
    subst hv'
    obtain ⟨f1, f2⟩ := o2 f (List.mem_of_getElem? hf)
    obtain ⟨c1, k1, cf, kf, i1, ff, b1, b2, b3, b4, b5, b6, -⟩ := (FOk.laid ⟨f1, f2⟩ hw).spec
    cases h1.symm.trans b1
    cases z1.symm.trans b2
    rw [cv_default]
    exact ⟨_, cf, kf, i1, ff, by rw [← hR.1]; exact hN, b3, b4, by simp, rfl, b5, by simp [ei, b6, (State.fieldFound?_type b3 f2).2]⟩
  have := h hL Z a0 p l e R s m args below meth c' _ locs (cells + 1) (slots + n) ⟨X', hx, hZ, hw, hby, hml, hrt, hnm, hlk, hown, hR.push CO, hFr, hr1, by show cells + 1 + (rm.cells - 1) ≤ _; omega, by show slots + n + (rm.slots - n) ≤ _; omega, hr4⟩
  refine this.steps fun t ht => st t ?_
  rw [← ea]; exact ht
theorem W.newarray {aty : ArrayType} {ty : FieldType} {N i : Nat} {n : Int32} {d : Value} (hd : decode μ.2.1 pc = .ok (.newarray aty, 2)) (hty : newarray.typeOf aty = ty) (w : Cond.arrayClass ty ∈ tb) (hdv : defaultValue ty = d) (hn : ix n N) (hi : H.length = i) (hr : nok rm N = true)
    (h : W tb K μ ⟨rm.frames, rm.cells - 1, rm.slots - N, rm.locals⟩ (pc + 2) L (.ref i :: S) (H ++ [.inr (ty, List.replicate N d)]) Q) : W tb K μ rm pc L (.int n :: S) H Q := by
  intro hL Z a0 p l e R s m args below meth c' T locs cells slots X
  obtain ⟨X0, hx, hZ, hw, hby, hml, hrt, hnm, hlk, hown, hR, hFr, hr1, hr2, hr3, hr4⟩ := X
  obtain ⟨hn, hN⟩ := hn
  subst hty hdv hN
  obtain ⟨hc, hs, hb'⟩ := nok_spec hr
  have hcb : componentBytes (newarray.typeOf aty) ≤ 8 := by cases aty <;> decide
  obtain ⟨cA, kA, comp, h1, h2, h3, X', st⟩ := X0.newarrayPrim hx (mvA hZ (hw _ w)) (g := mkF m pc (L.map (cs Z.heap.size)).toArray ((Value.int n :: S).map (cv Z.heap.size))) rfl (hb hby hd) (n := n) rfl hn (Nat.le_trans (Nat.mul_le_mul (Nat.le_refl _) hcb) hb') (by omega) (by omega)
  rw [hZ.alike.findClass] at h1
  obtain ⟨kZ, z1, -⟩ := Vm.findClass_spec h1
  obtain ⟨k', z2, z3⟩ := hZ.alike.2.2 _ _ z1
  cases h2.symm.trans z2
  have hN : (T.heap.push { cls := cA, slots := Array.replicate n.toNatClampNeg (defaultValue (newarray.typeOf aty)), vm := .none })[T.heap.size]? = some { cls := cA, slots := Array.replicate n.toNatClampNeg (defaultValue (newarray.typeOf aty)), vm := .none } := by simp
  have ea : Z.heap.size + i = T.heap.size := by rw [hR.1, hi]
  have CO : CellOk Z K (T.heap.push { cls := cA, slots := Array.replicate n.toNatClampNeg (defaultValue (newarray.typeOf aty)), vm := .none }) (Z.heap.size + H.length) (.inr (newarray.typeOf aty, List.replicate n.toNatClampNeg (defaultValue (newarray.typeOf aty)))) := by
    refine ⟨_, ⟨by rw [← hR.1]; exact hN, ⟨by simp, kZ, z1, comp, by rw [← h3, z3]⟩, by simp⟩, by simp [cv_default], fun v hv => ?_⟩
    rw [(List.mem_replicate.mp hv).2]
    cases aty <;> rfl
  have := h hL Z a0 p l e R s m args below meth c' _ locs (cells + 1) (slots + n.toNatClampNeg) ⟨X', hx, hZ, hw, hby, hml, hrt, hnm, hlk, hown, hR.push CO, hFr, hr1, by show cells + 1 + (rm.cells - 1) ≤ _; omega, by show slots + n.toNatClampNeg + (rm.slots - n.toNatClampNeg) ≤ _; omega, hr4⟩
  refine this.steps fun t ht => st t ?_
  rw [← ea]; exact ht
theorem W.arraylength {i : Nat} {ty : FieldType} {vs : List Value} (hd : decode μ.2.1 pc = .ok (.arraylength, 1)) (hH : H[i]? = some (.inr (ty, vs))) (h : W tb K μ rm (pc + 1) L (.int (Int32.ofNat vs.length) :: S) H Q) : W tb K μ rm pc L (.ref i :: S) H Q := by
  intro hL Z a0 p l e R s m args below meth c' T locs cells slots X
  have X' := X
  obtain ⟨X0, hx, hZ, hw, hby, hml, hrt, hnm, hlk, hown, hR, hr⟩ := X
  obtain ⟨cell, A, k2, k3⟩ := hR.2 _ _ hH
  refine (h hL Z a0 p l e R s m args below meth c' T locs cells slots X').steps fun t ht => ?_
  refine X0.arraylength hx A.1 (State.isArrayOf_alike hZ.alike A.2.1) (g := mkF m pc (L.map (cs Z.heap.size)).toArray ((Value.ref i :: S).map (cv Z.heap.size))) rfl rfl (hb hby hd) t ?_
  have e : cell.slots.size.toInt32 = Int32.ofNat vs.length := by rw [k2]; simp
  rw [e]; exact ht
theorem W.xaload {ins : Instr} {ty : FieldType} (hk : (ins = .iaload ∧ ty = .int) ∨ (ins = .laload ∧ ty = .long) ∨ (ins = .baload ∧ (ty = .byte ∨ ty = .boolean))) {i N : Nat} {j : Int32} {vs : List Value} {v : Value} (hd : decode μ.2.1 pc = .ok (ins, 1)) (hH : H[i]? = some (.inr (ty, vs))) (hj : ix j N) (hv : vs[N]? = some v)
    (h : W tb K μ rm (pc + 1) L (v :: S) H Q) : W tb K μ rm pc L (.int j :: .ref i :: S) H Q := by
  intro hL Z a0 p l e R s m args below meth c' T locs cells slots X
  have X' := X
  obtain ⟨X0, hx, hZ, hw, hby, hml, hrt, hnm, hlk, hown, hR, hr⟩ := X
  obtain ⟨cell, A, k2, k3⟩ := hR.2 _ _ hH
  have hN := hj.2
  have hin := inb k2 hj.1 hN (List.getElem?_eq_some_iff.mp hv).1
  have hv' : cell.slots[j.toNatClampNeg]? = some (cv Z.heap.size v) := by rw [k2, hN]; simp [hv]
  refine (h hL Z a0 p l e R s m args below meth c' T locs cells slots X').steps fun t ht => ?_
  rcases hk with ⟨rfl, rfl⟩ | ⟨rfl, rfl⟩ | ⟨rfl, rfl | rfl⟩
  · exact X0.iaload hx A.1 (State.isArrayOf_alike hZ.alike A.2.1) A.2.2 hin hv' (g := mkF m pc (L.map (cs Z.heap.size)).toArray ((Value.int j :: Value.ref i :: S).map (cv Z.heap.size))) rfl rfl (hb hby hd) t ht
  · exact X0.laload hx A.1 (State.isArrayOf_alike hZ.alike A.2.1) A.2.2 hin hv' (g := mkF m pc (L.map (cs Z.heap.size)).toArray ((Value.int j :: Value.ref i :: S).map (cv Z.heap.size))) rfl rfl (hb hby hd) t ht
  · exact X0.baloadBytes hx A.1 (State.isArrayOf_alike hZ.alike A.2.1) A.2.2 hin hv' (g := mkF m pc (L.map (cs Z.heap.size)).toArray ((Value.int j :: Value.ref i :: S).map (cv Z.heap.size))) rfl rfl (hb hby hd) t ht
  · exact X0.baloadBooleans hx A.1 (State.isArrayOf_alike hZ.alike A.2.1) A.2.2 hin hv' (g := mkF m pc (L.map (cs Z.heap.size)).toArray ((Value.int j :: Value.ref i :: S).map (cv Z.heap.size))) rfl rfl (hb hby hd) t ht
theorem W.iastore {i N : Nat} {j x : Int32} {vs : List Value} (hd : decode μ.2.1 pc = .ok (.iastore, 1)) (hH : H[i]? = some (.inr (.int, vs))) (hj : ix j N) (hl : Nat.blt N vs.length = true)
    (h : W tb K μ rm (pc + 1) L S (H.set i (.inr (.int, vs.set N (.int x)))) Q) : W tb K μ rm pc L (.int x :: .int j :: .ref i :: S) H Q := by
  intro hL Z a0 p l e R s m args below meth c' T locs cells slots X
  obtain ⟨X0, hx, hZ, hw, hby, hml, hrt, hnm, hlk, hown, hR, hFr, hr⟩ := X
  have CO := hR.2 _ _ hH
  obtain ⟨cell, A, k2, k3⟩ := CO
  obtain ⟨T1, h1, X1, e1, W1, st⟩ := stI X0 hx hZ rfl A (inb k2 hj.1 hj.2 (Nat.blt_eq.mp hl)) (g := mkF m pc (L.map (cs Z.heap.size)).toArray ((Value.int x :: Value.int j :: Value.ref i :: S).map (cv Z.heap.size))) rfl rfl (hb hby hd)
  rw [hj.2] at W1
  exact (h hL Z a0 p l e R s m args below meth c' T1 _ cells slots ⟨X1, hx, hZ, hw, hby, hml, hrt, hnm, hlk, hown, e1 ▸ hR.set W1 (CellOk.sto (v := .int x) W1 (hR.2 _ _ hH) rfl), Fr.snoc X1 hFr (Nat.le_add_right _ _), hr⟩).steps st
theorem W.lastore {i N : Nat} {j : Int32} {x : Int64} {vs : List Value} (hd : decode μ.2.1 pc = .ok (.lastore, 1)) (hH : H[i]? = some (.inr (.long, vs))) (hj : ix j N) (hl : Nat.blt N vs.length = true)
    (h : W tb K μ rm (pc + 1) L S (H.set i (.inr (.long, vs.set N (.long x)))) Q) : W tb K μ rm pc L (.long x :: .int j :: .ref i :: S) H Q := by
  intro hL Z a0 p l e R s m args below meth c' T locs cells slots X
  obtain ⟨X0, hx, hZ, hw, hby, hml, hrt, hnm, hlk, hown, hR, hFr, hr⟩ := X
  have CO := hR.2 _ _ hH
  obtain ⟨cell, A, k2, k3⟩ := CO
  obtain ⟨T1, h1, X1, e1, W1, st⟩ := stJ X0 hx hZ rfl A (inb k2 hj.1 hj.2 (Nat.blt_eq.mp hl)) (g := mkF m pc (L.map (cs Z.heap.size)).toArray ((Value.long x :: Value.int j :: Value.ref i :: S).map (cv Z.heap.size))) rfl rfl (hb hby hd)
  rw [hj.2] at W1
  exact (h hL Z a0 p l e R s m args below meth c' T1 _ cells slots ⟨X1, hx, hZ, hw, hby, hml, hrt, hnm, hlk, hown, e1 ▸ hR.set W1 (CellOk.sto (v := .long x) W1 (hR.2 _ _ hH) rfl), Fr.snoc X1 hFr (Nat.le_add_right _ _), hr⟩).steps st
theorem W.bastore {i N : Nat} {j x : Int32} {vs : List Value} (hd : decode μ.2.1 pc = .ok (.bastore, 1)) (hH : H[i]? = some (.inr (.byte, vs))) (hj : ix j N) (hl : Nat.blt N vs.length = true)
    (h : W tb K μ rm (pc + 1) L S (H.set i (.inr (.byte, vs.set N (.int x.toInt8.toInt32)))) Q) : W tb K μ rm pc L (.int x :: .int j :: .ref i :: S) H Q := by
  intro hL Z a0 p l e R s m args below meth c' T locs cells slots X
  obtain ⟨X0, hx, hZ, hw, hby, hml, hrt, hnm, hlk, hown, hR, hFr, hr⟩ := X
  have CO := hR.2 _ _ hH
  obtain ⟨cell, A, k2, k3⟩ := CO
  obtain ⟨T1, h1, X1, e1, W1, st⟩ := stB X0 hx hZ rfl A (inb k2 hj.1 hj.2 (Nat.blt_eq.mp hl)) (g := mkF m pc (L.map (cs Z.heap.size)).toArray ((Value.int x :: Value.int j :: Value.ref i :: S).map (cv Z.heap.size))) rfl rfl (hb hby hd)
  rw [hj.2] at W1
  exact (h hL Z a0 p l e R s m args below meth c' T1 _ cells slots ⟨X1, hx, hZ, hw, hby, hml, hrt, hnm, hlk, hown, e1 ▸ hR.set W1 (CellOk.sto (v := .int x.toInt8.toInt32) W1 (hR.2 _ _ hH) (fits_nar_byte x)), Fr.snoc X1 hFr (Nat.le_add_right _ _), hr⟩).steps st
theorem W.bastoreZ {i N : Nat} {j x : Int32} {vs : List Value} (hd : decode μ.2.1 pc = .ok (.bastore, 1)) (hH : H[i]? = some (.inr (.boolean, vs))) (hj : ix j N) (hl : Nat.blt N vs.length = true)
    (h : W tb K μ rm (pc + 1) L S (H.set i (.inr (.boolean, vs.set N (.int (x &&& 1))))) Q) : W tb K μ rm pc L (.int x :: .int j :: .ref i :: S) H Q := by
  intro hL Z a0 p l e R s m args below meth c' T locs cells slots X
  obtain ⟨X0, hx, hZ, hw, hby, hml, hrt, hnm, hlk, hown, hR, hFr, hr⟩ := X
  have CO := hR.2 _ _ hH
  obtain ⟨cell, A, k2, k3⟩ := CO
  obtain ⟨T1, h1, X1, e1, W1, st⟩ := stZ X0 hx hZ rfl A (inb k2 hj.1 hj.2 (Nat.blt_eq.mp hl)) (g := mkF m pc (L.map (cs Z.heap.size)).toArray ((Value.int x :: Value.int j :: Value.ref i :: S).map (cv Z.heap.size))) rfl rfl (hb hby hd)
  rw [hj.2] at W1
  exact (h hL Z a0 p l e R s m args below meth c' T1 _ cells slots ⟨X1, hx, hZ, hw, hby, hml, hrt, hnm, hlk, hown, e1 ▸ hR.set W1 (CellOk.sto (v := .int (x &&& 1)) W1 (hR.2 _ _ hH) (fits_nar_bool x)), Fr.snoc X1 hFr (Nat.le_add_right _ _), hr⟩).steps st
theorem W.ldcInt {idx : Nat} {x : Int32} (hd : decode μ.2.1 pc = .ok (.ldc idx, 2)) (w : Cond.constant μ.1.cls idx x ∈ tb) (h : W tb K μ rm (pc + 2) L (.int x :: S) H Q) : W tb K μ rm pc L S H Q := by
  intro hL Z a0 p l e R s m args below meth c' T locs cells slots X
  have X' := X
  obtain ⟨X0, hx, hZ, hw, hby, hml, hrt, hnm, hlk, hown, hR, hr⟩ := X
  exact (h hL Z a0 p l e R s m args below meth c' T locs cells slots X').steps (X0.ldcInt hx hown (mvT hZ (hw _ w)) (g := mkF m pc (L.map (cs Z.heap.size)).toArray (S.map (cv Z.heap.size))) rfl (hb hby hd))
theorem W.ldcLong {idx : Nat} {x : Int64} (hd : decode μ.2.1 pc = .ok (.ldc2_w idx, 3)) (w : Cond.constantLong μ.1.cls idx x ∈ tb) (h : W tb K μ rm (pc + 3) L (.long x :: S) H Q) : W tb K μ rm pc L S H Q := by
  intro hL Z a0 p l e R s m args below meth c' T locs cells slots X
  have X' := X
  obtain ⟨X0, hx, hZ, hw, hby, hml, hrt, hnm, hlk, hown, hR, hr⟩ := X
  exact (h hL Z a0 p l e R s m args below meth c' T locs cells slots X').steps (X0.ldc2Long hx hown (mvT hZ (hw _ w)) (g := mkF m pc (L.map (cs Z.heap.size)).toArray (S.map (cv Z.heap.size))) rfl (hb hby hd))
end Logic
end Jvm.Own
namespace Jvm.Own
open Sem ClassFile Op Lib Jvm.Stand Jvm.Free Jvm.LawKit Jvm.RoadKit
section Logic
variable {tb : List Cond} {K : KTab} {μ μ' : Mth} {rm rm' : Room} {pc : Nat} {L : List Slot} {S : List Value} {H : AHeap} {Q Q' : Option Value → AHeap → Prop}
theorem W.ret_ (hd : decode μ.2.1 pc = .ok (.return_, 1)) (hr0 : μ.2.2.2 = none) (hQ : Q none H) : W tb K μ rm pc L [] H Q := by
  intro hL Z a0 p l e R s m args below meth c' T locs cells slots X
  obtain ⟨X0, hx, hZ, hw, hby, hml, hrt, hnm, hlk, hown, hR, hFr, hr1, hr2, hr3, hr4⟩ := X
  obtain ⟨fs, hr, hrun, hended, hW, hsame⟩ := X0.leave (v := none) (fun _ => rfl) hlk
  exact ⟨none, H, T, locs, fs, hQ, X0.returnOut hx (hrt.trans hr0) (hb hby hd) hr, hrun, hended, hW, hsame.mono (by omega) (by omega), hFr, hR⟩
theorem W.ireturn {x : Int32} (hd : decode μ.2.1 pc = .ok (.ireturn, 1)) (hr0 : μ.2.2.2 = some .int) (hQ : Q (some (.int x)) H) : W tb K μ rm pc L (.int x :: S) H Q := by
  intro hL Z a0 p l e R s m args below meth c' T locs cells slots X
  obtain ⟨X0, hx, hZ, hw, hby, hml, hrt, hnm, hlk, hown, hR, hFr, hr1, hr2, hr3, hr4⟩ := X
  obtain ⟨fs, hr, hrun, hended, hW, hsame⟩ := X0.leave (v := some (.int x)) (fun h => by rw [hrt, hr0] at h; cases h) hlk
  exact ⟨some (.int x), H, T, locs, fs, hQ, retOut X0 hx (hrt.trans hr0) rfl (Or.inl ⟨rfl, Or.inl rfl, _, rfl⟩) (hb hby hd) hr, hrun, hended, hW, hsame.mono (by omega) (by omega), hFr, hR⟩
theorem W.ireturnN {t : FieldType} {x : Int32} (hd : decode μ.2.1 pc = .ok (.ireturn, 1)) (hr0 : μ.2.2.2 = some t) (ht : t = .boolean ∨ t = .byte ∨ t = .char ∨ t = .short) (hQ : Q (some (.int (nar t x))) H) : W tb K μ rm pc L (.int x :: S) H Q := by
  intro hL Z a0 p l e R s m args below meth c' T locs cells slots X
  obtain ⟨X0, hx, hZ, hw, hby, hml, hrt, hnm, hlk, hown, hR, hFr, hr1, hr2, hr3, hr4⟩ := X
  obtain ⟨fs, hr, hrun, hended, hW, hsame⟩ := X0.leave (v := some (.int (nar t x))) (fun h => by rw [hrt, hr0] at h; cases h) hlk
  exact ⟨some (.int (nar t x)), H, T, locs, fs, hQ, retN X0 hx (hrt.trans hr0) ht (hb hby hd) hr, hrun, hended, hW, hsame.mono (by omega) (by omega), hFr, hR⟩
theorem W.ireturnZ {x : Int32} (hd : decode μ.2.1 pc = .ok (.ireturn, 1)) (hr0 : μ.2.2.2 = some .boolean) (hQ : Q (some (.int (x &&& 1))) H) : W tb K μ rm pc L (.int x :: S) H Q := W.ireturnN hd hr0 (Or.inl rfl) hQ
theorem W.lreturn {x : Int64} (hd : decode μ.2.1 pc = .ok (.lreturn, 1)) (hr0 : μ.2.2.2 = some .long) (hQ : Q (some (.long x)) H) : W tb K μ rm pc L (.long x :: S) H Q := by
  intro hL Z a0 p l e R s m args below meth c' T locs cells slots X
  obtain ⟨X0, hx, hZ, hw, hby, hml, hrt, hnm, hlk, hown, hR, hFr, hr1, hr2, hr3, hr4⟩ := X
  obtain ⟨fs, hr, hrun, hended, hW, hsame⟩ := X0.leave (v := some (.long x)) (fun h => by rw [hrt, hr0] at h; cases h) hlk
  exact ⟨some (.long x), H, T, locs, fs, hQ, retOut X0 hx (hrt.trans hr0) rfl (Or.inr (Or.inl ⟨rfl, rfl, _, rfl⟩)) (hb hby hd) hr, hrun, hended, hW, hsame.mono (by omega) (by omega), hFr, hR⟩
theorem W.areturn {t : FieldType} {v : Value} (hd : decode μ.2.1 pc = .ok (.areturn, 1)) (hr0 : μ.2.2.2 = some t) (ht : t.isReference = true) (hv : v.isRef = true) (hQ : Q (some v) H) : W tb K μ rm pc L (v :: S) H Q := by
  intro hL Z a0 p l e R s m args below meth c' T locs cells slots X
  obtain ⟨X0, hx, hZ, hw, hby, hml, hrt, hnm, hlk, hown, hR, hFr, hr1, hr2, hr3, hr4⟩ := X
  obtain ⟨fs, hr, hrun, hended, hW, hsame⟩ := X0.leave (v := some (cv Z.heap.size v)) (fun h => by rw [hrt, hr0] at h; cases h) hlk
  exact ⟨some v, H, T, locs, fs, hQ, retOut X0 hx (hrt.trans hr0) (by cases v <;> first | (cases t <;> rfl) | cases hv) (Or.inr (Or.inr (Or.inr (Or.inr ⟨rfl, ht, by rw [cv_isRef]; exact hv⟩)))) (hb hby hd) hr, hrun, hended, hW, hsame.mono (by omega) (by omega), hFr, hR⟩
/-- what a call leaves of the room -/
abbrev less (rm rm' : Room) : Room := ⟨rm.frames, rm.cells - rm'.cells, rm.slots - rm'.slots, rm.locals⟩
abbrev wt (S : List Value) : Nat := (S.map fun v => v.category).sum
abbrev plainCls (μ' : Mth) : Prop := μ'.1.cls ≠ "java/lang/invoke/MethodHandle" ∧ μ'.1.cls ≠ "java/lang/invoke/VarHandle"
/-- room for a call: S stays on the stack, n locals -/
def rok (rm rm' : Room) (n : Nat) (S : List Value) : Bool := Nat.ble (rm'.frames + 1) rm.frames && (Nat.ble (wt S + (n + 11) + rm'.locals) rm.locals && (Nat.ble rm'.cells rm.cells && Nat.ble rm'.slots rm.slots))
theorem rok_spec {rm rm' : Room} {n : Nat} {S : List Value} (h : rok rm rm' n S = true) : rm'.frames + 1 ≤ rm.frames ∧ wt S + (n + 11) + rm'.locals ≤ rm.locals ∧ rm'.cells ≤ rm.cells ∧ rm'.slots ≤ rm.slots := by
  simp only [rok, Bool.and_eq_true, Nat.ble_eq] at h
  exact h
/-- room for Object's constructor -/
def iok (rm : Room) (S : List Value) : Bool := Nat.ble 1 rm.frames && Nat.ble (wt S + 12) rm.locals
/-- a callee that answers one value and leaves one heap -/
abbrev Is (v0 : Option Value) (H0 : AHeap) : Option Value → AHeap → Prop := fun v H => v = v0 ∧ H = H0
theorem hs {H : AHeap} {i : Nat} {c c' : ACell} (h : H[i]? = some c) : (H.set i c')[i]? = some c' := List.getElem?_set_self (List.getElem?_eq_some_iff.mp h).1
theorem hn {H : AHeap} {i j : Nat} {c c' : ACell} (h : H[j]? = some c) (ne : i ≠ j) : (H.set i c')[j]? = some c := by rw [List.getElem?_set_ne ne]; exact h
theorem ha {H H' : AHeap} {j : Nat} {c : ACell} (h : H[j]? = some c) : (H ++ H')[j]? = some c := by rw [List.getElem?_append_left (List.getElem?_eq_some_iff.mp h).1]; exact h
theorem back_st (k : Nat) (v : Option Value) (S : List Value) : (v.map (cv k)).toList ++ S.map (cv k) = (v.toList ++ S).map (cv k) := by cases v <;> rfl
theorem W.callS {idx : Nat} {as : List Value} {S0 : List Value} {ps : List FieldType} {r : Option FieldType} (hd : decode μ.2.1 pc = .ok (.invokestatic idx, 3)) (w1 : Cond.methodLink μ.1.cls idx μ'.1 ∈ tb) (w2 : Cond.static μ'.1 ∈ tb) (w3 : Cond.initialized μ'.1.cls ∈ tb) (w4 : Cond.code μ'.1 μ'.2.1 μ'.2.2.1 μ'.2.2.2 ∈ tb) (hy : plainCls μ')
    (hp : parseMethodDescriptor μ'.1.desc = some ⟨ps, r⟩) (hlen : as.length = ps.length) (hS : S0 = as.reverse ++ S) (hM : M tb K μ' rm' as H Q') (hr : rok rm rm' μ'.2.2.1 S = true)
    (h : ∀ v H', Q' v H' → W tb K μ (less rm rm') (pc + 3) L (v.toList ++ S) H' Q) : W tb K μ rm pc L S0 H Q := by
  intro hL Z a0 p l e R s m args below meth c' T locs cells slots X
  obtain ⟨X0, hx, hZ, hw, hby, hml, hrt, hnm, hlk, hown, hR, hFr, hr1, hr2, hr3, hr4⟩ := X
  obtain ⟨hf, hl, hc, hs⟩ := rok_spec hr
  obtain ⟨_, vm1, ⟨T1, L1, k1, n1⟩, hW1, X1, ⟨Lc, ⟨v', H', rfl, hR', hq', hFr'⟩, l1, y1, z1⟩, st⟩ := Jvm.LawKit.callS X0 hx (y := μ'.1) hown (mvT hZ (hw _ w1)) (mvT hZ (hw _ w2)) (mvT hZ (hw _ w3)) (mvT hZ (hw _ w4)) hy (backOf (R := R) (rm := rm') (h := T.heap) (Q := fun v h L => ∃ v' H', v = Option.map (cv Z.heap.size) v' ∧ Rel Z K h H' ∧ Q' v' H' ∧ Fr Z.heap.size L) (W := wt S) (hM Z a0 hw l T.heap [] hR) hZ (hw _ w4) (hw _ w3) (by omega) (by omega))
    (g := mkF m pc (L.map (cs Z.heap.size)).toArray (S0.map (cv Z.heap.size))) rfl (by simp [hL, hml]) (argsL := as.map (cv Z.heap.size)) (rest := S.map (cv Z.heap.size)) (lenOf hp (by simpa using hlen)) (by rw [hS]; simp) (by show 2 * 0 + _ ≤ _; rw [cat_map]; exact Nat.le_of_eq (by simp)) (hb hby hd) (fun _ _ => ⟨rfl, rfl, by show cells + _ ≤ _; omega, by show slots + _ ≤ _; omega⟩)
  dsimp only [Pt.U, Pt.locs, Pt.cells, Pt.slots] at X1 l1 y1 z1 st hR'
  subst l1 y1 z1
  rw [back_st] at st
  exact (h v' H' hq' hL Z a0 p l e R s m args below meth c' T1 _ _ _ ⟨X1, hx, hZ, hw, hby, hml, hrt, hnm, hlk, hown, hR', Fr.app hFr hFr', hr1, by show cells + _ + (rm.cells - _) ≤ _; omega, by show slots + _ + (rm.slots - _) ≤ _; omega, hr4⟩).steps st
theorem W.callI {idx i : Nat} {as : List Value} {S0 : List Value} {ps : List FieldType} {r : Option FieldType} (hd : decode μ.2.1 pc = .ok (.invokespecial idx, 3)) (hn : μ'.1.name = "<init>") (hr0 : μ'.2.2.2 = none) (w1 : Cond.methodLink μ.1.cls idx μ'.1 ∈ tb) (w2 : Cond.instanceMethod μ'.1 ∈ tb) (w3 : Cond.initialized μ'.1.cls ∈ tb) (w4 : Cond.code μ'.1 μ'.2.1 μ'.2.2.1 μ'.2.2.2 ∈ tb) (hy : plainCls μ')
    (hp : parseMethodDescriptor μ'.1.desc = some ⟨ps, r⟩) (hlen : as.length = ps.length) (hS : S0 = as.reverse ++ .ref i :: S) (hM : M tb K μ' rm' (.ref i :: as) H Q') (hr : rok rm rm' μ'.2.2.1 S = true)
    (h : ∀ v H', Q' v H' → W tb K μ (less rm rm') (pc + 3) L (v.toList ++ S) H' Q) : W tb K μ rm pc L S0 H Q := by
  intro hL Z a0 p l e R s m args below meth c' T locs cells slots X
  obtain ⟨X0, hx, hZ, hw, hby, hml, hrt, hnm, hlk, hown, hR, hFr, hr1, hr2, hr3, hr4⟩ := X
  obtain ⟨hf, hl, hc, hs⟩ := rok_spec hr
  have w4' : (Cond.code μ'.1 μ'.2.1 μ'.2.2.1 none).before a0 Z = true := by have q := hw _ w4; rw [hr0] at q; exact q
  obtain ⟨_, vm1, ⟨T1, L1, k1, n1⟩, hW1, X1, ⟨Lc, ⟨v', H', rfl, hR', hq', hFr'⟩, l1, y1, z1⟩, st⟩ := X0.specialBack hx (y := μ'.1) hn hown (mvT hZ (hw _ w1)) (mvT hZ (hw _ w2)) (mvT hZ w4') hy (backOf (R := R) (rm := rm') (h := T.heap) (Q := fun v h L => ∃ v' H', v = Option.map (cv Z.heap.size) v' ∧ Rel Z K h H' ∧ Q' v' H' ∧ Fr Z.heap.size L) (W := wt S) (hM Z a0 hw l T.heap [] hR) hZ (hw _ w4) (hw _ w3) (by omega) (by omega))
    (g := mkF m pc (L.map (cs Z.heap.size)).toArray (S0.map (cv Z.heap.size))) rfl (by simp [hL, hml]) (Steps.refl _) (a := Z.heap.size + i) (argsL := as.map (cv Z.heap.size)) (rest := S.map (cv Z.heap.size)) (lenOf hp (by simpa using hlen)) (by rw [hS]; simp [cv]) (by show 2 * 0 + _ ≤ _; rw [cat_map]; exact Nat.le_of_eq (by simp)) (hb hby hd) (fun _ _ => ⟨rfl, rfl, by show cells + _ ≤ _; omega, by show slots + _ ≤ _; omega⟩)
  dsimp only [Pt.U, Pt.locs, Pt.cells, Pt.slots] at X1 l1 y1 z1 st hR'
  subst l1 y1 z1
  rw [back_st] at st
  exact (h v' H' hq' hL Z a0 p l e R s m args below meth c' T1 _ _ _ ⟨X1, hx, hZ, hw, hby, hml, hrt, hnm, hlk, hown, hR', Fr.app hFr hFr', hr1, by show cells + _ + (rm.cells - _) ≤ _; omega, by show slots + _ + (rm.slots - _) ≤ _; omega, hr4⟩).steps (fun t ht => st.trans ht)
/-- .. of a nest mate -/
theorem W.callIN {host : String} {idx i : Nat} {as : List Value} {S0 : List Value} {ps : List FieldType} {r : Option FieldType} (hd : decode μ.2.1 pc = .ok (.invokespecial idx, 3)) (hn : μ'.1.name = "<init>") (hr0 : μ'.2.2.2 = none) (w1 : Cond.methodLinkNest μ.1.cls idx μ'.1 host ∈ tb) (w2 : Cond.instanceMethod μ'.1 ∈ tb) (w3 : Cond.initialized μ'.1.cls ∈ tb) (w4 : Cond.code μ'.1 μ'.2.1 μ'.2.2.1 μ'.2.2.2 ∈ tb) (hy : plainCls μ')
    (hp : parseMethodDescriptor μ'.1.desc = some ⟨ps, r⟩) (hlen : as.length = ps.length) (hS : S0 = as.reverse ++ .ref i :: S) (hM : M tb K μ' rm' (.ref i :: as) H Q') (hr : rok rm rm' μ'.2.2.1 S = true)
    (h : ∀ v H', Q' v H' → W tb K μ (less rm rm') (pc + 3) L (v.toList ++ S) H' Q) : W tb K μ rm pc L S0 H Q := by
  intro hL Z a0 p l e R s m args below meth c' T locs cells slots X
  obtain ⟨X0, hx, hZ, hw, hby, hml, hrt, hnm, hlk, hown, hR, hFr, hr1, hr2, hr3, hr4⟩ := X
  obtain ⟨hf, hl, hc, hs⟩ := rok_spec hr
  have w4' : (Cond.code μ'.1 μ'.2.1 μ'.2.2.1 none).before a0 Z = true := by have q := hw _ w4; rw [hr0] at q; exact q
  obtain ⟨_, vm1, ⟨T1, L1, k1, n1⟩, hW1, X1, ⟨Lc, ⟨v', H', rfl, hR', hq', hFr'⟩, l1, y1, z1⟩, st⟩ := X0.specialBackNest hx (y := μ'.1) hn hown (Cond.methodLinkNest_wide hZ (hw _ w1) :) (mvT hZ (hw _ w2)) (mvT hZ w4') hy (backOf (R := R) (rm := rm') (h := T.heap) (Q := fun v h L => ∃ v' H', v = Option.map (cv Z.heap.size) v' ∧ Rel Z K h H' ∧ Q' v' H' ∧ Fr Z.heap.size L) (W := wt S) (hM Z a0 hw l T.heap [] hR) hZ (hw _ w4) (hw _ w3) (by omega) (by omega))
    (g := mkF m pc (L.map (cs Z.heap.size)).toArray (S0.map (cv Z.heap.size))) rfl (by simp [hL, hml]) (Steps.refl _) (a := Z.heap.size + i) (argsL := as.map (cv Z.heap.size)) (rest := S.map (cv Z.heap.size)) (lenOf hp (by simpa using hlen)) (by rw [hS]; simp [cv]) (by show 2 * 0 + _ ≤ _; rw [cat_map]; exact Nat.le_of_eq (by simp)) (hb hby hd) (fun _ _ => ⟨rfl, rfl, by show cells + _ ≤ _; omega, by show slots + _ ≤ _; omega⟩)
  dsimp only [Pt.U, Pt.locs, Pt.cells, Pt.slots] at X1 l1 y1 z1 st hR'
  subst l1 y1 z1
  rw [back_st] at st
  exact (h v' H' hq' hL Z a0 p l e R s m args below meth c' T1 _ _ _ ⟨X1, hx, hZ, hw, hby, hml, hrt, hnm, hlk, hown, hR', Fr.app hFr hFr', hr1, by show cells + _ + (rm.cells - _) ≤ _; omega, by show slots + _ + (rm.slots - _) ≤ _; omega, hr4⟩).steps (fun t ht => st.trans ht)
/-- the opcode that returns nothing -/
def opReturn : UInt8 := 177
/-- java/lang/Object's constructor -/
theorem W.initO {idx i : Nat} (hd : decode μ.2.1 pc = .ok (.invokespecial idx, 3)) (w1 : Cond.methodLink μ.1.cls idx Lib.objectInit ∈ tb) (w2 : Cond.instanceMethod Lib.objectInit ∈ tb) (w3 : Cond.code Lib.objectInit ⟨#[opReturn]⟩ 1 none ∈ tb) (hr : iok rm S = true)
    (h : W tb K μ rm (pc + 3) L S H Q) : W tb K μ rm pc L (.ref i :: S) H Q := by
  intro hL Z a0 p l e R s m args below meth c' T locs cells slots X
  obtain ⟨X0, hx, hZ, hw, hby, hml, hrt, hnm, hlk, hown, hR, hFr, hr1, hr2, hr3, hr4⟩ := X
  simp only [iok, Bool.and_eq_true, Nat.ble_eq] at hr
  obtain ⟨hf, hl⟩ := hr
  obtain ⟨T1, X1, e1, st⟩ := RoadKit.initO X0 hx hZ hown (hw _ w1) (hw _ w2) (hw _ w3) rfl (g := mkF m pc (L.map (cs Z.heap.size)).toArray ((Value.ref i :: S).map (cv Z.heap.size))) rfl (by simp [hL, hml]) rfl (hb hby hd) (by omega) (W := wt S) (by show 2 * 0 + _ ≤ _; rw [cat_map]; exact Nat.le_of_eq (by simp)) (by omega)
  exact (h hL Z a0 p l e R s m args below meth c' T1 locs cells slots ⟨X1, hx, hZ, hw, hby, hml, hrt, hnm, hlk, hown, e1 ▸ hR, hFr, hr1, hr2, hr3, hr4⟩).steps st
theorem W.callV {idx i c n : Nat} {C : String} {fs : List (String × String × String × FieldType)} {vs : List Value} {y : MethodName} {as : List Value} {S0 : List Value} {ps : List FieldType} {r : Option FieldType} (hd : decode μ.2.1 pc = .ok (.invokevirtual idx, 3)) (w1 : Cond.methodLink μ.1.cls idx y ∈ tb) (w2 : Cond.declares y ∈ tb) (w3 : Cond.selects C y μ'.1 ∈ tb) (hnf : y = μ'.1 ∨ ∃ q ∈ K, q.1 = y.cls) (hKO : KOk tb K)
    (w4 : Cond.instanceMethod μ'.1 ∈ tb) (w5 : Cond.initialized μ'.1.cls ∈ tb) (w6 : Cond.code μ'.1 μ'.2.1 μ'.2.2.1 μ'.2.2.2 ∈ tb) (hy : y.cls ≠ "java/lang/invoke/MethodHandle" ∧ y.cls ≠ "java/lang/invoke/VarHandle") (hK : K[c]? = some (C, n, fs)) (hp : parseMethodDescriptor y.desc = some ⟨ps, r⟩) (hlen : as.length = ps.length) (hS : S0 = as.reverse ++ .ref i :: S)
    (hH : H[i]? = some (.inl (c, vs))) (hM : M tb K μ' rm' (.ref i :: as) H Q') (hr : rok rm rm' μ'.2.2.1 S = true)
    (h : ∀ v H', Q' v H' → W tb K μ (less rm rm') (pc + 3) L (v.toList ++ S) H' Q) : W tb K μ rm pc L S0 H Q := by
  intro hL Z a0 p l e R s m args below meth c' T locs cells slots X
  obtain ⟨X0, hx, hZ, hw, hby, hml, hrt, hnm, hlk, hown, hR, hFr, hr1, hr2, hr3, hr4⟩ := X
  obtain ⟨hf, hl, hc, hs⟩ := rok_spec hr
  obtain ⟨q2, q3, q4⟩ := CellOk.obj hK (hR.2 _ _ hH)
  obtain ⟨cB, kB, b1, b2, b3⟩ := isOf (T := T) hZ rfl q3
  have nf : NotFace s y := by
    rcases hnf with rfl | ⟨q, hq, hqc⟩
    · exact notFace_of_selects (args := #[]) (mvT hZ (hw _ w3))
    · intro r0 h0
      have g1 := findClass_of_methodNamed h0
      obtain ⟨c1, k1, i1, i2, i3, i4, -⟩ := Cond.instantiable_spec (args := #[]) (s := s) (mv hZ (hw _ (hKO q hq).1))
      rw [hqc] at i1
      cases g1.symm.trans i1
      exact ⟨k1, i2, by simp only [Bool.or_eq_false_iff] at i4; exact i4.1⟩
  obtain ⟨_, vm1, ⟨T1, L1, k1, n1⟩, hW1, X1, ⟨Lc, ⟨v', H', rfl, hR', hq', hFr'⟩, l1, y1, z1⟩, st⟩ := X0.virtualBack hx (y := y) (z := μ'.1) hown (mvT hZ (hw _ w1)) (mvT hZ (hw _ w2)) nf (mvT hZ (hw _ w3)) (mvT hZ (hw _ w4)) hy (backOf (R := R) (rm := rm') (h := T.heap) (Q := fun v h L => ∃ v' H', v = Option.map (cv Z.heap.size) v' ∧ Rel Z K h H' ∧ Q' v' H' ∧ Fr Z.heap.size L) (W := wt S) (hM Z a0 hw l T.heap [] hR) hZ (hw _ w6) (hw _ w5) (by omega) (by omega)) b1 b3
    (g := mkF m pc (L.map (cs Z.heap.size)).toArray (S0.map (cv Z.heap.size))) rfl (by simp [hL, hml]) (Steps.refl _) (argsL := as.map (cv Z.heap.size)) (rest := S.map (cv Z.heap.size)) (lenOf hp (by simpa using hlen)) (by rw [hS]; simp [cv]) (by show 2 * 0 + _ ≤ _; rw [cat_map]; exact Nat.le_of_eq (by simp)) (hb hby hd) (fun _ _ => ⟨rfl, rfl, by show cells + _ ≤ _; omega, by show slots + _ ≤ _; omega⟩)
  dsimp only [Pt.U, Pt.locs, Pt.cells, Pt.slots] at X1 l1 y1 z1 st hR'
  subst l1 y1 z1
  rw [back_st] at st
  exact (h v' H' hq' hL Z a0 p l e R s m args below meth c' T1 _ _ _ ⟨X1, hx, hZ, hw, hby, hml, hrt, hnm, hlk, hown, hR', Fr.app hFr hFr', hr1, by show cells + _ + (rm.cells - _) ≤ _; omega, by show slots + _ + (rm.slots - _) ≤ _; omega, hr4⟩).steps (fun t ht => st.trans ht)
/-- a private method, by invokevirtual -/
theorem W.callP {idx i c n : Nat} {C : String} {fs : List (String × String × String × FieldType)} {vs : List Value} {as : List Value} {S0 : List Value} {ps : List FieldType} {r : Option FieldType} (hd : decode μ.2.1 pc = .ok (.invokevirtual idx, 3)) (w1 : Cond.methodLink μ.1.cls idx μ'.1 ∈ tb) (w2 : Cond.privateMethod μ'.1 ∈ tb) (hKO : KOk tb K)
    (w4 : Cond.instanceMethod μ'.1 ∈ tb) (w5 : Cond.initialized μ'.1.cls ∈ tb) (w6 : Cond.code μ'.1 μ'.2.1 μ'.2.2.1 μ'.2.2.2 ∈ tb) (hy : plainCls μ') (hK : K[c]? = some (C, n, fs)) (hC : C = μ'.1.cls) (hp : parseMethodDescriptor μ'.1.desc = some ⟨ps, r⟩) (hlen : as.length = ps.length) (hS : S0 = as.reverse ++ .ref i :: S)
    (hH : H[i]? = some (.inl (c, vs))) (hM : M tb K μ' rm' (.ref i :: as) H Q') (hr : rok rm rm' μ'.2.2.1 S = true)
    (h : ∀ v H', Q' v H' → W tb K μ (less rm rm') (pc + 3) L (v.toList ++ S) H' Q) : W tb K μ rm pc L S0 H Q := by
  intro hL Z a0 p l e R s m args below meth c' T locs cells slots X
  obtain ⟨X0, hx, hZ, hw, hby, hml, hrt, hnm, hlk, hown, hR, hFr, hr1, hr2, hr3, hr4⟩ := X
  obtain ⟨hf, hl, hc, hs⟩ := rok_spec hr
  obtain ⟨q2, q3, q4⟩ := CellOk.obj hK (hR.2 _ _ hH)
  obtain ⟨cell, c1, c2⟩ := q3.cell
  obtain ⟨mk, methM, m1, m2, m3, m4⟩ := Cond.instanceMethod_spec (args := args) (mv hZ (hw _ w4))
  obtain ⟨methM', cM, hmethM', -, -, -, -, -, -, hsigM⟩ := Cond.code_spec m1 (mv (args := args) hZ (hw _ w6))
  cases m2.symm.trans hmethM'
  obtain ⟨cc, kk, i1, i2, i3, i4, -⟩ := Cond.instantiable_spec (args := args) (s := s) (mv hZ (hw _ (hKO _ (mem_of_get hK)).1))
  have g1 := findClass_of_methodNamed m1
  rw [← hC] at g1
  cases g1.symm.trans i1
  have hni : kk.isInterface = false := by simp only [Bool.or_eq_false_iff] at i4; exact i4.1
  have hpriv : s.PrivateAt μ'.1 := Cond.privateMethod_at (mvP hZ (hw _ w2) (args := #[]))
  have hsel : selectMethod e.platform s.vm cell.cls mk = .method mk := selectMethod_private m2 (hpriv mk methM m1 m2)
  obtain ⟨vm1, X1', st1⟩ := X0.invokevirtual hx hown (mvT hZ (hw _ w1)) m1 m2 m3 i2 hni hy (a := Z.heap.size + i) (cell := cell) c1 c2 hsel m2 m4 i2 hni (g := mkF m pc (L.map (cs Z.heap.size)).toArray (S0.map (cv Z.heap.size))) rfl (argsL := as.map (cv Z.heap.size)) (rest := S.map (cv Z.heap.size)) (lenOf hp (by simpa using hlen) _ hsigM) (by rw [hS]; simp [cv]) (hb hby hd)
  obtain ⟨_, ⟨T1, L1, k1, n1⟩, X1, ⟨Lc, ⟨v', H', rfl, hR', hq', hFr'⟩, l1, y1, z1⟩, st⟩ := (backOf (R := R) (rm := rm') (h := T.heap) (Q := fun v h L => ∃ v' H', v = Option.map (cv Z.heap.size) v' ∧ Rel Z K h H' ∧ Q' v' H' ∧ Fr Z.heap.size L) (W := wt S) (hM Z a0 hw l T.heap [] hR) hZ (hw _ w6) (hw _ w5) (by omega) (by omega)) m meth c' ⟨T.setVm vm1, locs, cells, slots⟩ (mkF m pc (L.map (cs Z.heap.size)).toArray (S.map (cv Z.heap.size))) (.invokevirtual idx) mk (.ref (Z.heap.size + i) :: as.map (cv Z.heap.size)).toArray X1' rfl (by simp [hL, hml]) (hb hby hd) (by show 2 * 0 + _ ≤ _; rw [cat_map]; exact Nat.le_of_eq (by simp)) (X1'.named m1) ⟨rfl, rfl, by show cells + _ ≤ _; omega, by show slots + _ ≤ _; omega⟩
  dsimp only [Pt.U, Pt.locs, Pt.cells, Pt.slots] at X1 l1 y1 z1 st hR'
  subst l1 y1 z1
  rw [back_st] at st
  exact (h v' H' hq' hL Z a0 p l e R s m args below meth c' T1 _ _ _ ⟨X1, hx, hZ, hw, hby, hml, hrt, hnm, hlk, hown, hR', Fr.app hFr hFr', hr1, by show cells + _ + (rm.cells - _) ≤ _; omega, by show slots + _ + (rm.slots - _) ≤ _; omega, hr4⟩).steps (fun t ht => (st1 _ fun acts => by rw [doInvoke_state]; exact Steps.refl _).trans (st.trans ht))
/-- the locals at the entry -/
def ent : List Value → List Slot
  | [] => []
  | v :: r => if v.category = 2 then .val v :: .second :: ent r else .val v :: ent r
theorem ent_map (k : Nat) (as : List Value) : ent (as.map (cv k)) = (ent as).map (cs k) := by
  induction as with
  | nil => rfl
  | cons v r ih => by_cases h : v.category = 2 <;> simp [ent, h, cv_cat, ih, cs]
theorem fold_ent (as : List Value) : ∀ acc : Array Slot, as.foldl (fun acc v => if v.category = 2 then (acc.push (.val v)).push .second else acc.push (.val v)) acc = acc ++ (ent as).toArray := by
  induction as with
  | nil => intro acc; simp [ent]
  | cons v r ih => intro acc; by_cases h : v.category = 2 <;> simp [ent, h, ih]
theorem locals_of (k n : Nat) (as : List Value) : argsToLocals (as.map (cv k)).toArray n = ((ent as ++ List.replicate (n - (ent as).length) Slot.unset).map (cs k)).toArray := by
  have h : (as.map (cv k)).toArray.foldl (fun (acc : Array Slot) v => if v.category = 2 then (acc.push (.val v)).push .second else acc.push (.val v)) #[] = ((ent as).map (cs k)).toArray := by
    rw [List.foldl_toArray, fold_ent, ent_map]; simp
  simp only [argsToLocals]
  rw [h]
  simp [cs]
theorem M.of {as : List Value} (hn : plainFor μ.1 = true) (hl : ent as ++ List.replicate (μ.2.2.1 - (ent as).length) .unset = L) (hl' : L.length = μ.2.2.1) (h : W tb K μ rm 0 L [] H Q) : M tb K μ rm as H Q := by
  intro Z a0 hw l h0 ws hR
  refine MetFree.of_bodySF hn hisR ?_
  intro p e s m args below meth c s₁ Bd hml0 hP hK
  obtain ⟨rfl, hZ, hh⟩ := hP
  have e0 : s₁.heap = h0 := by rw [← hh, Bd.state]; rfl
  obtain ⟨v, H', T, locs, fs, hq, st, hrun, hended, hW, hsame, hFr, hR'⟩ := h hl' Z a0 p l e rm s m _ below meth c s₁ [] 0 0 ⟨Stand.of_body Bd, Bd.exec, hZ, hw, Bd.bytes, hml0, Bd.returns, (name_of_methodNamed Bd.named Bd.method).1, Bd.notSynchronized, findClass_of_methodNamed Bd.named, e0 ▸ hR, Fr.nil _, Nat.le_refl _, Nat.le_of_eq (Nat.zero_add _), Nat.le_of_eq (Nat.zero_add _), Nat.le_refl _⟩
  have q : entryFrame m (as.map (cv Z.heap.size)).toArray μ.2.2.1 = mkF m 0 (L.map (cs Z.heap.size)).toArray [] := by
    rw [← hl, entryFrame, locals_of]
  exact ⟨_, _, castTop q st, hrun, hended, _, locs, rfl, ⟨v, H', rfl, hR', hq, hFr⟩, ⟨_, rfl⟩, hW, hsame⟩
end Logic
end Jvm.Own
namespace Jvm.Own
open Sem ClassFile Op Lib Jvm.Stand Jvm.Free Jvm.LawKit Jvm.RoadKit
/-! ## A machine over abstract values: what it answers, the bytecode does.
A value is known (an int, a reference, null), or a long a*ox + b*oy + c, or the j-th unknown int, of which the bits k are m.
A local: none (nothing), some none (the second half of a long), some (some v).
A cell: an array of ints (0), of longs (1), an object of the k-th of K (k + 2). -/
abbrev AV := Value ⊕ ((Int × Int × Int) ⊕ (Nat × Int32 × Int32))
abbrev AS := Option (Option AV)
abbrev AC := Nat × List AV
abbrev St := Room × Nat × List AS × List AV × List AC
abbrev Op1 := Room → List AS → List AV → List AC → Option St
section Machine
def avcat : AV → Nat
  | .inl v => v.category
  | .inr (.inl _) => 2
  | .inr (.inr _) => 1
/-- kinds of fields: 0 int, 1 a reference -/
def avkd : AV → Nat → Bool
  | .inl (.int _), 0 => true
  | .inl (.ref _), 1 => true
  | .inl .null, 1 => true
  | _, _ => false
def asone : AS → Bool
  | none => true
  | some none => false
  | some (some v) => Nat.beq (avcat v) 1
def astwo : AS → AS → Bool
  | some none, _ => false
  | _, some (some v) => Nat.beq (avcat v) 1
  | _, _ => true
def biV (f : Nat) (x y : Int32) : Option Int32 :=
  match f with
  | 0 => some (x + y)
  | 1 => some (x - y)
  | 2 => some (x * y)
  | 3 => some (x &&& y)
  | 4 => some (x <<< (y &&& 31))
  | 5 => bif y == 0 then none else some (x / y)
  | 6 => bif y == 0 then none else some (x % y)
  | 7 => some (XT.ushr x y)
  | _ => none
def blV (f : Nat) (a b c a' b' c' : Int) : Option AV :=
  match f with
  | 0 => some (.inr (.inl (a + a', b + b', c + c')))
  | 1 => some (.inr (.inl (a - a', b - b', c - c')))
  | 2 => bif a' == 0 && b' == 0 then some (.inr (.inl (a * c', b * c', c * c'))) else bif a == 0 && b == 0 then some (.inr (.inl (a' * c, b' * c, c' * c))) else none
  | _ => none
/-- how two longs compare -/
def small (c : Int) : Bool := decide (-1000000 ≤ c) && decide (c ≤ 1000000)
def lcV (a b c a' b' c' : Int) : Option (Int × Int) :=
  bif a == a' && b == b' && small c && small c' && ((a == 0 && b == 0) || (a == 1 && b == 0) || (a == 0 && b == 1)) then some (c, c') else none
def cndZ : ClassFile.Cond → Int → Int → Bool
  | .eq, x, y => x == y
  | .ne, x, y => !(x == y)
  | .lt, x, y => decide (x < y)
  | .ge, x, y => !(decide (x < y))
  | .gt, x, y => decide (y < x)
  | .le, x, y => !(decide (y < x))
def arrAt (k : Nat) (H : List AC) (i : Nat) : Option (List AV) :=
  match H[i]? with
  | some (q, vs) => bif Nat.beq q k then some vs else none
  | none => none
def rmN (rm : Room) (n : Nat) : Room := ⟨rm.frames, rm.cells - 1, rm.slots - n, rm.locals⟩
def wtA : List AV → Nat
  | [] => 0
  | v :: S => avcat v + wtA S
def o_ldI (i : Nat) (nx : Nat) : Op1 := fun rm L S H =>
  match L[i]? with | some (some (some (.inl (.int x)))) => some (rm, nx, L, .inl (.int x) :: S, H) | some (some (some (.inr (.inr o)))) => some (rm, nx, L, .inr (.inr o) :: S, H) | _ => none
def o_ldA (i : Nat) (nx : Nat) : Op1 := fun rm L S H =>
  match L[i]? with | some (some (some (.inl (.ref x)))) => some (rm, nx, L, .inl (.ref x) :: S, H) | _ => none
def o_ldL (i : Nat) (nx : Nat) : Op1 := fun rm L S H =>
  match L[i]? with | some (some (some (.inr (.inl (a, b, c))))) => some (rm, nx, L, .inr (.inl (a, b, c)) :: S, H) | _ => none
def o_stI (i : Nat) (nx : Nat) : Op1 := fun rm L S H =>
  match S, L[i]? with | .inl (.int x) :: S, some q => bif asone q then some (rm, nx, L.set i (some (some (.inl (.int x)))), S, H) else none | _, _ => none
def o_stA (i : Nat) (nx : Nat) : Op1 := fun rm L S H =>
  match S, L[i]? with | .inl (.ref x) :: S, some q => bif asone q then some (rm, nx, L.set i (some (some (.inl (.ref x)))), S, H) else none | _, _ => none
def o_stL (i : Nat) (nx : Nat) : Op1 := fun rm L S H =>
  match S, L[i]?, L[i + 1]? with | .inr (.inl (a, b, c)) :: S, some q, some q' => bif astwo q q' then some (rm, nx, (L.set i (some (some (.inr (.inl (a, b, c)))))).set (i + 1) (some none), S, H) else none | _, _, _ => none
def o_cI (x : Int32) (nx : Nat) : Op1 := fun rm L S H =>
  some (rm, nx, L, .inl (.int x) :: S, H)
def o_cL (c : Int) (nx : Nat) : Op1 := fun rm L S H =>
  some (rm, nx, L, .inr (.inl (0, 0, c)) :: S, H)
def o_bi (f : Nat) (nx : Nat) : Op1 := fun rm L S H =>
  match S with | .inl (.int y) :: .inl (.int x) :: S => (match biV f x y with | some w => some (rm, nx, L, .inl (.int w) :: S, H) | none => none) | .inl (.int y) :: .inr (.inr (j, k, m)) :: S => bif Nat.beq f 3 && (k &&& y == y) then some (rm, nx, L, .inl (.int (m &&& y)) :: S, H) else none | _ => none
def o_bl (f : Nat) (nx : Nat) : Op1 := fun rm L S H =>
  match S with | .inr (.inl (a', b', c')) :: .inr (.inl (a, b, c)) :: S => (match blV f a b c a' b' c' with | some w => some (rm, nx, L, w :: S, H) | none => none) | _ => none
def o_i2l (nx : Nat) : Op1 := fun rm L S H =>
  match S with | .inl (.int x) :: S => some (rm, nx, L, .inr (.inl (0, 0, x.toInt)) :: S, H) | _ => none
def o_inc (i : Nat) (y : Int32) (nx : Nat) : Op1 := fun rm L S H =>
  match L[i]? with | some (some (some (.inl (.int x)))) => some (rm, nx, L.set i (some (some (.inl (.int (x + y))))), S, H) | _ => none
def o_jmp (t : Nat) : Op1 := fun rm L S H =>
  some (rm, t, L, S, H)
def o_icmp (cd : ClassFile.Cond) (t : Nat) (nx : Nat) : Op1 := fun rm L S H =>
  match S with | .inl (.int y) :: .inl (.int x) :: S => some (rm, bif if_icmp.holds cd x y then t else nx, L, S, H) | _ => none
def o_ifc (cd : ClassFile.Cond) (t : Nat) (nx : Nat) : Op1 := fun rm L S H =>
  match S with | .inl (.int x) :: S => some (rm, bif if_icmp.holds cd x 0 then t else nx, L, S, H) | _ => none
def o_lcif (cd : ClassFile.Cond) (t : Nat) (nx : Nat) : Op1 := fun rm L S H =>
  match S with | .inr (.inl (a', b', c')) :: .inr (.inl (a, b, c)) :: S => (match lcV a b c a' b' c' with | some (x, y) => some (rm, bif cndZ cd x y then t else nx, L, S, H) | none => none) | _ => none
def o_dup (nx : Nat) : Op1 := fun rm L S H =>
  match S with | v :: S => bif Nat.beq (avcat v) 1 then some (rm, nx, L, v :: v :: S, H) else none | _ => none
def o_gF (c : Nat) (j : Nat) (nx : Nat) : Op1 := fun rm L S H =>
  match S with | .inl (.ref i) :: S => (match arrAt (c + 2) H i with | some vs => (match vs[j]? with | some v => some (rm, nx, L, v :: S, H) | none => none) | none => none) | _ => none
def o_pF (c : Nat) (j : Nat) (k : Nat) (nx : Nat) : Op1 := fun rm L S H =>
  match S with | v :: .inl (.ref i) :: S => (match arrAt (c + 2) H i with | some vs => bif avkd v k then some (rm, nx, L, S, H.set i (c + 2, vs.set j v)) else none | none => none) | _ => none
def o_new (c : Nat) (n : Nat) (vs : List AV) (nx : Nat) : Op1 := fun rm L S H =>
  bif nok rm n then some (rmN rm n, nx, L, .inl (.ref H.length) :: S, H ++ [(c + 2, vs)]) else none
def o_newI (nx : Nat) : Op1 := fun rm L S H =>
  match S with | .inl (.int n) :: S => bif decide (n < 0) || !(nok rm n.toNatClampNeg) then none else some (rmN rm n.toNatClampNeg, nx, L, .inl (.ref H.length) :: S, H ++ [(0, List.replicate n.toNatClampNeg (.inl (.int 0)))]) | _ => none
def o_newL (nx : Nat) : Op1 := fun rm L S H =>
  match S with | .inl (.int n) :: S => bif decide (n < 0) || !(nok rm n.toNatClampNeg) then none else some (rmN rm n.toNatClampNeg, nx, L, .inl (.ref H.length) :: S, H ++ [(1, List.replicate n.toNatClampNeg (.inr (.inl (0, 0, 0))))]) | _ => none
def o_alen (nx : Nat) : Op1 := fun rm L S H =>
  match S with | .inl (.ref i) :: S => (match H[i]? with | some (q, vs) => bif Nat.blt q 2 then some (rm, nx, L, .inl (.int (Int32.ofNat vs.length)) :: S, H) else none | none => none) | _ => none
def o_iald (nx : Nat) : Op1 := fun rm L S H =>
  match S with | .inl (.int j) :: .inl (.ref i) :: S => (match arrAt 0 H i with | some vs => bif decide (j < 0) then none else (match vs[j.toNatClampNeg]? with | some v => some (rm, nx, L, v :: S, H) | none => none) | none => none) | _ => none
def o_lald (nx : Nat) : Op1 := fun rm L S H =>
  match S with | .inl (.int j) :: .inl (.ref i) :: S => (match arrAt 1 H i with | some vs => bif decide (j < 0) then none else (match vs[j.toNatClampNeg]? with | some v => some (rm, nx, L, v :: S, H) | none => none) | none => none) | _ => none
def o_iast (nx : Nat) : Op1 := fun rm L S H =>
  match S with | .inl (.int x) :: .inl (.int j) :: .inl (.ref i) :: S => (match arrAt 0 H i with | some vs => bif decide (j < 0) || !(Nat.blt j.toNatClampNeg vs.length) then none else some (rm, nx, L, S, H.set i (0, vs.set j.toNatClampNeg (.inl (.int x)))) | none => none) | _ => none
def o_last (nx : Nat) : Op1 := fun rm L S H =>
  match S with | .inr (.inl (a, b, c)) :: .inl (.int j) :: .inl (.ref i) :: S => (match arrAt 1 H i with | some vs => bif decide (j < 0) || !(Nat.blt j.toNatClampNeg vs.length) then none else some (rm, nx, L, S, H.set i (1, vs.set j.toNatClampNeg (.inr (.inl (a, b, c))))) | none => none) | _ => none
def o_initO (nx : Nat) : Op1 := fun rm L S H =>
  match S with | .inl (.ref _) :: S => bif Nat.ble 1 rm.frames && Nat.ble (wtA S + 12) rm.locals then some (rm, nx, L, S, H) else none | _ => none
end Machine
section Sound
/-- the second unknown long, and the unknown ints -/
abbrev OY := Int64 × (Nat → Int32)
def gl (ox : Int64) (oy : OY) (a b c : Int) : Int64 := Int64.ofInt a * ox + Int64.ofInt b * oy.1 + Int64.ofInt c
def gv (ox : Int64) (oy : OY) : AV → Value
  | .inl v => v
  | .inr (.inl (a, b, c)) => .long (gl ox oy a b c)
  | .inr (.inr (j, k, m)) => .int (if oy.2 j &&& k = m then oy.2 j else m)
def gs (ox : Int64) (oy : OY) : AS → Slot
  | none => .unset
  | some none => .second
  | some (some x) => .val (gv ox oy x)
def gc (ox : Int64) (oy : OY) : AC → ACell
  | (0, vs) => .inr (.int, vs.map (gv ox oy))
  | (1, vs) => .inr (.long, vs.map (gv ox oy))
  | (k + 2, vs) => .inl (k, vs.map (gv ox oy))
def Bnd (ox : Int64) (oy : OY) : Prop := 0 ≤ ox.toInt ∧ ox.toInt ≤ 2 ^ 31 ∧ 0 ≤ oy.1.toInt ∧ oy.1.toInt ≤ 2 ^ 31
variable {tb : List Cond} {K : KTab} {μ μ' : Mth} {rm rm' : Room} {pc nx : Nat} {ox : Int64} {oy : OY}
theorem gv_cat (v : AV) : (gv ox oy v).category = avcat v := by
  match v with
  | .inl v => rfl
  | .inr (.inl (a, b, c)) => rfl
  | .inr (.inr (j, k, m)) => rfl
theorem gs_one {q : AS} (h : asone q = true) : one (gs ox oy q) = true := by
  match q, h with
  | none, _ => rfl
  | some (some v), h => show ((gv ox oy v).category == 1) = true; rw [gv_cat]; exact beq_iff_eq.mpr (Nat.beq_eq.mp h)
theorem gs_two {q q' : AS} (h : astwo q q' = true) : two (gs ox oy q) (gs ox oy q') = true := by
  match q, q', h with
  | none, none, _ => rfl
  | none, some none, _ => rfl
  | none, some (some v), h => show ((gv ox oy v).category == 1) = true; rw [gv_cat]; exact beq_iff_eq.mpr (Nat.beq_eq.mp h)
  | some (some w), none, _ => rfl
  | some (some w), some none, _ => rfl
  | some (some w), some (some v), h => show ((gv ox oy v).category == 1) = true; rw [gv_cat]; exact beq_iff_eq.mpr (Nat.beq_eq.mp h)
theorem getL {L : List AS} {i : Nat} {q : AS} (h : L[i]? = some q) : (L.map (gs ox oy))[i]? = some (gs ox oy q) := by simp [h]
theorem getH {H : List AC} {i : Nat} {q : AC} (h : H[i]? = some q) : (H.map (gc ox oy))[i]? = some (gc ox oy q) := by simp [h]
theorem arrAt_get {k : Nat} {H : List AC} {i : Nat} {vs : List AV} (h : arrAt k H i = some vs) : H[i]? = some (k, vs) := by
  unfold arrAt at h
  split at h
  · rename_i q ws hq
    cases hk : Nat.beq q k with
    | false => rw [hk] at h; cases h
    | true => rw [hk] at h; cases h; rw [hq, Nat.beq_eq.mp hk]
  · cases h
def Sem1 (tb : List Cond) (K : KTab) (μ : Mth) (pc : Nat) (o : Op1) : Prop :=
  ∀ (ox : Int64) (oy : OY), Bnd ox oy → ∀ (rm : Room) (L : List AS) (S : List AV) (H : List AC) (Q : Option Value → AHeap → Prop) (q : St), o rm L S H = some q →
    W tb K μ q.1 q.2.1 (q.2.2.1.map (gs ox oy)) (q.2.2.2.1.map (gv ox oy)) (q.2.2.2.2.map (gc ox oy)) Q → W tb K μ rm pc (L.map (gs ox oy)) (S.map (gv ox oy)) (H.map (gc ox oy)) Q
theorem Sem1.ldI_n {i : Fin 4} {j : Nat} (hd : decode μ.2.1 pc = .ok (.iload_n i, 1)) (hj : i.val = j) : Sem1 tb K μ pc (o_ldI j (pc + 1)) := by
  subst hj
  intro ox oy hb rm L S H Q q he h
  simp only [o_ldI] at he
  split at he
  · rename_i x hx; cases he; exact W.iload_n hd (getL hx) h
  · rename_i o hx; cases he; obtain ⟨j, k, m⟩ := o; exact W.iload_n hd (getL hx) h
  · cases he
theorem Sem1.ldI {i : Nat} (hd : decode μ.2.1 pc = .ok (.iload i, 2)) : Sem1 tb K μ pc (o_ldI i (pc + 2)) := by
  intro ox oy hb rm L S H Q q he h
  simp only [o_ldI] at he
  split at he
  · rename_i x hx; cases he; exact W.iload hd (getL hx) h
  · rename_i o hx; cases he; obtain ⟨j, k, m⟩ := o; exact W.iload hd (getL hx) h
  · cases he
theorem Sem1.ldA_n {i : Fin 4} {j : Nat} (hd : decode μ.2.1 pc = .ok (.aload_n i, 1)) (hj : i.val = j) : Sem1 tb K μ pc (o_ldA j (pc + 1)) := by
  subst hj
  intro ox oy hb rm L S H Q q he h
  simp only [o_ldA] at he
  split at he
  · rename_i x hx; cases he; exact W.aload_n hd (getL hx) rfl h
  · cases he
theorem Sem1.ldA {i : Nat} (hd : decode μ.2.1 pc = .ok (.aload i, 2)) : Sem1 tb K μ pc (o_ldA i (pc + 2)) := by
  intro ox oy hb rm L S H Q q he h
  simp only [o_ldA] at he
  split at he
  · rename_i x hx; cases he; exact W.aload hd (getL hx) rfl h
  · cases he
theorem Sem1.ldL_n {i : Fin 4} {j : Nat} (hd : decode μ.2.1 pc = .ok (.lload_n i, 1)) (hj : i.val = j) : Sem1 tb K μ pc (o_ldL j (pc + 1)) := by
  subst hj
  intro ox oy hb rm L S H Q q he h
  simp only [o_ldL] at he
  split at he
  · rename_i a b c hx; cases he; exact W.lload_n hd (getL hx) h
  · cases he
theorem Sem1.ldL {i : Nat} (hd : decode μ.2.1 pc = .ok (.lload i, 2)) : Sem1 tb K μ pc (o_ldL i (pc + 2)) := by
  intro ox oy hb rm L S H Q q he h
  simp only [o_ldL] at he
  split at he
  · rename_i a b c hx; cases he; exact W.lload hd (getL hx) h
  · cases he
theorem Sem1.jmp {o : Int} {t : Nat} (hd : decode μ.2.1 pc = .ok (.goto o, 3)) (ho : 0 ≤ (pc : Int) + o) (hp : ((pc : Int) + o).toNat = t) : Sem1 tb K μ pc (o_jmp t) := by
  intro ox oy hb rm L S H Q q he h
  cases he; exact W.goto hd ho hp h
theorem cbool {b : Bool} {α : Type} {x : α} {q : α} (h : (bif b then some x else none) = some q) : b = true ∧ x = q := by
  cases b
  · cases h
  · exact ⟨rfl, Option.some.inj h⟩
theorem cbool' {b : Bool} {α : Type} {x : Option α} {q : α} (h : (bif b then none else x) = some q) : b = false ∧ x = some q := by
  cases b
  · exact ⟨rfl, h⟩
  · cases h
theorem Sem1.stI_n {i : Fin 4} {j : Nat} (hd : decode μ.2.1 pc = .ok (.istore_n i, 1)) (hj : i.val = j) : Sem1 tb K μ pc (o_stI j (pc + 1)) := by
  subst hj
  intro ox oy hb rm L S H Q q he h
  simp only [o_stI] at he
  split at he
  · rename_i x S' w hx
    obtain ⟨ho, rfl⟩ := cbool he
    exact W.istore_n hd (getL hx) (gs_one ho) (by simp only [List.map_set] at h; exact h)
  · cases he
theorem Sem1.stI {i : Nat} (hd : decode μ.2.1 pc = .ok (.istore i, 2)) : Sem1 tb K μ pc (o_stI i (pc + 2)) := by
  intro ox oy hb rm L S H Q q he h
  simp only [o_stI] at he
  split at he
  · rename_i x S' w hx
    obtain ⟨ho, rfl⟩ := cbool he
    exact W.istore hd (getL hx) (gs_one ho) (by simp only [List.map_set] at h; exact h)
  · cases he
theorem Sem1.stA_n {i : Fin 4} {j : Nat} (hd : decode μ.2.1 pc = .ok (.astore_n i, 1)) (hj : i.val = j) : Sem1 tb K μ pc (o_stA j (pc + 1)) := by
  subst hj
  intro ox oy hb rm L S H Q q he h
  simp only [o_stA] at he
  split at he
  · rename_i x S' w hx
    obtain ⟨ho, rfl⟩ := cbool he
    exact W.astore_n hd (getL hx) (gs_one ho) rfl (by simp only [List.map_set] at h; exact h)
  · cases he
theorem Sem1.stA {i : Nat} (hd : decode μ.2.1 pc = .ok (.astore i, 2)) : Sem1 tb K μ pc (o_stA i (pc + 2)) := by
  intro ox oy hb rm L S H Q q he h
  simp only [o_stA] at he
  split at he
  · rename_i x S' w hx
    obtain ⟨ho, rfl⟩ := cbool he
    exact W.astore hd (getL hx) (gs_one ho) rfl (by simp only [List.map_set] at h; exact h)
  · cases he
theorem Sem1.stL {i : Nat} (hd : decode μ.2.1 pc = .ok (.lstore i, 2)) : Sem1 tb K μ pc (o_stL i (pc + 2)) := by
  intro ox oy hb rm L S H Q q he h
  simp only [o_stL] at he
  split at he
  · rename_i a b c S' w w' hx hx'
    obtain ⟨ho, rfl⟩ := cbool he
    exact W.lstore hd (getL hx) (getL hx') (gs_two ho) (by simp only [List.map_set] at h; exact h)
  · cases he
theorem Sem1.inc {i : Nat} {n : Int} {y : Int32} (hd : decode μ.2.1 pc = .ok (.iinc i n, 3)) (hy : Int32.ofInt n = y) : Sem1 tb K μ pc (o_inc i y (pc + 3)) := by
  intro ox oy hb rm L S H Q q he h
  simp only [o_inc] at he
  split at he
  · rename_i x hx
    cases he
    exact W.iinc hd hy (getL hx) (by simp only [List.map_set] at h; exact h)
  · cases he
theorem Sem1.cI (hw : ∀ {L : List Slot} {S : List Value} {H : AHeap} {Q : Option Value → AHeap → Prop} {rm : Room}, W tb K μ rm nx L (.int x :: S) H Q → W tb K μ rm pc L S H Q) : Sem1 tb K μ pc (o_cI x nx) := by
  intro ox oy hb rm L S H Q q he h
  cases he; exact hw h
theorem Sem1.bi {f : Nat} (hw : ∀ {L : List Slot} {S : List Value} {H : AHeap} {Q : Option Value → AHeap → Prop} {rm : Room} {x y w : Int32}, biV f x y = some w → W tb K μ rm nx L (.int w :: S) H Q → W tb K μ rm pc L (.int y :: .int x :: S) H Q) : Sem1 tb K μ pc (o_bi f nx) := by
  intro ox oy hb rm L S H Q q he h
  simp only [o_bi] at he
  split at he
  · split at he
    · rename_i w hw'; cases he; exact hw hw' h
    · cases he
  · rename_i y j k m S'
    obtain ⟨hc, rfl⟩ := cbool he
    simp only [Bool.and_eq_true, Nat.beq_eq, beq_iff_eq] at hc
    obtain ⟨rfl, hk⟩ := hc
    refine hw (x := if oy.2 j &&& k = m then oy.2 j else m) (w := m &&& y) ?_ h
    show some _ = some _
    congr 1
    split
    · rename_i e; rw [← e, Int32.and_assoc, hk]
    · rfl
  · cases he
theorem Sem1.cL {c : Int} {x : Int64} (hx : Int64.ofInt c = x) (hw : ∀ {L : List Slot} {S : List Value} {H : AHeap} {Q : Option Value → AHeap → Prop} {rm : Room}, W tb K μ rm nx L (.long x :: S) H Q → W tb K μ rm pc L S H Q) : Sem1 tb K μ pc (o_cL c nx) := by
  intro ox oy hb rm L S H Q q he h
  cases he
  refine hw ?_
  have e : gl ox oy 0 0 c = x := by rw [← hx]; simp [gl]
  rw [← e]; exact h
theorem Sem1.iadd (hd : decode μ.2.1 pc = .ok (.iadd, 1)) : Sem1 tb K μ pc (o_bi 0 (pc + 1)) := Sem1.bi fun hb h => by cases hb; exact W.iadd hd h
theorem Sem1.isub (hd : decode μ.2.1 pc = .ok (.isub, 1)) : Sem1 tb K μ pc (o_bi 1 (pc + 1)) := Sem1.bi fun hb h => by cases hb; exact W.isub hd h
theorem Sem1.imul (hd : decode μ.2.1 pc = .ok (.imul, 1)) : Sem1 tb K μ pc (o_bi 2 (pc + 1)) := Sem1.bi fun hb h => by cases hb; exact W.imul hd h
theorem Sem1.iand (hd : decode μ.2.1 pc = .ok (.iand, 1)) : Sem1 tb K μ pc (o_bi 3 (pc + 1)) := Sem1.bi fun hb h => by cases hb; exact W.iand hd h
theorem Sem1.ishl (hd : decode μ.2.1 pc = .ok (.ishl, 1)) : Sem1 tb K μ pc (o_bi 4 (pc + 1)) := Sem1.bi fun hb h => by cases hb; exact W.ishl hd h
theorem Sem1.idiv (hd : decode μ.2.1 pc = .ok (.idiv, 1)) : Sem1 tb K μ pc (o_bi 5 (pc + 1)) := Sem1.bi fun hb h => by obtain ⟨h0, h1⟩ := cbool' hb; cases h1; exact W.idiv hd (by simpa using h0) h
theorem Sem1.irem (hd : decode μ.2.1 pc = .ok (.irem, 1)) : Sem1 tb K μ pc (o_bi 6 (pc + 1)) := Sem1.bi fun hb h => by obtain ⟨h0, h1⟩ := cbool' hb; cases h1; exact W.irem hd (by simpa using h0) h
theorem Sem1.iushr (hd : decode μ.2.1 pc = .ok (.iushr, 1)) : Sem1 tb K μ pc (o_bi 7 (pc + 1)) := Sem1.bi fun hb h => by cases hb; exact W.iushr hd h
theorem Sem1.icmp {cd : ClassFile.Cond} {o : Int} {t : Nat} (hd : decode μ.2.1 pc = .ok (.if_icmp cd o, 3)) (ho : 0 ≤ (pc : Int) + o) (hp : ((pc : Int) + o).toNat = t) : Sem1 tb K μ pc (o_icmp cd t (pc + 3)) := by
  intro ox oy hb rm L S H Q q he h
  simp only [o_icmp] at he
  split at he
  · rename_i y x S'
    cases he
    refine W.icmp hd ho hp (fun hc => ?_) (fun hc => ?_)
    · rw [(cnd_iff cd x y).mpr hc] at h; exact h
    · rw [(cnd_not cd x y).mpr ((cndN_iff cd x y).mp hc)] at h; exact h
  · cases he
theorem Sem1.ifc {cd : ClassFile.Cond} {o : Int} {t : Nat} (hd : decode μ.2.1 pc = .ok (.ifCond cd o, 3)) (ho : 0 ≤ (pc : Int) + o) (hp : ((pc : Int) + o).toNat = t) : Sem1 tb K μ pc (o_ifc cd t (pc + 3)) := by
  intro ox oy hb rm L S H Q q he h
  simp only [o_ifc] at he
  split at he
  · rename_i x S'
    cases he
    refine W.ifc hd ho hp (fun hc => ?_) (fun hc => ?_)
    · rw [(cnd_iff cd x 0).mpr hc] at h; exact h
    · rw [(cnd_not cd x 0).mpr ((cndN_iff cd x 0).mp hc)] at h; exact h
  · cases he
theorem Sem1.dup (hd : decode μ.2.1 pc = .ok (.dup, 1)) : Sem1 tb K μ pc (o_dup (pc + 1)) := by
  intro ox oy hb rm L S H Q q he h
  simp only [o_dup] at he
  split at he
  · rename_i v S'
    obtain ⟨hc, rfl⟩ := cbool he
    exact W.dup hd (by rw [gv_cat]; exact Nat.beq_eq.mp hc) h
  · cases he
theorem Sem1.i2l (hd : decode μ.2.1 pc = .ok (.i2l, 1)) : Sem1 tb K μ pc (o_i2l (pc + 1)) := by
  intro ox oy hb rm L S H Q q he h
  simp only [o_i2l] at he
  split at he
  · rename_i x S'
    cases he
    refine W.i2l hd ?_
    have e : gl ox oy 0 0 x.toInt = x.toInt64 := by
      simp [gl]
    rw [← e]; exact h
  · cases he
theorem Sem1.alen (hd : decode μ.2.1 pc = .ok (.arraylength, 1)) : Sem1 tb K μ pc (o_alen (pc + 1)) := by
  intro ox oy hb rm L S H Q q he h
  simp only [o_alen] at he
  split at he
  · rename_i i S'
    split at he
    · rename_i k vs hH
      obtain ⟨hc, rfl⟩ := cbool he
      have e : Int32.ofNat vs.length = Int32.ofNat (vs.map (gv ox oy)).length := by simp
      match k, hc with
      | 0, _ => exact W.arraylength hd (getH hH) (by rw [← e]; exact h)
      | 1, _ => exact W.arraylength hd (getH hH) (by rw [← e]; exact h)
    · cases he
  · cases he
theorem Sem1.iald (hd : decode μ.2.1 pc = .ok (.iaload, 1)) : Sem1 tb K μ pc (o_iald (pc + 1)) := by
  intro ox oy hb rm L S H Q q he h
  simp only [o_iald] at he
  split at he
  · rename_i j i S'
    split at he
    · rename_i vs hH
      obtain ⟨hj, he⟩ := cbool' he
      split at he
      · rename_i v hv
        cases he
        exact W.xaload (ty := .int) (Or.inl ⟨rfl, rfl⟩) hd (getH (arrAt_get hH)) ⟨of_decide_eq_false hj, rfl⟩ (by simp [hv]) h
      · cases he
    · cases he
  · cases he
theorem Sem1.lald (hd : decode μ.2.1 pc = .ok (.laload, 1)) : Sem1 tb K μ pc (o_lald (pc + 1)) := by
  intro ox oy hb rm L S H Q q he h
  simp only [o_lald] at he
  split at he
  · rename_i j i S'
    split at he
    · rename_i vs hH
      obtain ⟨hj, he⟩ := cbool' he
      split at he
      · rename_i v hv
        cases he
        exact W.xaload (ty := .long) (Or.inr (Or.inl ⟨rfl, rfl⟩)) hd (getH (arrAt_get hH)) ⟨of_decide_eq_false hj, rfl⟩ (by simp [hv]) h
      · cases he
    · cases he
  · cases he
theorem Sem1.iast (hd : decode μ.2.1 pc = .ok (.iastore, 1)) : Sem1 tb K μ pc (o_iast (pc + 1)) := by
  intro ox oy hb rm L S H Q q he h
  simp only [o_iast] at he
  split at he
  · rename_i x j i S'
    split at he
    · rename_i vs hH
      obtain ⟨hj, he⟩ := cbool' he
      cases he
      simp only [Bool.or_eq_false_iff, Bool.not_eq_false'] at hj
      refine W.iastore hd (getH (arrAt_get hH)) ⟨of_decide_eq_false hj.1, rfl⟩ (by simpa using hj.2) ?_
      simp only [List.map_set, gc] at h; exact h
    · cases he
  · cases he
theorem Sem1.last (hd : decode μ.2.1 pc = .ok (.lastore, 1)) : Sem1 tb K μ pc (o_last (pc + 1)) := by
  intro ox oy hb rm L S H Q q he h
  simp only [o_last] at he
  split at he
  · rename_i a b c j i S'
    split at he
    · rename_i vs hH
      obtain ⟨hj, he⟩ := cbool' he
      cases he
      simp only [Bool.or_eq_false_iff, Bool.not_eq_false'] at hj
      refine W.lastore hd (getH (arrAt_get hH)) ⟨of_decide_eq_false hj.1, rfl⟩ (by simpa using hj.2) ?_
      simp only [List.map_set, gc] at h; exact h
    · cases he
  · cases he
theorem Sem1.gF {idx c n j : Nat} {C R0 host : String} {fs : List (String × String × String × FieldType)} {f : String × String × String × FieldType} (hd : decode μ.2.1 pc = .ok (.getfield idx, 3)) (w : Cond.fieldLink μ.1.cls idx R0 f.2.1 f.2.2.1 ∈ tb ∨ Cond.fieldLinkNest μ.1.cls idx R0 f.2.1 f.2.2.1 host ∈ tb) (via : R0 = f.1 ∨ Cond.sameField R0 f.1 f.2.1 f.2.2.1 ∈ tb) (hK : K[c]? = some (C, n, fs)) (hf : fs[j]? = some f) : Sem1 tb K μ pc (o_gF c j (pc + 3)) := by
  intro ox oy hb rm L S H Q q he h
  simp only [o_gF] at he
  split at he
  · rename_i i S'
    split at he
    · rename_i vs hH
      split at he
      · rename_i v hv
        cases he
        exact W.getF hd w via hK hf (getH (arrAt_get hH)) (by simp [hv]) h
      · cases he
    · cases he
  · cases he
theorem wt_gv (S : List AV) : wt (S.map (gv ox oy)) = wtA S := by
  induction S with
  | nil => rfl
  | cons v S ih => simp only [wt, List.map_cons, List.sum_cons, wtA, gv_cat]; rw [← ih]
theorem Sem1.initO {idx : Nat} (hd : decode μ.2.1 pc = .ok (.invokespecial idx, 3)) (w1 : Cond.methodLink μ.1.cls idx Lib.objectInit ∈ tb) (w2 : Cond.instanceMethod Lib.objectInit ∈ tb) (w3 : Cond.code Lib.objectInit ⟨#[opReturn]⟩ 1 none ∈ tb) : Sem1 tb K μ pc (o_initO (pc + 3)) := by
  intro ox oy hb rm L S H Q q he h
  simp only [o_initO] at he
  split at he
  · rename_i i S'
    obtain ⟨hc, rfl⟩ := cbool he
    refine W.initO hd w1 w2 w3 ?_ h
    rw [iok, wt_gv]; exact hc
  · cases he
theorem Sem1.pF {idx c n j k : Nat} {C R0 host : String} {fs : List (String × String × String × FieldType)} {f : String × String × String × FieldType} (hKO : KOk tb K) (hd : decode μ.2.1 pc = .ok (.putfield idx, 3)) (w : Cond.fieldLink μ.1.cls idx R0 f.2.1 f.2.2.1 ∈ tb ∨ Cond.fieldLinkNest μ.1.cls idx R0 f.2.1 f.2.2.1 host ∈ tb) (via : R0 = f.1 ∨ Cond.sameField R0 f.1 f.2.1 f.2.2.1 ∈ tb) (hK : K[c]? = some (C, n, fs)) (hf : fs[j]? = some f)
    (la : Cond.lays C f.1 f.2.1 f.2.2.1 ∈ tb ∨ (Cond.laysFinal C f.1 f.2.1 f.2.2.1 ∈ tb ∧ μ.1.cls = f.1 ∧ μ.1.name = "<init>")) (hk : (k = 0 ∧ f.2.2.2 = .int) ∨ (k = 1 ∧ f.2.2.2.isReference = true)) : Sem1 tb K μ pc (o_pF c j k (pc + 3)) := by
  intro ox oy hb rm L S H Q q he h
  simp only [o_pF] at he
  split at he
  · rename_i v i S'
    split at he
    · rename_i vs hH
      obtain ⟨hc, rfl⟩ := cbool he
      have hv : narrow f.2.2.2 (gv ox oy v) = gv ox oy v ∧ fits f.2.2.2 (gv ox oy v) = true := by
        rcases hk with ⟨rfl, e⟩ | ⟨rfl, e⟩
        · rw [e]
          match v, hc with
          | .inl (.int x), _ => exact ⟨rfl, rfl⟩
        · generalize f.2.2.2 = t at e
          match v, hc with
          | .inl (.ref x), _ => cases t <;> first | exact ⟨rfl, rfl⟩ | cases e
          | .inl .null, _ => cases t <;> first | exact ⟨rfl, rfl⟩ | cases e
      refine W.putF hKO hd w via hK hf la hv.1 hv.2 (getH (arrAt_get hH)) ?_
      simp only [List.map_set, gc] at h; exact h
    · cases he
  · cases he
theorem Sem1.new {idx c n : Nat} {C : String} {vs : List AV} {fs : List (String × String × String × FieldType)} (hKO : KOk tb K) (hd : decode μ.2.1 pc = .ok (.new idx, 3)) (w : Cond.classLink μ.1.cls idx C ∈ tb) (wz : Cond.initialized C ∈ tb) (hK : K[c]? = some (C, n, fs)) (hv : ∀ ox oy, vs.map (gv ox oy) = fs.map fun f => defaultValue f.2.2.2) : Sem1 tb K μ pc (o_new c n vs (pc + 3)) := by
  intro ox oy hb rm L S H Q q he h
  simp only [o_new] at he
  obtain ⟨hc, rfl⟩ := cbool he
  refine W.new hKO hd w wz hK (by rw [List.length_map]) hc ?_
  simp only [List.map_append, List.map_cons, List.map_nil, gc, hv] at h; exact h
theorem Sem1.newI (hd : decode μ.2.1 pc = .ok (.newarray .int, 2)) (w : Cond.arrayClass .int ∈ tb) : Sem1 tb K μ pc (o_newI (pc + 2)) := by
  intro ox oy hb rm L S H Q q he h
  simp only [o_newI] at he
  split at he
  · rename_i n S'
    obtain ⟨hc, he⟩ := cbool' he
    cases he
    simp only [Bool.or_eq_false_iff, Bool.not_eq_false'] at hc
    refine W.newarray (ty := .int) (d := .int 0) hd rfl w rfl ⟨of_decide_eq_false hc.1, rfl⟩ (by rw [List.length_map]) hc.2 ?_
    simp only [List.map_append, List.map_cons, List.map_nil, gc, List.map_replicate] at h; exact h
  · cases he
theorem Sem1.newL (hd : decode μ.2.1 pc = .ok (.newarray .long, 2)) (w : Cond.arrayClass .long ∈ tb) : Sem1 tb K μ pc (o_newL (pc + 2)) := by
  intro ox oy hb rm L S H Q q he h
  simp only [o_newL] at he
  split at he
  · rename_i n S'
    obtain ⟨hc, he⟩ := cbool' he
    cases he
    simp only [Bool.or_eq_false_iff, Bool.not_eq_false'] at hc
    refine W.newarray (ty := .long) (d := .long 0) hd rfl w rfl ⟨of_decide_eq_false hc.1, rfl⟩ (by rw [List.length_map]) hc.2 ?_
    have e : gv ox oy (.inr (.inl (0, 0, 0))) = .long 0 := by simp [gv, gl]
    simp only [List.map_append, List.map_cons, List.map_nil, gc, List.map_replicate, e] at h; exact h
  · cases he
theorem gl_add (ox : Int64) (oy : OY) (a b c a' b' c' : Int) : gl ox oy a b c + gl ox oy a' b' c' = gl ox oy (a + a') (b + b') (c + c') := by
  simp only [gl, Int64.ofInt_add]; grind
theorem gl_sub (ox : Int64) (oy : OY) (a b c a' b' c' : Int) : gl ox oy a b c - gl ox oy a' b' c' = gl ox oy (a - a') (b - b') (c - c') := by
  simp only [gl, Int64.ofInt_sub]; grind
theorem gl_mul (ox : Int64) (oy : OY) (a b c c' : Int) : gl ox oy a b c * gl ox oy 0 0 c' = gl ox oy (a * c') (b * c') (c * c') := by
  simp only [gl, Int64.ofInt_mul]
  have e : Int64.ofInt 0 = 0 := rfl
  rw [e]; grind
theorem bm {z : Int} (h : -9223372036854775808 ≤ z) (h' : z < 9223372036854775808) : z.bmod (2 ^ 64) = z := by
  apply Int.bmod_eq_of_le <;> omega
theorem ofI {c : Int} (h : -9223372036854775808 ≤ c) (h' : c < 9223372036854775808) : (Int64.ofInt c).toInt = c := by
  rw [Int64.toInt_ofInt]; exact bm h h'
theorem gl_int {ox : Int64} {oy : OY} (hb : Bnd ox oy) {a b c : Int} (hs : small c = true) (hab : ((a == 0 && b == 0) || (a == 1 && b == 0) || (a == 0 && b == 1)) = true) : (gl ox oy a b c).toInt = a * ox.toInt + b * oy.1.toInt + c := by
  obtain ⟨x0, x1, y0, y1⟩ := hb
  simp only [small, Bool.and_eq_true, decide_eq_true_eq] at hs
  have e0 : Int64.ofInt 0 = 0 := rfl
  have e1 : Int64.ofInt 1 = 1 := rfl
  have hc := ofI (c := c) (by omega) (by omega)
  simp only [Bool.or_eq_true, Bool.and_eq_true, beq_iff_eq] at hab
  rcases hab with (⟨rfl, rfl⟩ | ⟨rfl, rfl⟩) | ⟨rfl, rfl⟩
  · simp [gl, e0, hc, -Int64.toInt_ofInt]
  · simp only [gl, e0, e1, Int64.one_mul, Int64.zero_mul, Int64.add_zero, Int64.toInt_add, hc]
    rw [bm] <;> omega
  · simp only [gl, e0, e1, Int64.one_mul, Int64.zero_mul, Int64.zero_add, Int64.toInt_add, hc]
    rw [bm] <;> omega
theorem Sem1.bl {f : Nat} (hw : ∀ {L : List Slot} {S : List Value} {H : AHeap} {Q : Option Value → AHeap → Prop} {rm : Room} {x y : Int64}, W tb K μ rm nx L (.long (match f with | 0 => x + y | 1 => x - y | _ => x * y) :: S) H Q → W tb K μ rm pc L (.long y :: .long x :: S) H Q) : Sem1 tb K μ pc (o_bl f nx) := by
  intro ox oy hb rm L S H Q q he h
  simp only [o_bl] at he
  split at he
  · rename_i a' b' c' a b c S'
    split at he
    · rename_i w hw'
      cases he
      refine hw ?_
      match f, hw' with
      | 0, hw' => cases hw'; show W _ _ _ _ _ _ (Value.long (_ + _) :: _) _ _; rw [gl_add]; exact h
      | 1, hw' => cases hw'; show W _ _ _ _ _ _ (Value.long (_ - _) :: _) _ _; rw [gl_sub]; exact h
      | 2, hw' =>
        show W _ _ _ _ _ _ (Value.long (_ * _) :: _) _ _
        simp only [blV] at hw'
        cases h1 : (a' == 0 && b' == 0) with
        | true =>
          rw [h1] at hw'; cases hw'
          simp only [Bool.and_eq_true, beq_iff_eq] at h1
          obtain ⟨rfl, rfl⟩ := h1
          rw [gl_mul]; exact h
        | false =>
          rw [h1] at hw'
          cases h2 : (a == 0 && b == 0) with
          | true =>
            rw [h2] at hw'; cases hw'
            simp only [Bool.and_eq_true, beq_iff_eq] at h2
            obtain ⟨rfl, rfl⟩ := h2
            rw [Int64.mul_comm, gl_mul]; exact h
          | false => rw [h2] at hw'; cases hw'
    · cases he
  · cases he
theorem cndZ_iff (hb : Bnd ox oy) (cd : ClassFile.Cond) {a b c a' b' c' x y : Int} (h : lcV a b c a' b' c' = some (x, y)) : cndL cd (gl ox oy a b c) (gl ox oy a' b' c') ↔ cndZ cd x y = true := by
  unfold lcV at h
  obtain ⟨h1, h2⟩ := cbool h
  cases h2
  simp only [Bool.and_eq_true] at h1
  obtain ⟨⟨⟨⟨ha, hb'⟩, hs⟩, hs'⟩, hab⟩ := h1
  cases eq_of_beq ha
  cases eq_of_beq hb'
  have e := gl_int hb hs hab
  have e' := gl_int hb hs' hab
  have lt : gl ox oy a b c < gl ox oy a b c' ↔ c < c' := by rw [Int64.lt_iff_toInt_lt, e, e']; omega
  have gt : gl ox oy a b c' < gl ox oy a b c ↔ c' < c := by rw [Int64.lt_iff_toInt_lt, e, e']; omega
  have eq : gl ox oy a b c = gl ox oy a b c' ↔ c = c' := by rw [← Int64.toInt_inj, e, e']; omega
  cases cd <;> simp [cndL, cndZ, lt, gt, eq]
theorem Sem1.ladd (hd : decode μ.2.1 pc = .ok (.ladd, 1)) : Sem1 tb K μ pc (o_bl 0 (pc + 1)) := Sem1.bl fun h => W.ladd hd h
theorem Sem1.lsub (hd : decode μ.2.1 pc = .ok (.lsub, 1)) : Sem1 tb K μ pc (o_bl 1 (pc + 1)) := Sem1.bl fun h => W.lsub hd h
theorem Sem1.lmul (hd : decode μ.2.1 pc = .ok (.lmul, 1)) : Sem1 tb K μ pc (o_bl 2 (pc + 1)) := Sem1.bl fun h => W.lmul hd h
theorem Sem1.lcif {cd : ClassFile.Cond} {o : Int} {pc1 t : Nat} (hd1 : decode μ.2.1 pc = .ok (.lcmp, 1)) (hp1 : pc + 1 = pc1) (hd : decode μ.2.1 pc1 = .ok (.ifCond cd o, 3)) (ho : 0 ≤ (pc1 : Int) + o) (hp : ((pc1 : Int) + o).toNat = t) : Sem1 tb K μ pc (o_lcif cd t (pc1 + 3)) := by
  intro ox oy hb rm L S H Q q he h
  simp only [o_lcif] at he
  split at he
  · rename_i a' b' c' a b c S'
    split at he
    · rename_i x y hxy
      cases he
      refine W.lcif hd1 hp1 hd ho hp (fun hc => ?_) (fun hc => ?_)
      · rw [(cndZ_iff hb cd hxy).mp hc] at h; exact h
      · have : cndZ cd x y = false := by
          cases hz : cndZ cd x y with
          | false => rfl
          | true => exact absurd ((cndZ_iff hb cd hxy).mpr hz) ((cndLN_iff cd _ _).mp hc)
        rw [this] at h; exact h
    · cases he
  · cases he
/-! ## whole bodies: a table of ops a method, calls by number -/
/-- a step, a call (method, arguments, receiver's kind, the pc behind), a return (0 void, 1 int, 2 boolean, 3 long, 4 reference) -/
abbrev Op := Op1 ⊕ ((Nat × Nat × Nat × Nat) ⊕ Nat)
abbrev Tr := Nat → Option Op
def tr0 : Tr := fun _ => none
def tr1 (l : Tr) (k : Nat) (o : Op) (r : Tr) : Tr := fun p => bif Nat.beq p k then some o else bif Nat.blt p k then l p else r p
def TrAll (φ : Nat → Op → Prop) (t : Tr) : Prop := ∀ (p : Nat) (o : Op), t p = some o → φ p o
theorem all_e {φ : Nat → Op → Prop} : TrAll φ tr0 := fun _ _ h => nomatch h
theorem all_n {φ : Nat → Op → Prop} {l r : Tr} {k : Nat} {o : Op} (h1 : TrAll φ l) (h2 : φ k o) (h3 : TrAll φ r) : TrAll φ (tr1 l k o r) := fun p o' h => by
  unfold tr1 at h
  cases hb : Nat.beq p k with
  | true => rw [hb] at h; cases h; rw [Nat.beq_eq.mp hb]; exact h2
  | false =>
    rw [hb] at h
    cases hl : Nat.blt p k with
    | true => rw [hl] at h; exact h1 p o' h
    | false => rw [hl] at h; exact h3 p o' h
def popN : Nat → List AV → List AV → Option (List AV × List AV)
  | 0, acc, S => some (acc, S)
  | n + 1, acc, v :: S => popN n (v :: acc) S
  | _ + 1, _, [] => none
theorem popN_spec : ∀ {n : Nat} {acc S as S' : List AV}, popN n acc S = some (as, S') → as.reverse ++ S' = acc.reverse ++ S ∧ as.length = n + acc.length
  | 0, acc, S, as, S', h => by cases h; exact ⟨rfl, (Nat.zero_add _).symm⟩
  | n + 1, acc, [], as, S', h => by cases h
  | n + 1, acc, v :: S, as, S', h => by
    obtain ⟨h1, h2⟩ := popN_spec (n := n) h
    exact ⟨by rw [h1]; simp, by rw [h2, List.length_cons]; omega⟩
def entA : List AV → List AS
  | [] => []
  | v :: r => bif Nat.beq (avcat v) 2 then some (some v) :: some none :: entA r else some (some v) :: entA r
theorem entA_gs (as : List AV) : ent (as.map (gv ox oy)) = (entA as).map (gs ox oy) := by
  induction as with
  | nil => rfl
  | cons v r ih =>
    rw [List.map_cons, ent, gv_cat, entA, ih]
    cases hb : Nat.beq (avcat v) 2 with
    | true => rw [if_pos (Nat.beq_eq.mp hb)]; rfl
    | false => rw [if_neg (fun h => by rw [h] at hb; cases hb)]; rfl
def entP (n : Nat) (as : List AV) : List AS := entA as ++ List.replicate (n - (entA as).length) none
def rokA (rm rm' : Room) (n : Nat) (S : List AV) : Bool := Nat.ble (rm'.frames + 1) rm.frames && (Nat.ble (wtA S + (n + 11) + rm'.locals) rm.locals && (Nat.ble rm'.cells rm.cells && Nat.ble rm'.slots rm.slots))
/-- the receiver: 0 none, 1 an object under construction, c + 2 an object of the c-th of K -/
def rcvA (cls : Nat) (as : List AV) (H : List AC) : Bool :=
  match cls with
  | 0 => true
  | 1 => (match as with | .inl (.ref _) :: _ => true | _ => false)
  | c + 2 => (match as with | .inl (.ref i) :: _ => (match H[i]? with | some (k, _) => Nat.beq k (c + 2) | none => false) | _ => false)
def Rcv (cls : Nat) (as : List Value) (H : AHeap) : Prop :=
  match cls with
  | 0 => True
  | 1 => ∃ i r, as = .ref i :: r
  | c + 2 => ∃ i r vs, as = .ref i :: r ∧ H[i]? = some (.inl (c, vs))
theorem rcv_of {cls : Nat} {as : List AV} {H : List AC} (h : rcvA cls as H = true) : Rcv cls (as.map (gv ox oy)) (H.map (gc ox oy)) := by
  match cls, h with
  | 0, _ => trivial
  | 1, h =>
    match as, h with
    | .inl (.ref i) :: r, _ => exact ⟨i, _, rfl⟩
  | c + 2, h =>
    match as, h with
    | .inl (.ref i) :: r, h =>
      simp only [rcvA] at h
      split at h
      · rename_i k vs hk
        cases Nat.beq_eq.mp h
        exact ⟨i, _, vs.map (gv ox oy), rfl, getH hk⟩
      · cases h
abbrev Prg := List (Tr × Nat × Room)
def retA (k : Nat) (S : List AV) : Option (Option AV) :=
  match k with
  | 0 => (match S with | [] => some none | _ => none)
  | 1 => (match S with | .inl (.int x) :: _ => some (some (.inl (.int x))) | _ => none)
  | 2 => (match S with | .inl (.int x) :: _ => some (some (.inl (.int (x &&& 1)))) | _ => none)
  | 3 => (match S with | .inr (.inl q) :: _ => some (some (.inr (.inl q))) | _ => none)
  | 4 => (match S with | .inl (.ref i) :: _ => some (some (.inl (.ref i))) | _ => none)
  | _ => none
/-- what a call needs: the callee's table, its room, its locals; what stays on the stack; the room behind -/
def preC (P : Prg) (c : Nat × Nat × Nat × Nat) (rm : Room) (S : List AV) (H : List AC) : Option (Tr × Room × List AS × List AV × Room) :=
  match popN c.2.1 [] S with
  | none => none
  | some a =>
    match P[c.1]? with
    | none => none
    | some b =>
      bif rcvA c.2.2.1 a.1 H && (rokA rm b.2.2 b.2.1 a.2 && Nat.beq (entP b.2.1 a.1).length b.2.1) then
        some (b.1, b.2.2, entP b.2.1 a.1, a.2, ⟨rm.frames, rm.cells - b.2.2.cells, rm.slots - b.2.2.slots, rm.locals⟩)
      else none
def run (P : Prg) : Nat → Tr → Room → Nat → List AS → List AV → List AC → Option (Option AV × List AC)
  | 0, _, _, _, _, _, _ => none
  | f + 1, t, rm, pc, L, S, H =>
    match t pc with
    | none => none
    | some (.inl o) => (match o rm L S H with | none => none | some q => run P f t q.1 q.2.1 q.2.2.1 q.2.2.2.1 q.2.2.2.2)
    | some (.inr (.inl c)) =>
      (match preC P c rm S H with
      | none => none
      | some b =>
        match run P f b.1 b.2.1 0 b.2.2.1 [] H with
        | none => none
        | some r => run P f t b.2.2.2.2 c.2.2.2 L (r.1.toList ++ b.2.2.2.1) r.2)
    | some (.inr (.inr k)) => (match retA k S with | none => none | some v => some (v, H))
/-- .. as far as the pc e of the outermost body -/
def runTo (P : Prg) (e : Nat) : Nat → Tr → Room → Nat → List AS → List AV → List AC → Option St
  | 0, _, _, _, _, _, _ => none
  | f + 1, t, rm, pc, L, S, H =>
    bif Nat.beq pc e then some (rm, pc, L, S, H) else
    match t pc with
    | none => none
    | some (.inl o) => (match o rm L S H with | none => none | some q => runTo P e f t q.1 q.2.1 q.2.2.1 q.2.2.2.1 q.2.2.2.2)
    | some (.inr (.inl c)) =>
      (match preC P c rm S H with
      | none => none
      | some b =>
        match run P f b.1 b.2.1 0 b.2.2.1 [] H with
        | none => none
        | some r => runTo P e f t b.2.2.2.2 c.2.2.2 L (r.1.toList ++ b.2.2.2.1) r.2)
    | some (.inr (.inr _)) => none
def SemC (tb : List Cond) (K : KTab) (μ μ' : Mth) (pc na cls nx : Nat) : Prop :=
  ∀ (rm rm' : Room) (L : List Slot) (as S : List Value) (H : AHeap) (Q Q' : Option Value → AHeap → Prop), as.length = na → Rcv cls as H → M tb K μ' rm' as H Q' → rok rm rm' μ'.2.2.1 S = true → (∀ v H', Q' v H' → W tb K μ (less rm rm') nx L (v.toList ++ S) H' Q) → W tb K μ rm pc L (as.reverse ++ S) H Q
def SemR (tb : List Cond) (K : KTab) (μ : Mth) (pc k : Nat) : Prop :=
  ∀ (ox : Int64) (oy : OY) (rm : Room) (L : List Slot) (S : List AV) (H : AHeap) (Q : Option Value → AHeap → Prop) (v : Option AV), retA k S = some v → Q (v.map (gv ox oy)) H → W tb K μ rm pc L (S.map (gv ox oy)) H Q
def SemO (tb : List Cond) (K : KTab) (MS : List Mth) (μ : Mth) (pc : Nat) : Op → Prop
  | .inl o => Sem1 tb K μ pc o
  | .inr (.inl c) => ∀ μ', MS[c.1]? = some μ' → SemC tb K μ μ' pc c.2.1 c.2.2.1 c.2.2.2
  | .inr (.inr k) => SemR tb K μ pc k
theorem SemR.v (hd : decode μ.2.1 pc = .ok (.return_, 1)) (hr0 : μ.2.2.2 = none) : SemR tb K μ pc 0 := fun ox oy rm L S H Q v h hQ => by
  match S, h with
  | [], h => cases h; exact W.ret_ hd hr0 hQ
theorem SemR.i (hd : decode μ.2.1 pc = .ok (.ireturn, 1)) (hr0 : μ.2.2.2 = some .int) : SemR tb K μ pc 1 := fun ox oy rm L S H Q v h hQ => by
  match S, h with
  | .inl (.int x) :: r, h => cases h; exact W.ireturn hd hr0 hQ
theorem SemR.z (hd : decode μ.2.1 pc = .ok (.ireturn, 1)) (hr0 : μ.2.2.2 = some .boolean) : SemR tb K μ pc 2 := fun ox oy rm L S H Q v h hQ => by
  match S, h with
  | .inl (.int x) :: r, h => cases h; exact W.ireturnZ hd hr0 hQ
theorem SemR.l (hd : decode μ.2.1 pc = .ok (.lreturn, 1)) (hr0 : μ.2.2.2 = some .long) : SemR tb K μ pc 3 := fun ox oy rm L S H Q v h hQ => by
  match S, h with
  | .inr (.inl (a, b, c)) :: r, h => cases h; exact W.lreturn hd hr0 hQ
theorem SemR.a {t : FieldType} (hd : decode μ.2.1 pc = .ok (.areturn, 1)) (hr0 : μ.2.2.2 = some t) (ht : t.isReference = true) : SemR tb K μ pc 4 := fun ox oy rm L S H Q v h hQ => by
  match S, h with
  | .inl (.ref i) :: r, h => cases h; exact W.areturn hd hr0 ht rfl hQ
theorem SemO.call {MS : List Mth} {m na cls nx : Nat} (h : MS[m]? = some μ') (hc : SemC tb K μ μ' pc na cls nx) : SemO tb K MS μ pc (.inr (.inl (m, na, cls, nx))) := fun _ h' => by cases h.symm.trans h'; exact hc
theorem SemC.S {idx na : Nat} {ps : List FieldType} {r : Option FieldType} (hd : decode μ.2.1 pc = .ok (.invokestatic idx, 3)) (w1 : Cond.methodLink μ.1.cls idx μ'.1 ∈ tb) (w2 : Cond.static μ'.1 ∈ tb) (w3 : Cond.initialized μ'.1.cls ∈ tb) (w4 : Cond.code μ'.1 μ'.2.1 μ'.2.2.1 μ'.2.2.2 ∈ tb) (hy : plainCls μ')
    (hp : parseMethodDescriptor μ'.1.desc = some ⟨ps, r⟩) (hn : ps.length = na) : SemC tb K μ μ' pc na 0 (pc + 3) :=
  fun rm rm' L as S H Q Q' hl _ hM hr h => W.callS hd w1 w2 w3 w4 hy hp (hl.trans hn.symm) rfl hM hr h
theorem SemC.I {idx na : Nat} {ps : List FieldType} {r : Option FieldType} (hd : decode μ.2.1 pc = .ok (.invokespecial idx, 3)) (hn : μ'.1.name = "<init>") (hr0 : μ'.2.2.2 = none) (w1 : Cond.methodLink μ.1.cls idx μ'.1 ∈ tb) (w2 : Cond.instanceMethod μ'.1 ∈ tb) (w3 : Cond.initialized μ'.1.cls ∈ tb) (w4 : Cond.code μ'.1 μ'.2.1 μ'.2.2.1 μ'.2.2.2 ∈ tb) (hy : plainCls μ')
    (hp : parseMethodDescriptor μ'.1.desc = some ⟨ps, r⟩) (hl' : ps.length + 1 = na) : SemC tb K μ μ' pc na 1 (pc + 3) :=
  fun rm rm' L as S H Q Q' hl hv hM hr h => by
    obtain ⟨i, as, rfl⟩ := hv
    exact W.callI hd hn hr0 w1 w2 w3 w4 hy hp (by simp only [List.length_cons] at hl; omega) (by simp) hM hr h
theorem SemC.IN {host : String} {idx na : Nat} {ps : List FieldType} {r : Option FieldType} (hd : decode μ.2.1 pc = .ok (.invokespecial idx, 3)) (hn : μ'.1.name = "<init>") (hr0 : μ'.2.2.2 = none) (w1 : Cond.methodLinkNest μ.1.cls idx μ'.1 host ∈ tb) (w2 : Cond.instanceMethod μ'.1 ∈ tb) (w3 : Cond.initialized μ'.1.cls ∈ tb) (w4 : Cond.code μ'.1 μ'.2.1 μ'.2.2.1 μ'.2.2.2 ∈ tb) (hy : plainCls μ')
    (hp : parseMethodDescriptor μ'.1.desc = some ⟨ps, r⟩) (hl' : ps.length + 1 = na) : SemC tb K μ μ' pc na 1 (pc + 3) :=
  fun rm rm' L as S H Q Q' hl hv hM hr h => by
    obtain ⟨i, as, rfl⟩ := hv
    exact W.callIN hd hn hr0 w1 w2 w3 w4 hy hp (by simp only [List.length_cons] at hl; omega) (by simp) hM hr h
theorem SemC.V {idx c n na : Nat} {C : String} {fs : List (String × String × String × FieldType)} {y : MethodName} {ps : List FieldType} {r : Option FieldType} (hd : decode μ.2.1 pc = .ok (.invokevirtual idx, 3)) (w1 : Cond.methodLink μ.1.cls idx y ∈ tb) (w2 : Cond.declares y ∈ tb) (w3 : Cond.selects C y μ'.1 ∈ tb) (hnf : y = μ'.1 ∨ ∃ q ∈ K, q.1 = y.cls) (hKO : KOk tb K)
    (w4 : Cond.instanceMethod μ'.1 ∈ tb) (w5 : Cond.initialized μ'.1.cls ∈ tb) (w6 : Cond.code μ'.1 μ'.2.1 μ'.2.2.1 μ'.2.2.2 ∈ tb) (hy : y.cls ≠ "java/lang/invoke/MethodHandle" ∧ y.cls ≠ "java/lang/invoke/VarHandle") (hK : K[c]? = some (C, n, fs)) (hp : parseMethodDescriptor y.desc = some ⟨ps, r⟩) (hl' : ps.length + 1 = na) : SemC tb K μ μ' pc na (c + 2) (pc + 3) :=
  fun rm rm' L as S H Q Q' hl hv hM hr h => by
    obtain ⟨i, as, vs, rfl, hH⟩ := hv
    exact W.callV hd w1 w2 w3 hnf hKO w4 w5 w6 hy hK hp (by simp only [List.length_cons] at hl; omega) (by simp) hH hM hr h
theorem SemC.P {idx c n na : Nat} {C : String} {fs : List (String × String × String × FieldType)} {ps : List FieldType} {r : Option FieldType} (hd : decode μ.2.1 pc = .ok (.invokevirtual idx, 3)) (w1 : Cond.methodLink μ.1.cls idx μ'.1 ∈ tb) (w2 : Cond.privateMethod μ'.1 ∈ tb) (hKO : KOk tb K)
    (w4 : Cond.instanceMethod μ'.1 ∈ tb) (w5 : Cond.initialized μ'.1.cls ∈ tb) (w6 : Cond.code μ'.1 μ'.2.1 μ'.2.2.1 μ'.2.2.2 ∈ tb) (hy : plainCls μ') (hK : K[c]? = some (C, n, fs)) (hC : C = μ'.1.cls) (hp : parseMethodDescriptor μ'.1.desc = some ⟨ps, r⟩) (hl' : ps.length + 1 = na) : SemC tb K μ μ' pc na (c + 2) (pc + 3) :=
  fun rm rm' L as S H Q Q' hl hv hM hr h => by
    obtain ⟨i, as, vs, rfl, hH⟩ := hv
    exact W.callP hd w1 w2 hKO w4 w5 w6 hy hK hC hp (by simp only [List.length_cons] at hl; omega) (by simp) hH hM hr h
def PrgOk (tb : List Cond) (K : KTab) (MS : List Mth) (P : Prg) : Prop :=
  ∀ (m : Nat) (t : Tr) (n : Nat) (rm : Room), P[m]? = some (t, n, rm) → ∃ μ, MS[m]? = some μ ∧ n = μ.2.2.1 ∧ plainFor μ.1 = true ∧ TrAll (SemO tb K MS μ) t
theorem call_ok {MS : List Mth} {P : Prg} (hP : PrgOk tb K MS P) {c : Nat × Nat × Nat × Nat} (hs : SemO tb K MS μ pc (.inr (.inl c))) {L : List AS} {S : List AV} {H : List AC} {b : Tr × Room × List AS × List AV × Room} (h : preC P c rm S H = some b) :
    ∃ μ' : Mth, TrAll (SemO tb K MS μ') b.1 ∧ ∀ (v : Option AV) (H' : List AC) (Q : Option Value → AHeap → Prop), W tb K μ' b.2.1 0 (b.2.2.1.map (gs ox oy)) [] (H.map (gc ox oy)) (Is (v.map (gv ox oy)) (H'.map (gc ox oy))) → W tb K μ b.2.2.2.2 c.2.2.2 (L.map (gs ox oy)) ((v.toList ++ b.2.2.2.1).map (gv ox oy)) (H'.map (gc ox oy)) Q → W tb K μ rm pc (L.map (gs ox oy)) (S.map (gv ox oy)) (H.map (gc ox oy)) Q := by
  obtain ⟨m, na, cls, nx⟩ := c
  unfold preC at h
  split at h
  · cases h
  · rename_i a hp
    obtain ⟨as, S'⟩ := a
    split at h
    · cases h
    · rename_i b' hm
      obtain ⟨t', n, rm'⟩ := b'
      obtain ⟨μ', hμ, rfl, hpl, hT'⟩ := hP m t' n rm' hm
      obtain ⟨hg, rfl⟩ := cbool h
      simp only [Bool.and_eq_true] at hg
      obtain ⟨g1, g2, g3⟩ := hg
      refine ⟨μ', hT', fun v1 H1 Q h1 h2 => ?_⟩
      obtain ⟨p1, p2⟩ := popN_spec hp
      have hM : M tb K μ' rm' (as.map (gv ox oy)) (H.map (gc ox oy)) (Is (v1.map (gv ox oy)) (H1.map (gc ox oy))) :=
        M.of (L := (entP μ'.2.2.1 as).map (gs ox oy)) hpl (by rw [entA_gs, entP, List.map_append, List.map_replicate, List.length_map]; rfl) (by rw [List.length_map]; exact Nat.beq_eq.mp g3) h1
      have := hs μ' hμ rm rm' (L.map (gs ox oy)) (as.map (gv ox oy)) (S'.map (gv ox oy)) (H.map (gc ox oy)) Q _ (by rw [List.length_map, p2]; rfl) (rcv_of g1) hM (by rw [rok, wt_gv]; exact g2) (fun v2 H2 q => by
        obtain ⟨rfl, rfl⟩ := q
        have e : (v1.map (gv ox oy)).toList ++ S'.map (gv ox oy) = (v1.toList ++ S').map (gv ox oy) := by cases v1 <;> rfl
        rw [e]; exact h2)
      have e : S.map (gv ox oy) = (as.map (gv ox oy)).reverse ++ S'.map (gv ox oy) := by
        have := congrArg (List.map (gv ox oy)) p1
        rw [List.map_append, List.map_reverse] at this
        exact this.symm
      rw [e]; exact this
theorem run_ok {MS : List Mth} {P : Prg} (hP : PrgOk tb K MS P) (hb : Bnd ox oy) : ∀ (f : Nat) {t : Tr} {μ : Mth}, TrAll (SemO tb K MS μ) t → ∀ {rm : Room} {pc : Nat} {L : List AS} {S : List AV} {H : List AC} {v : Option AV} {H' : List AC}, run P f t rm pc L S H = some (v, H') → ∀ {Q : Option Value → AHeap → Prop}, Q (v.map (gv ox oy)) (H'.map (gc ox oy)) → W tb K μ rm pc (L.map (gs ox oy)) (S.map (gv ox oy)) (H.map (gc ox oy)) Q
  | 0, _, _, _, _, _, _, _, _, _, _, h, _, _ => by cases h
  | f + 1, t, μ, hT, rm, pc, L, S, H, v, H', h, Q, hQ => by
    cases ho : t pc with
    | none => rw [run, ho] at h; cases h
    | some o =>
      have hs := hT pc o ho
      rw [run, ho] at h
      match o, hs, h with
      | .inl o, hs, h =>
        dsimp only at h
        split at h
        · cases h
        · rename_i q hq
          exact hs ox oy hb rm L S H Q q hq (run_ok hP hb f hT h hQ)
      | .inr (.inr k), hs, h =>
        dsimp only at h
        split at h
        · cases h
        · rename_i w hw
          cases h
          exact hs ox oy rm _ S _ Q _ hw hQ
      | .inr (.inl c), hs, h =>
        dsimp only at h
        split at h
        · cases h
        · rename_i b hc
          obtain ⟨μ', hT', X⟩ := call_ok (ox := ox) (oy := oy) (L := L) hP hs hc
          split at h
          · cases h
          · rename_i r hr1
            exact X r.1 r.2 Q (run_ok hP hb f hT' hr1 ⟨rfl, rfl⟩) (run_ok hP hb f hT h hQ)
theorem runTo_ok {MS : List Mth} {P : Prg} {e : Nat} (hP : PrgOk tb K MS P) (hb : Bnd ox oy) : ∀ (f : Nat) {t : Tr} {μ : Mth}, TrAll (SemO tb K MS μ) t → ∀ {rm : Room} {pc : Nat} {L : List AS} {S : List AV} {H : List AC} {q : St}, runTo P e f t rm pc L S H = some q → ∀ {Q : Option Value → AHeap → Prop}, W tb K μ q.1 q.2.1 (q.2.2.1.map (gs ox oy)) (q.2.2.2.1.map (gv ox oy)) (q.2.2.2.2.map (gc ox oy)) Q → W tb K μ rm pc (L.map (gs ox oy)) (S.map (gv ox oy)) (H.map (gc ox oy)) Q
  | 0, _, _, _, _, _, _, _, _, _, h, _, _ => by cases h
  | f + 1, t, μ, hT, rm, pc, L, S, H, q, h, Q, hQ => by
    rw [runTo] at h
    cases he : Nat.beq pc e with
    | true => rw [he, cond_true] at h; cases h; exact hQ
    | false =>
      rw [he, cond_false] at h
      cases ho : t pc with
      | none => rw [ho] at h; cases h
      | some o =>
        have hs := hT pc o ho
        rw [ho] at h
        match o, hs, h with
        | .inl o, hs, h =>
          dsimp only at h
          split at h
          · cases h
          · rename_i q' hq
            exact hs ox oy hb rm L S H Q q' hq (runTo_ok hP hb f hT h hQ)
        | .inr (.inr k), hs, h => cases h
        | .inr (.inl c), hs, h =>
          dsimp only at h
          split at h
          · cases h
          · rename_i b hc
            obtain ⟨μ', hT', X⟩ := call_ok (ox := ox) (oy := oy) (L := L) hP hs hc
            split at h
            · cases h
            · rename_i r hr1
              exact X r.1 r.2 Q (run_ok hP hb f hT' hr1 ⟨rfl, rfl⟩) (runTo_ok hP hb f hT h hQ)
def chk : Option (Option AV × List AC) → Bool
  | some (some (.inl (.int x)), _) => x == 1
  | _ => false
theorem run_one {MS : List Mth} {P : Prg} (hP : PrgOk tb K MS P) (hb : Bnd ox oy) {f : Nat} {t : Tr} (hT : TrAll (SemO tb K MS μ) t) {L : List AS} {S : List AV} {H : List AC} (h : chk (run P f t rm pc L S H) = true) : W tb K μ rm pc (L.map (gs ox oy)) (S.map (gv ox oy)) (H.map (gc ox oy)) (fun v _ => v = some (.int 1)) := by
  cases hr : run P f t rm pc L S H with
  | none => rw [hr] at h; cases h
  | some q =>
    obtain ⟨v, H'⟩ := q
    rw [hr] at h
    match v, h with
    | some (.inl (.int x)), h =>
      refine run_ok hP hb f hT hr ?_
      have : x = 1 := eq_of_beq h
      rw [this]; rfl
theorem set_same {α : Type} : ∀ {L : List α} {i : Nat} {a : α}, L[i]? = some a → L.set i a = L
  | [], i, a, h => by simp at h
  | b :: L, 0, a, h => by simp at h; rw [h]; rfl
  | b :: L, i + 1, a, h => by rw [List.set_cons_succ, set_same (by simpa using h)]
/-- from where runTo stands on: the local i, the j-th unknown int, has the bits k set to m -/
def finM (P : Prg) (f : Nat) (t : Tr) (i j : Nat) (k m : Int32) (q : Option St) : Bool :=
  match q with
  | none => false
  | some q =>
    match q.2.2.1[i]? with
    | some (some (some (.inr (.inr (j', k', m'))))) => Nat.beq j' j && (k' == 0) && (m' == 0) && chk (run P f t q.1 q.2.1 (q.2.2.1.set i (some (some (.inr (.inr (j, k, m)))))) q.2.2.2.1 q.2.2.2.2)
    | _ => false
theorem finM_one {MS : List Mth} {P : Prg} (hP : PrgOk tb K MS P) (hb : Bnd ox oy) {e f f' i j : Nat} {k m : Int32} {t : Tr} (hT : TrAll (SemO tb K MS μ) t) (hm : oy.2 j &&& k = m) {L : List AS} {S : List AV} {H : List AC} (h : finM P f' t i j k m (runTo P e f t rm pc L S H) = true) : W tb K μ rm pc (L.map (gs ox oy)) (S.map (gv ox oy)) (H.map (gc ox oy)) (fun v _ => v = some (.int 1)) := by
  unfold finM at h
  split at h
  · cases h
  · rename_i q hq
    split at h
    · rename_i j' k' m' hi
      simp only [Bool.and_eq_true, Nat.beq_eq, beq_iff_eq] at h
      obtain ⟨⟨⟨rfl, rfl⟩, rfl⟩, h⟩ := h
      refine runTo_ok hP hb f hT hq ?_
      have := run_one (ox := ox) (oy := oy) hP hb hT h
      rw [List.map_set] at this
      have e : gs ox oy (some (some (.inr (.inr (j', k, m))))) = gs ox oy (some (some (.inr (.inr (j', 0, 0))))) := by
        simp only [gs, gv, hm, Int32.and_zero, if_true]
      rw [e, set_same (getL hi)] at this
      exact this
    · cases h
end Sound
end Jvm.Own
namespace Jvm.Pilot.@@N@@
open Jvm Jvm.ClassFile Sem Op Lib Jvm.Free Jvm.Stand Jvm.LawKit Jvm.RoadKit Jvm.Own Bundle Jvm.Pilot.@@N@@.Jvm.D
/-! PRINTED BY gen.py: the classes, the methods, one lemma a site -/
def KT : KTab := [("com/example/overlay_of_graphs/overlayofgraphs/embed/ConvexHull", 9, [("com/example/overlay_of_graphs/overlayofgraphs/embed/ConvexHull", "x", "[J", (.array .long)), ("com/example/overlay_of_graphs/overlayofgraphs/embed/ConvexHull", "points", "[I", (.array .int)), ("com/example/overlay_of_graphs/overlayofgraphs/embed/ConvexHull", "xy", "[J", (.array .long)), ("com/example/overlay_of_graphs/overlayofgraphs/embed/ConvexHull", "leaves", "I", .int), ("com/example/overlay_of_graphs/overlayofgraphs/embed/ConvexHull", "first", "[I", (.array .int)), ("com/example/overlay_of_graphs/overlayofgraphs/embed/ConvexHull", "last", "[I", (.array .int)), ("com/example/overlay_of_graphs/overlayofgraphs/embed/ConvexHull", "upper", "Lcom/example/overlay_of_graphs/overlayofgraphs/embed/ConvexHull$Chain;", (.object "com/example/overlay_of_graphs/overlayofgraphs/embed/ConvexHull$Chain")), ("com/example/overlay_of_graphs/overlayofgraphs/embed/ConvexHull", "lower", "Lcom/example/overlay_of_graphs/overlayofgraphs/embed/ConvexHull$Chain;", (.object "com/example/overlay_of_graphs/overlayofgraphs/embed/ConvexHull$Chain")), ("com/example/overlay_of_graphs/overlayofgraphs/embed/ConvexHull", "size", "I", .int)]), ("com/example/overlay_of_graphs/overlayofgraphs/embed/ConvexHull$Chain", 5, [("com/example/overlay_of_graphs/overlayofgraphs/embed/ConvexHull$Chain", "this$0", "Lcom/example/overlay_of_graphs/overlayofgraphs/embed/ConvexHull;", (.object "com/example/overlay_of_graphs/overlayofgraphs/embed/ConvexHull")), ("com/example/overlay_of_graphs/overlayofgraphs/embed/ConvexHull$Chain", "walk", "Lcom/example/overlay_of_graphs/overlayofgraphs/embed/ConvexHull$Chain$Walk;", (.object "com/example/overlay_of_graphs/overlayofgraphs/embed/ConvexHull$Chain$Walk")), ("com/example/overlay_of_graphs/overlayofgraphs/embed/ConvexHull$Chain", "otherWalk", "Lcom/example/overlay_of_graphs/overlayofgraphs/embed/ConvexHull$Chain$Walk;", (.object "com/example/overlay_of_graphs/overlayofgraphs/embed/ConvexHull$Chain$Walk")), ("com/example/overlay_of_graphs/overlayofgraphs/embed/ConvexHull$Chain", "mirror", "I", .int), ("com/example/overlay_of_graphs/overlayofgraphs/embed/ConvexHull$Chain", "bridge", "[I", (.array .int))]), ("com/example/overlay_of_graphs/overlayofgraphs/embed/ConvexHull$Chain$Walk", 4, [("com/example/overlay_of_graphs/overlayofgraphs/embed/ConvexHull$Chain$Walk", "this$1", "Lcom/example/overlay_of_graphs/overlayofgraphs/embed/ConvexHull$Chain;", (.object "com/example/overlay_of_graphs/overlayofgraphs/embed/ConvexHull$Chain")), ("com/example/overlay_of_graphs/overlayofgraphs/embed/ConvexHull$Chain$Walk", "node", "I", .int), ("com/example/overlay_of_graphs/overlayofgraphs/embed/ConvexHull$Chain$Walk", "lo", "I", .int), ("com/example/overlay_of_graphs/overlayofgraphs/embed/ConvexHull$Chain$Walk", "hi", "I", .int)])]
theorem kt : KOk tables_1 KT := (KOk.cons (List.mem_of_getElem? (i := 18) rfl) (fokS ⟨Or.inr (List.mem_of_getElem? (i := 27) rfl), by decide⟩ (fokS ⟨Or.inr (List.mem_of_getElem? (i := 29) rfl), by decide⟩ (fokS ⟨Or.inr (List.mem_of_getElem? (i := 31) rfl), by decide⟩ (fokS ⟨Or.inr (List.mem_of_getElem? (i := 33) rfl), by decide⟩ (fokS ⟨Or.inr (List.mem_of_getElem? (i := 35) rfl), by decide⟩ (fokS ⟨Or.inr (List.mem_of_getElem? (i := 37) rfl), by decide⟩ (fokS ⟨Or.inr (List.mem_of_getElem? (i := 66) rfl), by decide⟩ (fokS ⟨Or.inr (List.mem_of_getElem? (i := 68) rfl), by decide⟩ (fokS ⟨Or.inl (List.mem_of_getElem? (i := 150) rfl), by decide⟩ fok0))))))))) (by decide) (KOk.cons (List.mem_of_getElem? (i := 39) rfl) (fokS ⟨Or.inr (List.mem_of_getElem? (i := 45) rfl), by decide⟩ (fokS ⟨Or.inr (List.mem_of_getElem? (i := 57) rfl), by decide⟩ (fokS ⟨Or.inr (List.mem_of_getElem? (i := 59) rfl), by decide⟩ (fokS ⟨Or.inr (List.mem_of_getElem? (i := 61) rfl), by decide⟩ (fokS ⟨Or.inr (List.mem_of_getElem? (i := 64) rfl), by decide⟩ fok0))))) (by decide) (KOk.cons (List.mem_of_getElem? (i := 48) rfl) (fokS ⟨Or.inr (List.mem_of_getElem? (i := 54) rfl), by decide⟩ (fokS ⟨Or.inl (List.mem_of_getElem? (i := 88) rfl), by decide⟩ (fokS ⟨Or.inl (List.mem_of_getElem? (i := 90) rfl), by decide⟩ (fokS ⟨Or.inl (List.mem_of_getElem? (i := 92) rfl), by decide⟩ fok0)))) (by decide) KOk.nil)))
abbrev μ0 : Mth := (x, code, 20, ret)
abbrev W0 := W tables_1 KT μ0
abbrev M0 := M tables_1 KT μ0
theorem pf0 : plainFor μ0.1 = true := by first | (refine plainFor_of_name ?_; simp [plainName, overriddenIn, x]; done) | decide +kernel
theorem pd0 : parseMethodDescriptor "(IIIII)Z" = some ⟨[.int, .int, .int, .int, .int], some .boolean⟩ := by decide +kernel
abbrev μ1 : Mth := (⟨"java/lang/Math", "min", "(JJ)J"⟩, jdk_29_method_70_code, 4, some .long)
abbrev W1 := W tables_1 KT μ1
abbrev M1 := M tables_1 KT μ1
theorem pf1 : plainFor μ1.1 = true := by first | (refine plainFor_of_name ?_; simp [plainName, overriddenIn, x]; done) | decide +kernel
theorem pd1 : parseMethodDescriptor "(JJ)J" = some ⟨[.long, .long], some .long⟩ := by decide +kernel
abbrev μ2 : Mth := (⟨"com/example/overlay_of_graphs/overlayofgraphs/embed/ConvexHullToArrayPinLaw", "place", "([I[J[J[JIIIJJ)V"⟩, method_2_code, 12, none)
abbrev W2 := W tables_1 KT μ2
abbrev M2 := M tables_1 KT μ2
theorem pf2 : plainFor μ2.1 = true := by first | (refine plainFor_of_name ?_; simp [plainName, overriddenIn, x]; done) | decide +kernel
theorem pd2 : parseMethodDescriptor "([I[J[J[JIIIJJ)V" = some ⟨[(.array .int), (.array .long), (.array .long), (.array .long), .int, .int, .int, .long, .long], none⟩ := by decide +kernel
abbrev μ3 : Mth := (⟨"com/example/overlay_of_graphs/overlayofgraphs/embed/ConvexHull", "<init>", "([J[J[I)V"⟩, prog_13_method_1_code, 6, none)
abbrev W3 := W tables_1 KT μ3
abbrev M3 := M tables_1 KT μ3
theorem pf3 : plainFor μ3.1 = true := by first | (refine plainFor_of_name ?_; simp [plainName, overriddenIn, x]; done) | decide +kernel
theorem pd3 : parseMethodDescriptor "([J[J[I)V" = some ⟨[(.array .long), (.array .long), (.array .int)], none⟩ := by decide +kernel
abbrev μ4 : Mth := (⟨"com/example/overlay_of_graphs/overlayofgraphs/embed/ConvexHull$Chain", "<init>", "(Lcom/example/overlay_of_graphs/overlayofgraphs/embed/ConvexHull;I)V"⟩, prog_14_method_1_code, 3, none)
abbrev W4 := W tables_1 KT μ4
abbrev M4 := M tables_1 KT μ4
theorem pf4 : plainFor μ4.1 = true := by first | (refine plainFor_of_name ?_; simp [plainName, overriddenIn, x]; done) | decide +kernel
theorem pd4 : parseMethodDescriptor "(Lcom/example/overlay_of_graphs/overlayofgraphs/embed/ConvexHull;I)V" = some ⟨[(.object "com/example/overlay_of_graphs/overlayofgraphs/embed/ConvexHull"), .int], none⟩ := by decide +kernel
abbrev μ5 : Mth := (⟨"com/example/overlay_of_graphs/overlayofgraphs/embed/ConvexHull$Chain$Walk", "<init>", "(Lcom/example/overlay_of_graphs/overlayofgraphs/embed/ConvexHull$Chain;)V"⟩, prog_15_method_1_code, 2, none)
abbrev W5 := W tables_1 KT μ5
abbrev M5 := M tables_1 KT μ5
theorem pf5 : plainFor μ5.1 = true := by first | (refine plainFor_of_name ?_; simp [plainName, overriddenIn, x]; done) | decide +kernel
theorem pd5 : parseMethodDescriptor "(Lcom/example/overlay_of_graphs/overlayofgraphs/embed/ConvexHull$Chain;)V" = some ⟨[(.object "com/example/overlay_of_graphs/overlayofgraphs/embed/ConvexHull$Chain")], none⟩ := by decide +kernel
abbrev μ6 : Mth := (⟨"java/util/Arrays", "fill", "([II)V"⟩, jdk_65_method_103_code, 4, none)
abbrev W6 := W tables_1 KT μ6
abbrev M6 := M tables_1 KT μ6
theorem pf6 : plainFor μ6.1 = true := by first | (refine plainFor_of_name ?_; simp [plainName, overriddenIn, x]; done) | decide +kernel
theorem pd6 : parseMethodDescriptor "([II)V" = some ⟨[(.array .int), .int], none⟩ := by decide +kernel
abbrev μ7 : Mth := (⟨"com/example/overlay_of_graphs/overlayofgraphs/embed/ConvexHull", "joinEnds", "(I)V"⟩, prog_13_method_9_code, 2, none)
abbrev W7 := W tables_1 KT μ7
abbrev M7 := M tables_1 KT μ7
theorem pf7 : plainFor μ7.1 = true := by first | (refine plainFor_of_name ?_; simp [plainName, overriddenIn, x]; done) | decide +kernel
theorem pd7 : parseMethodDescriptor "(I)V" = some ⟨[.int], none⟩ := by decide +kernel
abbrev μ8 : Mth := (⟨"com/example/overlay_of_graphs/overlayofgraphs/embed/ConvexHull$Chain", "bridge", "(III)V"⟩, prog_14_method_4_code, 8, none)
abbrev W8 := W tables_1 KT μ8
abbrev M8 := M tables_1 KT μ8
theorem pf8 : plainFor μ8.1 = true := by first | (refine plainFor_of_name ?_; simp [plainName, overriddenIn, x]; done) | decide +kernel
theorem pd8 : parseMethodDescriptor "(III)V" = some ⟨[.int, .int, .int], none⟩ := by decide +kernel
abbrev μ9 : Mth := (⟨"com/example/overlay_of_graphs/overlayofgraphs/embed/ConvexHull$Chain$Walk", "start", "(III)V"⟩, prog_15_method_2_code, 4, none)
abbrev W9 := W tables_1 KT μ9
abbrev M9 := M tables_1 KT μ9
theorem pf9 : plainFor μ9.1 = true := by first | (refine plainFor_of_name ?_; simp [plainName, overriddenIn, x]; done) | decide +kernel
abbrev μ10 : Mth := (⟨"com/example/overlay_of_graphs/overlayofgraphs/embed/ConvexHull$Chain$Walk", "settle", "()V"⟩, prog_15_method_9_code, 2, none)
abbrev W10 := W tables_1 KT μ10
abbrev M10 := M tables_1 KT μ10
theorem pf10 : plainFor μ10.1 = true := by first | (refine plainFor_of_name ?_; simp [plainName, overriddenIn, x]; done) | decide +kernel
theorem pd9 : parseMethodDescriptor "()V" = some ⟨[], none⟩ := by decide +kernel
abbrev μ11 : Mth := (⟨"com/example/overlay_of_graphs/overlayofgraphs/embed/ConvexHull$Chain$Walk", "atLeaf", "()Z"⟩, prog_15_method_3_code, 1, some .boolean)
abbrev W11 := W tables_1 KT μ11
abbrev M11 := M tables_1 KT μ11
theorem pf11 : plainFor μ11.1 = true := by first | (refine plainFor_of_name ?_; simp [plainName, overriddenIn, x]; done) | decide +kernel
theorem pd10 : parseMethodDescriptor "()Z" = some ⟨[], some .boolean⟩ := by decide +kernel
abbrev μ12 : Mth := (⟨"com/example/overlay_of_graphs/overlayofgraphs/embed/ConvexHull$Chain$Walk", "leaf", "()I"⟩, prog_15_method_4_code, 1, some .int)
abbrev W12 := W tables_1 KT μ12
abbrev M12 := M tables_1 KT μ12
theorem pf12 : plainFor μ12.1 = true := by first | (refine plainFor_of_name ?_; simp [plainName, overriddenIn, x]; done) | decide +kernel
theorem pd11 : parseMethodDescriptor "()I" = some ⟨[], some .int⟩ := by decide +kernel
abbrev μ13 : Mth := (⟨"com/example/overlay_of_graphs/overlayofgraphs/embed/ConvexHull$Chain$Walk", "leftEnd", "()I"⟩, prog_15_method_5_code, 1, some .int)
abbrev W13 := W tables_1 KT μ13
abbrev M13 := M tables_1 KT μ13
theorem pf13 : plainFor μ13.1 = true := by first | (refine plainFor_of_name ?_; simp [plainName, overriddenIn, x]; done) | decide +kernel
abbrev μ14 : Mth := (⟨"com/example/overlay_of_graphs/overlayofgraphs/embed/ConvexHull$Chain$Walk", "rightEnd", "()I"⟩, prog_15_method_6_code, 1, some .int)
abbrev W14 := W tables_1 KT μ14
abbrev M14 := M tables_1 KT μ14
theorem pf14 : plainFor μ14.1 = true := by first | (refine plainFor_of_name ?_; simp [plainName, overriddenIn, x]; done) | decide +kernel
abbrev μ15 : Mth := (⟨"com/example/overlay_of_graphs/overlayofgraphs/embed/ConvexHull$Chain", "above", "(III)Z"⟩, prog_14_method_7_code, 4, some .boolean)
abbrev W15 := W tables_1 KT μ15
abbrev M15 := M tables_1 KT μ15
theorem pf15 : plainFor μ15.1 = true := by first | (refine plainFor_of_name ?_; simp [plainName, overriddenIn, x]; done) | decide +kernel
theorem pd12 : parseMethodDescriptor "(III)Z" = some ⟨[.int, .int, .int], some .boolean⟩ := by decide +kernel
abbrev μ16 : Mth := (⟨"com/example/overlay_of_graphs/overlayofgraphs/embed/ConvexHull$Chain", "across", "(I)J"⟩, prog_14_method_9_code, 2, some .long)
abbrev W16 := W tables_1 KT μ16
abbrev M16 := M tables_1 KT μ16
theorem pf16 : plainFor μ16.1 = true := by first | (refine plainFor_of_name ?_; simp [plainName, overriddenIn, x]; done) | decide +kernel
theorem pd13 : parseMethodDescriptor "(I)J" = some ⟨[.int], some .long⟩ := by decide +kernel
abbrev μ17 : Mth := (⟨"com/example/overlay_of_graphs/overlayofgraphs/embed/ConvexHull$Chain", "height", "(I)J"⟩, prog_14_method_10_code, 2, some .long)
abbrev W17 := W tables_1 KT μ17
abbrev M17 := M tables_1 KT μ17
theorem pf17 : plainFor μ17.1 = true := by first | (refine plainFor_of_name ?_; simp [plainName, overriddenIn, x]; done) | decide +kernel
abbrev μ18 : Mth := (⟨"com/example/overlay_of_graphs/overlayofgraphs/embed/ConvexHull$Chain", "goTowardTouch", "(Lcom/example/overlay_of_graphs/overlayofgraphs/embed/ConvexHull$Chain$Walk;Z)V"⟩, prog_14_method_5_code, 3, none)
abbrev W18 := W tables_1 KT μ18
abbrev M18 := M tables_1 KT μ18
theorem pf18 : plainFor μ18.1 = true := by first | (refine plainFor_of_name ?_; simp [plainName, overriddenIn, x]; done) | decide +kernel
theorem pd14 : parseMethodDescriptor "(Lcom/example/overlay_of_graphs/overlayofgraphs/embed/ConvexHull$Chain$Walk;Z)V" = some ⟨[(.object "com/example/overlay_of_graphs/overlayofgraphs/embed/ConvexHull$Chain$Walk"), .boolean], none⟩ := by decide +kernel
abbrev μ19 : Mth := (⟨"com/example/overlay_of_graphs/overlayofgraphs/embed/ConvexHull$Chain$Walk", "goLeft", "()V"⟩, prog_15_method_7_code, 1, none)
abbrev W19 := W tables_1 KT μ19
abbrev M19 := M tables_1 KT μ19
theorem pf19 : plainFor μ19.1 = true := by first | (refine plainFor_of_name ?_; simp [plainName, overriddenIn, x]; done) | decide +kernel
abbrev μ20 : Mth := (⟨"com/example/overlay_of_graphs/overlayofgraphs/embed/ConvexHull$Chain$Walk", "goRight", "()V"⟩, prog_15_method_8_code, 1, none)
abbrev W20 := W tables_1 KT μ20
abbrev M20 := M tables_1 KT μ20
theorem pf20 : plainFor μ20.1 = true := by first | (refine plainFor_of_name ?_; simp [plainName, overriddenIn, x]; done) | decide +kernel
abbrev μ21 : Mth := (⟨"com/example/overlay_of_graphs/overlayofgraphs/embed/ConvexHull", "remove", "(I)V"⟩, prog_13_method_5_code, 2, none)
abbrev W21 := W tables_1 KT μ21
abbrev M21 := M tables_1 KT μ21
theorem pf21 : plainFor μ21.1 = true := by first | (refine plainFor_of_name ?_; simp [plainName, overriddenIn, x]; done) | decide +kernel
abbrev μ22 : Mth := (⟨"com/example/overlay_of_graphs/overlayofgraphs/embed/ConvexHull", "change", "(IZ)V"⟩, prog_13_method_8_code, 10, none)
abbrev W22 := W tables_1 KT μ22
abbrev M22 := M tables_1 KT μ22
theorem pf22 : plainFor μ22.1 = true := by first | (refine plainFor_of_name ?_; simp [plainName, overriddenIn, x]; done) | decide +kernel
theorem pd15 : parseMethodDescriptor "(IZ)V" = some ⟨[.int, .boolean], none⟩ := by decide +kernel
abbrev μ23 : Mth := (⟨"com/example/overlay_of_graphs/overlayofgraphs/embed/ConvexHull", "leafOf", "(I)I"⟩, prog_13_method_10_code, 3, some .int)
abbrev W23 := W tables_1 KT μ23
abbrev M23 := M tables_1 KT μ23
theorem pf23 : plainFor μ23.1 = true := by first | (refine plainFor_of_name ?_; simp [plainName, overriddenIn, x]; done) | decide +kernel
theorem pd16 : parseMethodDescriptor "(I)I" = some ⟨[.int], some .int⟩ := by decide +kernel
abbrev μ24 : Mth := (⟨"com/example/overlay_of_graphs/overlayofgraphs/embed/ConvexHull", "leavesLeftOf", "(J)I"⟩, prog_13_method_11_code, 6, some .int)
abbrev W24 := W tables_1 KT μ24
abbrev M24 := M tables_1 KT μ24
theorem pf24 : plainFor μ24.1 = true := by first | (refine plainFor_of_name ?_; simp [plainName, overriddenIn, x]; done) | decide +kernel
theorem pd17 : parseMethodDescriptor "(J)I" = some ⟨[.long], some .int⟩ := by decide +kernel
abbrev μ25 : Mth := (⟨"com/example/overlay_of_graphs/overlayofgraphs/embed/ConvexHull$Chain", "change", "(IIZZ)Z"⟩, prog_14_method_3_code, 9, some .boolean)
abbrev W25 := W tables_1 KT μ25
abbrev M25 := M tables_1 KT μ25
theorem pf25 : plainFor μ25.1 = true := by first | (refine plainFor_of_name ?_; simp [plainName, overriddenIn, x]; done) | decide +kernel
theorem pd18 : parseMethodDescriptor "(IIZZ)Z" = some ⟨[.int, .int, .boolean, .boolean], some .boolean⟩ := by decide +kernel
abbrev μ26 : Mth := (⟨"com/example/overlay_of_graphs/overlayofgraphs/embed/ConvexHull", "toArray", "()[I"⟩, prog_13_method_3_code, 4, some (.array .int))
abbrev W26 := W tables_1 KT μ26
abbrev M26 := M tables_1 KT μ26
theorem pf26 : plainFor μ26.1 = true := by first | (refine plainFor_of_name ?_; simp [plainName, overriddenIn, x]; done) | decide +kernel
theorem pd19 : parseMethodDescriptor "()[I" = some ⟨[], some (.array .int)⟩ := by decide +kernel
abbrev μ27 : Mth := (⟨"com/example/overlay_of_graphs/overlayofgraphs/embed/ConvexHull$Chain", "stepBoth", "(Lcom/example/overlay_of_graphs/overlayofgraphs/embed/ConvexHull$Chain$Walk;Lcom/example/overlay_of_graphs/overlayofgraphs/embed/ConvexHull$Chain$Walk;J)V"⟩, prog_14_method_6_code, 11, none)
abbrev W27 := W tables_1 KT μ27
abbrev M27 := M tables_1 KT μ27
theorem pf27 : plainFor μ27.1 = true := by first | (refine plainFor_of_name ?_; simp [plainName, overriddenIn, x]; done) | decide +kernel
theorem pd20 : parseMethodDescriptor "(Lcom/example/overlay_of_graphs/overlayofgraphs/embed/ConvexHull$Chain$Walk;Lcom/example/overlay_of_graphs/overlayofgraphs/embed/ConvexHull$Chain$Walk;J)V" = some ⟨[(.object "com/example/overlay_of_graphs/overlayofgraphs/embed/ConvexHull$Chain$Walk"), (.object "com/example/overlay_of_graphs/overlayofgraphs/embed/ConvexHull$Chain$Walk"), .long], none⟩ := by decide +kernel
abbrev MS : List Mth := [μ0, μ1, μ2, μ3, μ4, μ5, μ6, μ7, μ8, μ9, μ10, μ11, μ12, μ13, μ14, μ15, μ16, μ17, μ18, μ19, μ20, μ21, μ22, μ23, μ24, μ25, μ26, μ27]
theorem ms0 : MS[0]? = some μ0 := rfl
theorem ms1 : MS[1]? = some μ1 := rfl
theorem ms2 : MS[2]? = some μ2 := rfl
theorem ms3 : MS[3]? = some μ3 := rfl
theorem ms4 : MS[4]? = some μ4 := rfl
theorem ms5 : MS[5]? = some μ5 := rfl
theorem ms6 : MS[6]? = some μ6 := rfl
theorem ms7 : MS[7]? = some μ7 := rfl
theorem ms8 : MS[8]? = some μ8 := rfl
theorem ms9 : MS[9]? = some μ9 := rfl
theorem ms10 : MS[10]? = some μ10 := rfl
theorem ms11 : MS[11]? = some μ11 := rfl
theorem ms12 : MS[12]? = some μ12 := rfl
theorem ms13 : MS[13]? = some μ13 := rfl
theorem ms14 : MS[14]? = some μ14 := rfl
theorem ms15 : MS[15]? = some μ15 := rfl
theorem ms16 : MS[16]? = some μ16 := rfl
theorem ms17 : MS[17]? = some μ17 := rfl
theorem ms18 : MS[18]? = some μ18 := rfl
theorem ms19 : MS[19]? = some μ19 := rfl
theorem ms20 : MS[20]? = some μ20 := rfl
theorem ms21 : MS[21]? = some μ21 := rfl
theorem ms22 : MS[22]? = some μ22 := rfl
theorem ms23 : MS[23]? = some μ23 := rfl
theorem ms24 : MS[24]? = some μ24 := rfl
theorem ms25 : MS[25]? = some μ25 := rfl
theorem ms26 : MS[26]? = some μ26 := rfl
theorem ms27 : MS[27]? = some μ27 := rfl
theorem q0_45 : Sem1 tables_1 KT μ0 45 (o_cI 4 46) := Sem1.cI (fun h => W.iconst' at_45 (by decide) h)
theorem q0_46 : Sem1 tables_1 KT μ0 46 (o_newL 48) := Sem1.newL at_46 (List.mem_of_getElem? (i := 8) rfl)
theorem q0_48 : Sem1 tables_1 KT μ0 48 (o_dup 49) := Sem1.dup at_48
theorem q0_49 : Sem1 tables_1 KT μ0 49 (o_cI 0 50) := Sem1.cI (fun h => W.iconst' at_49 (by decide) h)
theorem q0_50 : Sem1 tables_1 KT μ0 50 (o_cL 5 53) := Sem1.cL (x := 5) (by decide) (fun h => W.ldcLong at_50 (List.mem_of_getElem? (i := 9) rfl) h)
theorem q0_53 : Sem1 tables_1 KT μ0 53 (o_last 54) := Sem1.last at_53
theorem q0_54 : Sem1 tables_1 KT μ0 54 (o_dup 55) := Sem1.dup at_54
theorem q0_55 : Sem1 tables_1 KT μ0 55 (o_cI 1 56) := Sem1.cI (fun h => W.iconst' at_55 (by decide) h)
theorem q0_56 : Sem1 tables_1 KT μ0 56 (o_cL 1 57) := Sem1.cL (x := 1) (by decide) (fun h => W.lconst' at_56 (by decide) h)
theorem q0_57 : Sem1 tables_1 KT μ0 57 (o_last 58) := Sem1.last at_57
theorem q0_58 : Sem1 tables_1 KT μ0 58 (o_dup 59) := Sem1.dup at_58
theorem q0_59 : Sem1 tables_1 KT μ0 59 (o_cI 2 60) := Sem1.cI (fun h => W.iconst' at_59 (by decide) h)
theorem q0_60 : Sem1 tables_1 KT μ0 60 (o_cL 4 63) := Sem1.cL (x := 4) (by decide) (fun h => W.ldcLong at_60 (List.mem_of_getElem? (i := 10) rfl) h)
theorem q0_63 : Sem1 tables_1 KT μ0 63 (o_last 64) := Sem1.last at_63
theorem q0_64 : Sem1 tables_1 KT μ0 64 (o_dup 65) := Sem1.dup at_64
theorem q0_65 : Sem1 tables_1 KT μ0 65 (o_cI 3 66) := Sem1.cI (fun h => W.iconst' at_65 (by decide) h)
theorem q0_66 : Sem1 tables_1 KT μ0 66 (o_cL 2 69) := Sem1.cL (x := 2) (by decide) (fun h => W.ldcLong at_66 (List.mem_of_getElem? (i := 11) rfl) h)
theorem q0_69 : Sem1 tables_1 KT μ0 69 (o_last 70) := Sem1.last at_69
theorem q0_70 : Sem1 tables_1 KT μ0 70 (o_stA 11 72) := Sem1.stA at_70
theorem q0_72 : Sem1 tables_1 KT μ0 72 (o_cI 4 73) := Sem1.cI (fun h => W.iconst' at_72 (by decide) h)
theorem q0_73 : Sem1 tables_1 KT μ0 73 (o_newL 75) := Sem1.newL at_73 (List.mem_of_getElem? (i := 8) rfl)
theorem q0_75 : Sem1 tables_1 KT μ0 75 (o_stA 12 77) := Sem1.stA at_75
theorem q0_77 : Sem1 tables_1 KT μ0 77 (o_cI 4 78) := Sem1.cI (fun h => W.iconst' at_77 (by decide) h)
theorem q0_78 : Sem1 tables_1 KT μ0 78 (o_newL 80) := Sem1.newL at_78 (List.mem_of_getElem? (i := 8) rfl)
theorem q0_80 : Sem1 tables_1 KT μ0 80 (o_stA 13 82) := Sem1.stA at_80
theorem q0_82 : Sem1 tables_1 KT μ0 82 (o_ldI 5 84) := Sem1.ldI at_82
theorem q0_84 : Sem1 tables_1 KT μ0 84 (o_newI 86) := Sem1.newI at_84 (List.mem_of_getElem? (i := 12) rfl)
theorem q0_86 : Sem1 tables_1 KT μ0 86 (o_stA 14 88) := Sem1.stA at_86
theorem q0_88 : Sem1 tables_1 KT μ0 88 (o_ldA 14 90) := Sem1.ldA at_88
theorem q0_90 : Sem1 tables_1 KT μ0 90 (o_ldA 12 92) := Sem1.ldA at_90
theorem q0_92 : Sem1 tables_1 KT μ0 92 (o_ldA 13 94) := Sem1.ldA at_92
theorem q0_94 : Sem1 tables_1 KT μ0 94 (o_ldA 11 96) := Sem1.ldA at_94
theorem q0_96 : Sem1 tables_1 KT μ0 96 (o_cI 0 97) := Sem1.cI (fun h => W.iconst' at_96 (by decide) h)
theorem q0_97 : Sem1 tables_1 KT μ0 97 (o_ldI 5 99) := Sem1.ldI at_97
theorem q0_99 : Sem1 tables_1 KT μ0 99 (o_ldI 6 101) := Sem1.ldI at_99
theorem q0_101 : Sem1 tables_1 KT μ0 101 (o_ldL 7 103) := Sem1.ldL at_101
theorem q0_103 : Sem1 tables_1 KT μ0 103 (o_ldL 9 105) := Sem1.ldL at_103
theorem q0_105 : SemC tables_1 KT μ0 μ2 105 9 0 108 := SemC.S at_105 (List.mem_of_getElem? (i := 13) rfl) (List.mem_of_getElem? (i := 14) rfl) (List.mem_of_getElem? (i := 15) rfl) (List.mem_of_getElem? (i := 16) rfl) (by decide) pd2 rfl
theorem q0_108 : Sem1 tables_1 KT μ0 108 (o_ldA 14 110) := Sem1.ldA at_108
theorem q0_110 : Sem1 tables_1 KT μ0 110 (o_ldA 12 112) := Sem1.ldA at_110
theorem q0_112 : Sem1 tables_1 KT μ0 112 (o_ldA 13 114) := Sem1.ldA at_112
theorem q0_114 : Sem1 tables_1 KT μ0 114 (o_ldA 11 116) := Sem1.ldA at_114
theorem q0_116 : Sem1 tables_1 KT μ0 116 (o_cI 1 117) := Sem1.cI (fun h => W.iconst' at_116 (by decide) h)
theorem q0_117 : Sem1 tables_1 KT μ0 117 (o_ldI 5 119) := Sem1.ldI at_117
theorem q0_119 : Sem1 tables_1 KT μ0 119 (o_ldI 6 121) := Sem1.ldI at_119
theorem q0_121 : Sem1 tables_1 KT μ0 121 (o_ldL 7 123) := Sem1.ldL at_121
theorem q0_123 : Sem1 tables_1 KT μ0 123 (o_ldL 9 125) := Sem1.ldL at_123
theorem q0_125 : SemC tables_1 KT μ0 μ2 125 9 0 128 := SemC.S at_125 (List.mem_of_getElem? (i := 13) rfl) (List.mem_of_getElem? (i := 14) rfl) (List.mem_of_getElem? (i := 15) rfl) (List.mem_of_getElem? (i := 16) rfl) (by decide) pd2 rfl
theorem q0_128 : Sem1 tables_1 KT μ0 128 (o_ldA 14 130) := Sem1.ldA at_128
theorem q0_130 : Sem1 tables_1 KT μ0 130 (o_ldA 12 132) := Sem1.ldA at_130
theorem q0_132 : Sem1 tables_1 KT μ0 132 (o_ldA 13 134) := Sem1.ldA at_132
theorem q0_134 : Sem1 tables_1 KT μ0 134 (o_ldA 11 136) := Sem1.ldA at_134
theorem q0_136 : Sem1 tables_1 KT μ0 136 (o_cI 2 137) := Sem1.cI (fun h => W.iconst' at_136 (by decide) h)
theorem q0_137 : Sem1 tables_1 KT μ0 137 (o_ldI 5 139) := Sem1.ldI at_137
theorem q0_139 : Sem1 tables_1 KT μ0 139 (o_ldI 6 141) := Sem1.ldI at_139
theorem q0_141 : Sem1 tables_1 KT μ0 141 (o_ldL 7 143) := Sem1.ldL at_141
theorem q0_143 : Sem1 tables_1 KT μ0 143 (o_ldL 9 145) := Sem1.ldL at_143
theorem q0_145 : SemC tables_1 KT μ0 μ2 145 9 0 148 := SemC.S at_145 (List.mem_of_getElem? (i := 13) rfl) (List.mem_of_getElem? (i := 14) rfl) (List.mem_of_getElem? (i := 15) rfl) (List.mem_of_getElem? (i := 16) rfl) (by decide) pd2 rfl
theorem q0_148 : Sem1 tables_1 KT μ0 148 (o_ldI 5 150) := Sem1.ldI at_148
theorem q0_150 : Sem1 tables_1 KT μ0 150 (o_cI 4 151) := Sem1.cI (fun h => W.iconst' at_150 (by decide) h)
theorem q0_151 : Sem1 tables_1 KT μ0 151 (o_icmp .ne 174 154) := Sem1.icmp at_151 (by decide) (by decide)
theorem q0_154 : Sem1 tables_1 KT μ0 154 (o_ldA 14 156) := Sem1.ldA at_154
theorem q0_156 : Sem1 tables_1 KT μ0 156 (o_ldA 12 158) := Sem1.ldA at_156
theorem q0_158 : Sem1 tables_1 KT μ0 158 (o_ldA 13 160) := Sem1.ldA at_158
theorem q0_160 : Sem1 tables_1 KT μ0 160 (o_ldA 11 162) := Sem1.ldA at_160
theorem q0_162 : Sem1 tables_1 KT μ0 162 (o_cI 3 163) := Sem1.cI (fun h => W.iconst' at_162 (by decide) h)
theorem q0_163 : Sem1 tables_1 KT μ0 163 (o_ldI 5 165) := Sem1.ldI at_163
theorem q0_165 : Sem1 tables_1 KT μ0 165 (o_ldI 6 167) := Sem1.ldI at_165
theorem q0_167 : Sem1 tables_1 KT μ0 167 (o_ldL 7 169) := Sem1.ldL at_167
theorem q0_169 : Sem1 tables_1 KT μ0 169 (o_ldL 9 171) := Sem1.ldL at_169
theorem q0_171 : SemC tables_1 KT μ0 μ2 171 9 0 174 := SemC.S at_171 (List.mem_of_getElem? (i := 13) rfl) (List.mem_of_getElem? (i := 14) rfl) (List.mem_of_getElem? (i := 15) rfl) (List.mem_of_getElem? (i := 16) rfl) (by decide) pd2 rfl
theorem q0_174 : Sem1 tables_1 KT μ0 174 (o_new 0 9 [.inl .null, .inl .null, .inl .null, .inl (.int 0), .inl .null, .inl .null, .inl .null, .inl .null, .inl (.int 0)] 177) := Sem1.new kt at_174 (List.mem_of_getElem? (i := 17) rfl) (List.mem_of_getElem? (i := 19) rfl) rfl (fun _ _ => rfl)
theorem q0_177 : Sem1 tables_1 KT μ0 177 (o_dup 178) := Sem1.dup at_177
theorem q0_178 : Sem1 tables_1 KT μ0 178 (o_ldA 12 180) := Sem1.ldA at_178
theorem q0_180 : Sem1 tables_1 KT μ0 180 (o_ldA 13 182) := Sem1.ldA at_180
theorem q0_182 : Sem1 tables_1 KT μ0 182 (o_ldA 14 184) := Sem1.ldA at_182
theorem q0_184 : SemC tables_1 KT μ0 μ3 184 4 1 187 := SemC.I at_184 rfl rfl (List.mem_of_getElem? (i := 20) rfl) (List.mem_of_getElem? (i := 21) rfl) (List.mem_of_getElem? (i := 19) rfl) (List.mem_of_getElem? (i := 22) rfl) (by decide) pd3 rfl
theorem q0_187 : Sem1 tables_1 KT μ0 187 (o_stA 15 189) := Sem1.stA at_187
theorem q0_189 : Sem1 tables_1 KT μ0 189 (o_ldI 1 190) := Sem1.ldI_n at_189 rfl
theorem q0_190 : Sem1 tables_1 KT μ0 190 (o_cI 1 191) := Sem1.cI (fun h => W.iconst' at_190 (by decide) h)
theorem q0_191 : Sem1 tables_1 KT μ0 191 (o_ldI 5 193) := Sem1.ldI at_191
theorem q0_193 : Sem1 tables_1 KT μ0 193 (o_bi 4 194) := Sem1.ishl at_193
theorem q0_194 : Sem1 tables_1 KT μ0 194 (o_cI 1 195) := Sem1.cI (fun h => W.iconst' at_194 (by decide) h)
theorem q0_195 : Sem1 tables_1 KT μ0 195 (o_bi 1 196) := Sem1.isub at_195
theorem q0_196 : Sem1 tables_1 KT μ0 196 (o_bi 3 197) := Sem1.iand at_196
theorem q0_197 : Sem1 tables_1 KT μ0 197 (o_stI 16 199) := Sem1.stI at_197
theorem q0_199 : Sem1 tables_1 KT μ0 199 (o_ldI 16 201) := Sem1.ldI at_199
theorem q0_201 : Sem1 tables_1 KT μ0 201 (o_cI 1 202) := Sem1.cI (fun h => W.iconst' at_201 (by decide) h)
theorem q0_202 : Sem1 tables_1 KT μ0 202 (o_bi 3 203) := Sem1.iand at_202
theorem q0_203 : Sem1 tables_1 KT μ0 203 (o_ifc .eq 215 206) := Sem1.ifc at_203 (by decide) (by decide)
theorem q0_206 : Sem1 tables_1 KT μ0 206 (o_ldA 15 208) := Sem1.ldA at_206
theorem q0_208 : Sem1 tables_1 KT μ0 208 (o_ldA 14 210) := Sem1.ldA at_208
theorem q0_210 : Sem1 tables_1 KT μ0 210 (o_cI 0 211) := Sem1.cI (fun h => W.iconst' at_210 (by decide) h)
theorem q0_211 : Sem1 tables_1 KT μ0 211 (o_iald 212) := Sem1.iald at_211
theorem q0_212 : SemC tables_1 KT μ0 μ21 212 2 2 215 := SemC.V (c := 0) at_212 (List.mem_of_getElem? (i := 151) rfl) (List.mem_of_getElem? (i := 152) rfl) (List.mem_of_getElem? (i := 154) rfl) (Or.inl rfl) kt (List.mem_of_getElem? (i := 153) rfl) (List.mem_of_getElem? (i := 19) rfl) (List.mem_of_getElem? (i := 155) rfl) (by decide) rfl pd7 rfl
theorem q0_215 : Sem1 tables_1 KT μ0 215 (o_ldI 16 217) := Sem1.ldI at_215
theorem q0_217 : Sem1 tables_1 KT μ0 217 (o_cI 2 218) := Sem1.cI (fun h => W.iconst' at_217 (by decide) h)
theorem q0_218 : Sem1 tables_1 KT μ0 218 (o_bi 3 219) := Sem1.iand at_218
theorem q0_219 : Sem1 tables_1 KT μ0 219 (o_ifc .eq 231 222) := Sem1.ifc at_219 (by decide) (by decide)
theorem q0_222 : Sem1 tables_1 KT μ0 222 (o_ldA 15 224) := Sem1.ldA at_222
theorem q0_224 : Sem1 tables_1 KT μ0 224 (o_ldA 14 226) := Sem1.ldA at_224
theorem q0_226 : Sem1 tables_1 KT μ0 226 (o_cI 1 227) := Sem1.cI (fun h => W.iconst' at_226 (by decide) h)
theorem q0_227 : Sem1 tables_1 KT μ0 227 (o_iald 228) := Sem1.iald at_227
theorem q0_228 : SemC tables_1 KT μ0 μ21 228 2 2 231 := SemC.V (c := 0) at_228 (List.mem_of_getElem? (i := 151) rfl) (List.mem_of_getElem? (i := 152) rfl) (List.mem_of_getElem? (i := 154) rfl) (Or.inl rfl) kt (List.mem_of_getElem? (i := 153) rfl) (List.mem_of_getElem? (i := 19) rfl) (List.mem_of_getElem? (i := 155) rfl) (by decide) rfl pd7 rfl
theorem q0_231 : Sem1 tables_1 KT μ0 231 (o_ldI 16 233) := Sem1.ldI at_231
theorem q0_233 : Sem1 tables_1 KT μ0 233 (o_cI 4 234) := Sem1.cI (fun h => W.iconst' at_233 (by decide) h)
theorem q0_234 : Sem1 tables_1 KT μ0 234 (o_bi 3 235) := Sem1.iand at_234
theorem q0_235 : Sem1 tables_1 KT μ0 235 (o_ifc .eq 247 238) := Sem1.ifc at_235 (by decide) (by decide)
theorem q0_238 : Sem1 tables_1 KT μ0 238 (o_ldA 15 240) := Sem1.ldA at_238
theorem q0_240 : Sem1 tables_1 KT μ0 240 (o_ldA 14 242) := Sem1.ldA at_240
theorem q0_242 : Sem1 tables_1 KT μ0 242 (o_cI 2 243) := Sem1.cI (fun h => W.iconst' at_242 (by decide) h)
theorem q0_243 : Sem1 tables_1 KT μ0 243 (o_iald 244) := Sem1.iald at_243
theorem q0_244 : SemC tables_1 KT μ0 μ21 244 2 2 247 := SemC.V (c := 0) at_244 (List.mem_of_getElem? (i := 151) rfl) (List.mem_of_getElem? (i := 152) rfl) (List.mem_of_getElem? (i := 154) rfl) (Or.inl rfl) kt (List.mem_of_getElem? (i := 153) rfl) (List.mem_of_getElem? (i := 19) rfl) (List.mem_of_getElem? (i := 155) rfl) (by decide) rfl pd7 rfl
theorem q0_247 : Sem1 tables_1 KT μ0 247 (o_ldI 5 249) := Sem1.ldI at_247
theorem q0_249 : Sem1 tables_1 KT μ0 249 (o_cI 4 250) := Sem1.cI (fun h => W.iconst' at_249 (by decide) h)
theorem q0_250 : Sem1 tables_1 KT μ0 250 (o_icmp .ne 270 253) := Sem1.icmp at_250 (by decide) (by decide)
theorem q0_253 : Sem1 tables_1 KT μ0 253 (o_ldI 16 255) := Sem1.ldI at_253
theorem q0_255 : Sem1 tables_1 KT μ0 255 (o_cI 8 257) := Sem1.cI (fun h => W.bipush' at_255 (by decide) h)
theorem q0_257 : Sem1 tables_1 KT μ0 257 (o_bi 3 258) := Sem1.iand at_257
theorem q0_258 : Sem1 tables_1 KT μ0 258 (o_ifc .eq 270 261) := Sem1.ifc at_258 (by decide) (by decide)
theorem q0_261 : Sem1 tables_1 KT μ0 261 (o_ldA 15 263) := Sem1.ldA at_261
theorem q0_263 : Sem1 tables_1 KT μ0 263 (o_ldA 14 265) := Sem1.ldA at_263
theorem q0_265 : Sem1 tables_1 KT μ0 265 (o_cI 3 266) := Sem1.cI (fun h => W.iconst' at_265 (by decide) h)
theorem q0_266 : Sem1 tables_1 KT μ0 266 (o_iald 267) := Sem1.iald at_266
theorem q0_267 : SemC tables_1 KT μ0 μ21 267 2 2 270 := SemC.V (c := 0) at_267 (List.mem_of_getElem? (i := 151) rfl) (List.mem_of_getElem? (i := 152) rfl) (List.mem_of_getElem? (i := 154) rfl) (Or.inl rfl) kt (List.mem_of_getElem? (i := 153) rfl) (List.mem_of_getElem? (i := 19) rfl) (List.mem_of_getElem? (i := 155) rfl) (by decide) rfl pd7 rfl
theorem q0_270 : Sem1 tables_1 KT μ0 270 (o_ldA 15 272) := Sem1.ldA at_270
theorem q0_272 : SemC tables_1 KT μ0 μ26 272 1 2 275 := SemC.V (c := 0) at_272 (List.mem_of_getElem? (i := 174) rfl) (List.mem_of_getElem? (i := 175) rfl) (List.mem_of_getElem? (i := 177) rfl) (Or.inl rfl) kt (List.mem_of_getElem? (i := 176) rfl) (List.mem_of_getElem? (i := 19) rfl) (List.mem_of_getElem? (i := 178) rfl) (by decide) rfl pd19 rfl
theorem q0_275 : Sem1 tables_1 KT μ0 275 (o_stA 17 277) := Sem1.stA at_275
theorem q0_277 : Sem1 tables_1 KT μ0 277 (o_cI 4 278) := Sem1.cI (fun h => W.iconst' at_277 (by decide) h)
theorem q0_278 : Sem1 tables_1 KT μ0 278 (o_newI 280) := Sem1.newI at_278 (List.mem_of_getElem? (i := 12) rfl)
theorem q0_280 : Sem1 tables_1 KT μ0 280 (o_stA 18 282) := Sem1.stA at_280
theorem q0_282 : Sem1 tables_1 KT μ0 282 (o_cI 0 283) := Sem1.cI (fun h => W.iconst' at_282 (by decide) h)
theorem q0_283 : Sem1 tables_1 KT μ0 283 (o_stI 19 285) := Sem1.stI at_283
theorem q0_285 : Sem1 tables_1 KT μ0 285 (o_ldI 16 287) := Sem1.ldI at_285
theorem q0_287 : Sem1 tables_1 KT μ0 287 (o_cI 1 288) := Sem1.cI (fun h => W.iconst' at_287 (by decide) h)
theorem q0_288 : Sem1 tables_1 KT μ0 288 (o_bi 3 289) := Sem1.iand at_288
theorem q0_289 : Sem1 tables_1 KT μ0 289 (o_ifc .ne 304 292) := Sem1.ifc at_289 (by decide) (by decide)
theorem q0_292 : Sem1 tables_1 KT μ0 292 (o_ldA 18 294) := Sem1.ldA at_292
theorem q0_294 : Sem1 tables_1 KT μ0 294 (o_ldI 19 296) := Sem1.ldI at_294
theorem q0_296 : Sem1 tables_1 KT μ0 296 (o_ldA 14 298) := Sem1.ldA at_296
theorem q0_298 : Sem1 tables_1 KT μ0 298 (o_cI 0 299) := Sem1.cI (fun h => W.iconst' at_298 (by decide) h)
theorem q0_299 : Sem1 tables_1 KT μ0 299 (o_iald 300) := Sem1.iald at_299
theorem q0_300 : Sem1 tables_1 KT μ0 300 (o_iast 301) := Sem1.iast at_300
theorem q0_301 : Sem1 tables_1 KT μ0 301 (o_inc 19 1 304) := Sem1.inc at_301 (by decide)
theorem q0_304 : Sem1 tables_1 KT μ0 304 (o_ldI 16 306) := Sem1.ldI at_304
theorem q0_306 : Sem1 tables_1 KT μ0 306 (o_cI 2 307) := Sem1.cI (fun h => W.iconst' at_306 (by decide) h)
theorem q0_307 : Sem1 tables_1 KT μ0 307 (o_bi 3 308) := Sem1.iand at_307
theorem q0_308 : Sem1 tables_1 KT μ0 308 (o_ifc .ne 323 311) := Sem1.ifc at_308 (by decide) (by decide)
theorem q0_311 : Sem1 tables_1 KT μ0 311 (o_ldA 18 313) := Sem1.ldA at_311
theorem q0_313 : Sem1 tables_1 KT μ0 313 (o_ldI 19 315) := Sem1.ldI at_313
theorem q0_315 : Sem1 tables_1 KT μ0 315 (o_ldA 14 317) := Sem1.ldA at_315
theorem q0_317 : Sem1 tables_1 KT μ0 317 (o_cI 1 318) := Sem1.cI (fun h => W.iconst' at_317 (by decide) h)
theorem q0_318 : Sem1 tables_1 KT μ0 318 (o_iald 319) := Sem1.iald at_318
theorem q0_319 : Sem1 tables_1 KT μ0 319 (o_iast 320) := Sem1.iast at_319
theorem q0_320 : Sem1 tables_1 KT μ0 320 (o_inc 19 1 323) := Sem1.inc at_320 (by decide)
theorem q0_323 : Sem1 tables_1 KT μ0 323 (o_ldI 16 325) := Sem1.ldI at_323
theorem q0_325 : Sem1 tables_1 KT μ0 325 (o_cI 4 326) := Sem1.cI (fun h => W.iconst' at_325 (by decide) h)
theorem q0_326 : Sem1 tables_1 KT μ0 326 (o_bi 3 327) := Sem1.iand at_326
theorem q0_327 : Sem1 tables_1 KT μ0 327 (o_ifc .ne 342 330) := Sem1.ifc at_327 (by decide) (by decide)
theorem q0_330 : Sem1 tables_1 KT μ0 330 (o_ldA 18 332) := Sem1.ldA at_330
theorem q0_332 : Sem1 tables_1 KT μ0 332 (o_ldI 19 334) := Sem1.ldI at_332
theorem q0_334 : Sem1 tables_1 KT μ0 334 (o_ldA 14 336) := Sem1.ldA at_334
theorem q0_336 : Sem1 tables_1 KT μ0 336 (o_cI 2 337) := Sem1.cI (fun h => W.iconst' at_336 (by decide) h)
theorem q0_337 : Sem1 tables_1 KT μ0 337 (o_iald 338) := Sem1.iald at_337
theorem q0_338 : Sem1 tables_1 KT μ0 338 (o_iast 339) := Sem1.iast at_338
theorem q0_339 : Sem1 tables_1 KT μ0 339 (o_inc 19 1 342) := Sem1.inc at_339 (by decide)
theorem q0_342 : Sem1 tables_1 KT μ0 342 (o_ldI 5 344) := Sem1.ldI at_342
theorem q0_344 : Sem1 tables_1 KT μ0 344 (o_cI 4 345) := Sem1.cI (fun h => W.iconst' at_344 (by decide) h)
theorem q0_345 : Sem1 tables_1 KT μ0 345 (o_icmp .ne 368 348) := Sem1.icmp at_345 (by decide) (by decide)
theorem q0_348 : Sem1 tables_1 KT μ0 348 (o_ldI 16 350) := Sem1.ldI at_348
theorem q0_350 : Sem1 tables_1 KT μ0 350 (o_cI 8 352) := Sem1.cI (fun h => W.bipush' at_350 (by decide) h)
theorem q0_352 : Sem1 tables_1 KT μ0 352 (o_bi 3 353) := Sem1.iand at_352
theorem q0_353 : Sem1 tables_1 KT μ0 353 (o_ifc .ne 368 356) := Sem1.ifc at_353 (by decide) (by decide)
theorem q0_356 : Sem1 tables_1 KT μ0 356 (o_ldA 18 358) := Sem1.ldA at_356
theorem q0_358 : Sem1 tables_1 KT μ0 358 (o_ldI 19 360) := Sem1.ldI at_358
theorem q0_360 : Sem1 tables_1 KT μ0 360 (o_ldA 14 362) := Sem1.ldA at_360
theorem q0_362 : Sem1 tables_1 KT μ0 362 (o_cI 3 363) := Sem1.cI (fun h => W.iconst' at_362 (by decide) h)
theorem q0_363 : Sem1 tables_1 KT μ0 363 (o_iald 364) := Sem1.iald at_363
theorem q0_364 : Sem1 tables_1 KT μ0 364 (o_iast 365) := Sem1.iast at_364
theorem q0_365 : Sem1 tables_1 KT μ0 365 (o_inc 19 1 368) := Sem1.inc at_365 (by decide)
theorem q0_368 : Sem1 tables_1 KT μ0 368 (o_ldA 17 370) := Sem1.ldA at_368
theorem q0_370 : Sem1 tables_1 KT μ0 370 (o_alen 371) := Sem1.alen at_370
theorem q0_371 : Sem1 tables_1 KT μ0 371 (o_ldI 19 373) := Sem1.ldI at_371
theorem q0_373 : Sem1 tables_1 KT μ0 373 (o_icmp .ne 448 376) := Sem1.icmp at_373 (by decide) (by decide)
theorem q0_376 : Sem1 tables_1 KT μ0 376 (o_ldI 19 378) := Sem1.ldI at_376
theorem q0_378 : Sem1 tables_1 KT μ0 378 (o_cI 1 379) := Sem1.cI (fun h => W.iconst' at_378 (by decide) h)
theorem q0_379 : Sem1 tables_1 KT μ0 379 (o_icmp .lt 393 382) := Sem1.icmp at_379 (by decide) (by decide)
theorem q0_382 : Sem1 tables_1 KT μ0 382 (o_ldA 17 384) := Sem1.ldA at_382
theorem q0_384 : Sem1 tables_1 KT μ0 384 (o_cI 0 385) := Sem1.cI (fun h => W.iconst' at_384 (by decide) h)
theorem q0_385 : Sem1 tables_1 KT μ0 385 (o_iald 386) := Sem1.iald at_385
theorem q0_386 : Sem1 tables_1 KT μ0 386 (o_ldA 18 388) := Sem1.ldA at_386
theorem q0_388 : Sem1 tables_1 KT μ0 388 (o_cI 0 389) := Sem1.cI (fun h => W.iconst' at_388 (by decide) h)
theorem q0_389 : Sem1 tables_1 KT μ0 389 (o_iald 390) := Sem1.iald at_389
theorem q0_390 : Sem1 tables_1 KT μ0 390 (o_icmp .ne 448 393) := Sem1.icmp at_390 (by decide) (by decide)
theorem q0_393 : Sem1 tables_1 KT μ0 393 (o_ldI 19 395) := Sem1.ldI at_393
theorem q0_395 : Sem1 tables_1 KT μ0 395 (o_cI 2 396) := Sem1.cI (fun h => W.iconst' at_395 (by decide) h)
theorem q0_396 : Sem1 tables_1 KT μ0 396 (o_icmp .lt 410 399) := Sem1.icmp at_396 (by decide) (by decide)
theorem q0_399 : Sem1 tables_1 KT μ0 399 (o_ldA 17 401) := Sem1.ldA at_399
theorem q0_401 : Sem1 tables_1 KT μ0 401 (o_cI 1 402) := Sem1.cI (fun h => W.iconst' at_401 (by decide) h)
theorem q0_402 : Sem1 tables_1 KT μ0 402 (o_iald 403) := Sem1.iald at_402
theorem q0_403 : Sem1 tables_1 KT μ0 403 (o_ldA 18 405) := Sem1.ldA at_403
theorem q0_405 : Sem1 tables_1 KT μ0 405 (o_cI 1 406) := Sem1.cI (fun h => W.iconst' at_405 (by decide) h)
theorem q0_406 : Sem1 tables_1 KT μ0 406 (o_iald 407) := Sem1.iald at_406
theorem q0_407 : Sem1 tables_1 KT μ0 407 (o_icmp .ne 448 410) := Sem1.icmp at_407 (by decide) (by decide)
theorem q0_410 : Sem1 tables_1 KT μ0 410 (o_ldI 19 412) := Sem1.ldI at_410
theorem q0_412 : Sem1 tables_1 KT μ0 412 (o_cI 3 413) := Sem1.cI (fun h => W.iconst' at_412 (by decide) h)
theorem q0_413 : Sem1 tables_1 KT μ0 413 (o_icmp .lt 427 416) := Sem1.icmp at_413 (by decide) (by decide)
theorem q0_416 : Sem1 tables_1 KT μ0 416 (o_ldA 17 418) := Sem1.ldA at_416
theorem q0_418 : Sem1 tables_1 KT μ0 418 (o_cI 2 419) := Sem1.cI (fun h => W.iconst' at_418 (by decide) h)
theorem q0_419 : Sem1 tables_1 KT μ0 419 (o_iald 420) := Sem1.iald at_419
theorem q0_420 : Sem1 tables_1 KT μ0 420 (o_ldA 18 422) := Sem1.ldA at_420
theorem q0_422 : Sem1 tables_1 KT μ0 422 (o_cI 2 423) := Sem1.cI (fun h => W.iconst' at_422 (by decide) h)
theorem q0_423 : Sem1 tables_1 KT μ0 423 (o_iald 424) := Sem1.iald at_423
theorem q0_424 : Sem1 tables_1 KT μ0 424 (o_icmp .ne 448 427) := Sem1.icmp at_424 (by decide) (by decide)
theorem q0_427 : Sem1 tables_1 KT μ0 427 (o_ldI 19 429) := Sem1.ldI at_427
theorem q0_429 : Sem1 tables_1 KT μ0 429 (o_cI 4 430) := Sem1.cI (fun h => W.iconst' at_429 (by decide) h)
theorem q0_430 : Sem1 tables_1 KT μ0 430 (o_icmp .lt 444 433) := Sem1.icmp at_430 (by decide) (by decide)
theorem q0_433 : Sem1 tables_1 KT μ0 433 (o_ldA 17 435) := Sem1.ldA at_433
theorem q0_435 : Sem1 tables_1 KT μ0 435 (o_cI 3 436) := Sem1.cI (fun h => W.iconst' at_435 (by decide) h)
theorem q0_436 : Sem1 tables_1 KT μ0 436 (o_iald 437) := Sem1.iald at_436
theorem q0_437 : Sem1 tables_1 KT μ0 437 (o_ldA 18 439) := Sem1.ldA at_437
theorem q0_439 : Sem1 tables_1 KT μ0 439 (o_cI 3 440) := Sem1.cI (fun h => W.iconst' at_439 (by decide) h)
theorem q0_440 : Sem1 tables_1 KT μ0 440 (o_iald 441) := Sem1.iald at_440
theorem q0_441 : Sem1 tables_1 KT μ0 441 (o_icmp .ne 448 444) := Sem1.icmp at_441 (by decide) (by decide)
theorem q0_444 : Sem1 tables_1 KT μ0 444 (o_cI 1 445) := Sem1.cI (fun h => W.iconst' at_444 (by decide) h)
theorem q0_445 : Sem1 tables_1 KT μ0 445 (o_jmp 449) := Sem1.jmp at_445 (by decide) (by decide)
theorem q0_448 : Sem1 tables_1 KT μ0 448 (o_cI 0 449) := Sem1.cI (fun h => W.iconst' at_448 (by decide) h)
theorem q0_449 : SemR tables_1 KT μ0 449 2 := SemR.z at_449 rfl
def T0 : Tr := (tr1 (tr1 (tr1 (tr1 (tr1 (tr1 (tr1 (tr1 tr0 45 (.inl (o_cI 4 46)) tr0) 46 (.inl (o_newL 48)) (tr1 tr0 48 (.inl (o_dup 49)) tr0)) 49 (.inl (o_cI 0 50)) (tr1 (tr1 tr0 50 (.inl (o_cL 5 53)) tr0) 53 (.inl (o_last 54)) (tr1 tr0 54 (.inl (o_dup 55)) tr0))) 55 (.inl (o_cI 1 56)) (tr1 (tr1 (tr1 tr0 56 (.inl (o_cL 1 57)) tr0) 57 (.inl (o_last 58)) (tr1 tr0 58 (.inl (o_dup 59)) tr0)) 59 (.inl (o_cI 2 60)) (tr1 (tr1 tr0 60 (.inl (o_cL 4 63)) tr0) 63 (.inl (o_last 64)) tr0))) 64 (.inl (o_dup 65)) (tr1 (tr1 (tr1 (tr1 tr0 65 (.inl (o_cI 3 66)) tr0) 66 (.inl (o_cL 2 69)) (tr1 tr0 69 (.inl (o_last 70)) tr0)) 70 (.inl (o_stA 11 72)) (tr1 (tr1 tr0 72 (.inl (o_cI 4 73)) tr0) 73 (.inl (o_newL 75)) tr0)) 75 (.inl (o_stA 12 77)) (tr1 (tr1 (tr1 tr0 77 (.inl (o_cI 4 78)) tr0) 78 (.inl (o_newL 80)) (tr1 tr0 80 (.inl (o_stA 13 82)) tr0)) 82 (.inl (o_ldI 5 84)) (tr1 (tr1 tr0 84 (.inl (o_newI 86)) tr0) 86 (.inl (o_stA 14 88)) tr0)))) 88 (.inl (o_ldA 14 90)) (tr1 (tr1 (tr1 (tr1 (tr1 tr0 90 (.inl (o_ldA 12 92)) tr0) 92 (.inl (o_ldA 13 94)) (tr1 tr0 94 (.inl (o_ldA 11 96)) tr0)) 96 (.inl (o_cI 0 97)) (tr1 (tr1 tr0 97 (.inl (o_ldI 5 99)) tr0) 99 (.inl (o_ldI 6 101)) (tr1 tr0 101 (.inl (o_ldL 7 103)) tr0))) 103 (.inl (o_ldL 9 105)) (tr1 (tr1 (tr1 tr0 105 (.inr (.inl (2, 9, 0, 108))) tr0) 108 (.inl (o_ldA 14 110)) (tr1 tr0 110 (.inl (o_ldA 12 112)) tr0)) 112 (.inl (o_ldA 13 114)) (tr1 (tr1 tr0 114 (.inl (o_ldA 11 116)) tr0) 116 (.inl (o_cI 1 117)) tr0))) 117 (.inl (o_ldI 5 119)) (tr1 (tr1 (tr1 (tr1 tr0 119 (.inl (o_ldI 6 121)) tr0) 121 (.inl (o_ldL 7 123)) (tr1 tr0 123 (.inl (o_ldL 9 125)) tr0)) 125 (.inr (.inl (2, 9, 0, 128))) (tr1 (tr1 tr0 128 (.inl (o_ldA 14 130)) tr0) 130 (.inl (o_ldA 12 132)) tr0)) 132 (.inl (o_ldA 13 134)) (tr1 (tr1 (tr1 tr0 134 (.inl (o_ldA 11 136)) tr0) 136 (.inl (o_cI 2 137)) (tr1 tr0 137 (.inl (o_ldI 5 139)) tr0)) 139 (.inl (o_ldI 6 141)) (tr1 (tr1 tr0 141 (.inl (o_ldL 7 143)) tr0) 143 (.inl (o_ldL 9 145)) tr0))))) 145 (.inr (.inl (2, 9, 0, 148))) (tr1 (tr1 (tr1 (tr1 (tr1 (tr1 tr0 148 (.inl (o_ldI 5 150)) tr0) 150 (.inl (o_cI 4 151)) (tr1 tr0 151 (.inl (o_icmp .ne 174 154)) tr0)) 154 (.inl (o_ldA 14 156)) (tr1 (tr1 tr0 156 (.inl (o_ldA 12 158)) tr0) 158 (.inl (o_ldA 13 160)) (tr1 tr0 160 (.inl (o_ldA 11 162)) tr0))) 162 (.inl (o_cI 3 163)) (tr1 (tr1 (tr1 tr0 163 (.inl (o_ldI 5 165)) tr0) 165 (.inl (o_ldI 6 167)) (tr1 tr0 167 (.inl (o_ldL 7 169)) tr0)) 169 (.inl (o_ldL 9 171)) (tr1 (tr1 tr0 171 (.inr (.inl (2, 9, 0, 174))) tr0) 174 (.inl (o_new 0 9 [.inl .null, .inl .null, .inl .null, .inl (.int 0), .inl .null, .inl .null, .inl .null, .inl .null, .inl (.int 0)] 177)) tr0))) 177 (.inl (o_dup 178)) (tr1 (tr1 (tr1 (tr1 tr0 178 (.inl (o_ldA 12 180)) tr0) 180 (.inl (o_ldA 13 182)) (tr1 tr0 182 (.inl (o_ldA 14 184)) tr0)) 184 (.inr (.inl (3, 4, 1, 187))) (tr1 (tr1 tr0 187 (.inl (o_stA 15 189)) tr0) 189 (.inl (o_ldI 1 190)) tr0)) 190 (.inl (o_cI 1 191)) (tr1 (tr1 (tr1 tr0 191 (.inl (o_ldI 5 193)) tr0) 193 (.inl (o_bi 4 194)) (tr1 tr0 194 (.inl (o_cI 1 195)) tr0)) 195 (.inl (o_bi 1 196)) (tr1 (tr1 tr0 196 (.inl (o_bi 3 197)) tr0) 197 (.inl (o_stI 16 199)) tr0)))) 199 (.inl (o_ldI 16 201)) (tr1 (tr1 (tr1 (tr1 (tr1 tr0 201 (.inl (o_cI 1 202)) tr0) 202 (.inl (o_bi 3 203)) (tr1 tr0 203 (.inl (o_ifc .eq 215 206)) tr0)) 206 (.inl (o_ldA 15 208)) (tr1 (tr1 tr0 208 (.inl (o_ldA 14 210)) tr0) 210 (.inl (o_cI 0 211)) tr0)) 211 (.inl (o_iald 212)) (tr1 (tr1 (tr1 tr0 212 (.inr (.inl (21, 2, 2, 215))) tr0) 215 (.inl (o_ldI 16 217)) (tr1 tr0 217 (.inl (o_cI 2 218)) tr0)) 218 (.inl (o_bi 3 219)) (tr1 (tr1 tr0 219 (.inl (o_ifc .eq 231 222)) tr0) 222 (.inl (o_ldA 15 224)) tr0))) 224 (.inl (o_ldA 14 226)) (tr1 (tr1 (tr1 (tr1 tr0 226 (.inl (o_cI 1 227)) tr0) 227 (.inl (o_iald 228)) (tr1 tr0 228 (.inr (.inl (21, 2, 2, 231))) tr0)) 231 (.inl (o_ldI 16 233)) (tr1 (tr1 tr0 233 (.inl (o_cI 4 234)) tr0) 234 (.inl (o_bi 3 235)) tr0)) 235 (.inl (o_ifc .eq 247 238)) (tr1 (tr1 (tr1 tr0 238 (.inl (o_ldA 15 240)) tr0) 240 (.inl (o_ldA 14 242)) (tr1 tr0 242 (.inl (o_cI 2 243)) tr0)) 243 (.inl (o_iald 244)) (tr1 (tr1 tr0 244 (.inr (.inl (21, 2, 2, 247))) tr0) 247 (.inl (o_ldI 5 249)) tr0)))))) 249 (.inl (o_cI 4 250)) (tr1 (tr1 (tr1 (tr1 (tr1 (tr1 (tr1 tr0 250 (.inl (o_icmp .ne 270 253)) tr0) 253 (.inl (o_ldI 16 255)) (tr1 tr0 255 (.inl (o_cI 8 257)) tr0)) 257 (.inl (o_bi 3 258)) (tr1 (tr1 tr0 258 (.inl (o_ifc .eq 270 261)) tr0) 261 (.inl (o_ldA 15 263)) (tr1 tr0 263 (.inl (o_ldA 14 265)) tr0))) 265 (.inl (o_cI 3 266)) (tr1 (tr1 (tr1 tr0 266 (.inl (o_iald 267)) tr0) 267 (.inr (.inl (21, 2, 2, 270))) (tr1 tr0 270 (.inl (o_ldA 15 272)) tr0)) 272 (.inr (.inl (26, 1, 2, 275))) (tr1 (tr1 tr0 275 (.inl (o_stA 17 277)) tr0) 277 (.inl (o_cI 4 278)) tr0))) 278 (.inl (o_newI 280)) (tr1 (tr1 (tr1 (tr1 tr0 280 (.inl (o_stA 18 282)) tr0) 282 (.inl (o_cI 0 283)) (tr1 tr0 283 (.inl (o_stI 19 285)) tr0)) 285 (.inl (o_ldI 16 287)) (tr1 (tr1 tr0 287 (.inl (o_cI 1 288)) tr0) 288 (.inl (o_bi 3 289)) tr0)) 289 (.inl (o_ifc .ne 304 292)) (tr1 (tr1 (tr1 tr0 292 (.inl (o_ldA 18 294)) tr0) 294 (.inl (o_ldI 19 296)) (tr1 tr0 296 (.inl (o_ldA 14 298)) tr0)) 298 (.inl (o_cI 0 299)) (tr1 (tr1 tr0 299 (.inl (o_iald 300)) tr0) 300 (.inl (o_iast 301)) tr0)))) 301 (.inl (o_inc 19 1 304)) (tr1 (tr1 (tr1 (tr1 (tr1 tr0 304 (.inl (o_ldI 16 306)) tr0) 306 (.inl (o_cI 2 307)) (tr1 tr0 307 (.inl (o_bi 3 308)) tr0)) 308 (.inl (o_ifc .ne 323 311)) (tr1 (tr1 tr0 311 (.inl (o_ldA 18 313)) tr0) 313 (.inl (o_ldI 19 315)) tr0)) 315 (.inl (o_ldA 14 317)) (tr1 (tr1 (tr1 tr0 317 (.inl (o_cI 1 318)) tr0) 318 (.inl (o_iald 319)) (tr1 tr0 319 (.inl (o_iast 320)) tr0)) 320 (.inl (o_inc 19 1 323)) (tr1 (tr1 tr0 323 (.inl (o_ldI 16 325)) tr0) 325 (.inl (o_cI 4 326)) tr0))) 326 (.inl (o_bi 3 327)) (tr1 (tr1 (tr1 (tr1 tr0 327 (.inl (o_ifc .ne 342 330)) tr0) 330 (.inl (o_ldA 18 332)) (tr1 tr0 332 (.inl (o_ldI 19 334)) tr0)) 334 (.inl (o_ldA 14 336)) (tr1 (tr1 tr0 336 (.inl (o_cI 2 337)) tr0) 337 (.inl (o_iald 338)) tr0)) 338 (.inl (o_iast 339)) (tr1 (tr1 (tr1 tr0 339 (.inl (o_inc 19 1 342)) tr0) 342 (.inl (o_ldI 5 344)) (tr1 tr0 344 (.inl (o_cI 4 345)) tr0)) 345 (.inl (o_icmp .ne 368 348)) (tr1 (tr1 tr0 348 (.inl (o_ldI 16 350)) tr0) 350 (.inl (o_cI 8 352)) tr0))))) 352 (.inl (o_bi 3 353)) (tr1 (tr1 (tr1 (tr1 (tr1 (tr1 tr0 353 (.inl (o_ifc .ne 368 356)) tr0) 356 (.inl (o_ldA 18 358)) (tr1 tr0 358 (.inl (o_ldI 19 360)) tr0)) 360 (.inl (o_ldA 14 362)) (tr1 (tr1 tr0 362 (.inl (o_cI 3 363)) tr0) 363 (.inl (o_iald 364)) (tr1 tr0 364 (.inl (o_iast 365)) tr0))) 365 (.inl (o_inc 19 1 368)) (tr1 (tr1 (tr1 tr0 368 (.inl (o_ldA 17 370)) tr0) 370 (.inl (o_alen 371)) (tr1 tr0 371 (.inl (o_ldI 19 373)) tr0)) 373 (.inl (o_icmp .ne 448 376)) (tr1 (tr1 tr0 376 (.inl (o_ldI 19 378)) tr0) 378 (.inl (o_cI 1 379)) tr0))) 379 (.inl (o_icmp .lt 393 382)) (tr1 (tr1 (tr1 (tr1 tr0 382 (.inl (o_ldA 17 384)) tr0) 384 (.inl (o_cI 0 385)) (tr1 tr0 385 (.inl (o_iald 386)) tr0)) 386 (.inl (o_ldA 18 388)) (tr1 (tr1 tr0 388 (.inl (o_cI 0 389)) tr0) 389 (.inl (o_iald 390)) tr0)) 390 (.inl (o_icmp .ne 448 393)) (tr1 (tr1 (tr1 tr0 393 (.inl (o_ldI 19 395)) tr0) 395 (.inl (o_cI 2 396)) (tr1 tr0 396 (.inl (o_icmp .lt 410 399)) tr0)) 399 (.inl (o_ldA 17 401)) (tr1 (tr1 tr0 401 (.inl (o_cI 1 402)) tr0) 402 (.inl (o_iald 403)) tr0)))) 403 (.inl (o_ldA 18 405)) (tr1 (tr1 (tr1 (tr1 (tr1 tr0 405 (.inl (o_cI 1 406)) tr0) 406 (.inl (o_iald 407)) (tr1 tr0 407 (.inl (o_icmp .ne 448 410)) tr0)) 410 (.inl (o_ldI 19 412)) (tr1 (tr1 tr0 412 (.inl (o_cI 3 413)) tr0) 413 (.inl (o_icmp .lt 427 416)) tr0)) 416 (.inl (o_ldA 17 418)) (tr1 (tr1 (tr1 tr0 418 (.inl (o_cI 2 419)) tr0) 419 (.inl (o_iald 420)) (tr1 tr0 420 (.inl (o_ldA 18 422)) tr0)) 422 (.inl (o_cI 2 423)) (tr1 (tr1 tr0 423 (.inl (o_iald 424)) tr0) 424 (.inl (o_icmp .ne 448 427)) tr0))) 427 (.inl (o_ldI 19 429)) (tr1 (tr1 (tr1 (tr1 tr0 429 (.inl (o_cI 4 430)) tr0) 430 (.inl (o_icmp .lt 444 433)) (tr1 tr0 433 (.inl (o_ldA 17 435)) tr0)) 435 (.inl (o_cI 3 436)) (tr1 (tr1 tr0 436 (.inl (o_iald 437)) tr0) 437 (.inl (o_ldA 18 439)) tr0)) 439 (.inl (o_cI 3 440)) (tr1 (tr1 (tr1 tr0 440 (.inl (o_iald 441)) tr0) 441 (.inl (o_icmp .ne 448 444)) (tr1 tr0 444 (.inl (o_cI 1 445)) tr0)) 445 (.inl (o_jmp 449)) (tr1 (tr1 tr0 448 (.inl (o_cI 0 449)) tr0) 449 (.inr (.inr 2)) tr0)))))))
theorem a0 : TrAll (SemO tables_1 KT MS μ0) T0 := (all_n (all_n (all_n (all_n (all_n (all_n (all_n (all_n all_e q0_45 all_e) q0_46 (all_n all_e q0_48 all_e)) q0_49 (all_n (all_n all_e q0_50 all_e) q0_53 (all_n all_e q0_54 all_e))) q0_55 (all_n (all_n (all_n all_e q0_56 all_e) q0_57 (all_n all_e q0_58 all_e)) q0_59 (all_n (all_n all_e q0_60 all_e) q0_63 all_e))) q0_64 (all_n (all_n (all_n (all_n all_e q0_65 all_e) q0_66 (all_n all_e q0_69 all_e)) q0_70 (all_n (all_n all_e q0_72 all_e) q0_73 all_e)) q0_75 (all_n (all_n (all_n all_e q0_77 all_e) q0_78 (all_n all_e q0_80 all_e)) q0_82 (all_n (all_n all_e q0_84 all_e) q0_86 all_e)))) q0_88 (all_n (all_n (all_n (all_n (all_n all_e q0_90 all_e) q0_92 (all_n all_e q0_94 all_e)) q0_96 (all_n (all_n all_e q0_97 all_e) q0_99 (all_n all_e q0_101 all_e))) q0_103 (all_n (all_n (all_n all_e (SemO.call ms2 q0_105) all_e) q0_108 (all_n all_e q0_110 all_e)) q0_112 (all_n (all_n all_e q0_114 all_e) q0_116 all_e))) q0_117 (all_n (all_n (all_n (all_n all_e q0_119 all_e) q0_121 (all_n all_e q0_123 all_e)) (SemO.call ms2 q0_125) (all_n (all_n all_e q0_128 all_e) q0_130 all_e)) q0_132 (all_n (all_n (all_n all_e q0_134 all_e) q0_136 (all_n all_e q0_137 all_e)) q0_139 (all_n (all_n all_e q0_141 all_e) q0_143 all_e))))) (SemO.call ms2 q0_145) (all_n (all_n (all_n (all_n (all_n (all_n all_e q0_148 all_e) q0_150 (all_n all_e q0_151 all_e)) q0_154 (all_n (all_n all_e q0_156 all_e) q0_158 (all_n all_e q0_160 all_e))) q0_162 (all_n (all_n (all_n all_e q0_163 all_e) q0_165 (all_n all_e q0_167 all_e)) q0_169 (all_n (all_n all_e (SemO.call ms2 q0_171) all_e) q0_174 all_e))) q0_177 (all_n (all_n (all_n (all_n all_e q0_178 all_e) q0_180 (all_n all_e q0_182 all_e)) (SemO.call ms3 q0_184) (all_n (all_n all_e q0_187 all_e) q0_189 all_e)) q0_190 (all_n (all_n (all_n all_e q0_191 all_e) q0_193 (all_n all_e q0_194 all_e)) q0_195 (all_n (all_n all_e q0_196 all_e) q0_197 all_e)))) q0_199 (all_n (all_n (all_n (all_n (all_n all_e q0_201 all_e) q0_202 (all_n all_e q0_203 all_e)) q0_206 (all_n (all_n all_e q0_208 all_e) q0_210 all_e)) q0_211 (all_n (all_n (all_n all_e (SemO.call ms21 q0_212) all_e) q0_215 (all_n all_e q0_217 all_e)) q0_218 (all_n (all_n all_e q0_219 all_e) q0_222 all_e))) q0_224 (all_n (all_n (all_n (all_n all_e q0_226 all_e) q0_227 (all_n all_e (SemO.call ms21 q0_228) all_e)) q0_231 (all_n (all_n all_e q0_233 all_e) q0_234 all_e)) q0_235 (all_n (all_n (all_n all_e q0_238 all_e) q0_240 (all_n all_e q0_242 all_e)) q0_243 (all_n (all_n all_e (SemO.call ms21 q0_244) all_e) q0_247 all_e)))))) q0_249 (all_n (all_n (all_n (all_n (all_n (all_n (all_n all_e q0_250 all_e) q0_253 (all_n all_e q0_255 all_e)) q0_257 (all_n (all_n all_e q0_258 all_e) q0_261 (all_n all_e q0_263 all_e))) q0_265 (all_n (all_n (all_n all_e q0_266 all_e) (SemO.call ms21 q0_267) (all_n all_e q0_270 all_e)) (SemO.call ms26 q0_272) (all_n (all_n all_e q0_275 all_e) q0_277 all_e))) q0_278 (all_n (all_n (all_n (all_n all_e q0_280 all_e) q0_282 (all_n all_e q0_283 all_e)) q0_285 (all_n (all_n all_e q0_287 all_e) q0_288 all_e)) q0_289 (all_n (all_n (all_n all_e q0_292 all_e) q0_294 (all_n all_e q0_296 all_e)) q0_298 (all_n (all_n all_e q0_299 all_e) q0_300 all_e)))) q0_301 (all_n (all_n (all_n (all_n (all_n all_e q0_304 all_e) q0_306 (all_n all_e q0_307 all_e)) q0_308 (all_n (all_n all_e q0_311 all_e) q0_313 all_e)) q0_315 (all_n (all_n (all_n all_e q0_317 all_e) q0_318 (all_n all_e q0_319 all_e)) q0_320 (all_n (all_n all_e q0_323 all_e) q0_325 all_e))) q0_326 (all_n (all_n (all_n (all_n all_e q0_327 all_e) q0_330 (all_n all_e q0_332 all_e)) q0_334 (all_n (all_n all_e q0_336 all_e) q0_337 all_e)) q0_338 (all_n (all_n (all_n all_e q0_339 all_e) q0_342 (all_n all_e q0_344 all_e)) q0_345 (all_n (all_n all_e q0_348 all_e) q0_350 all_e))))) q0_352 (all_n (all_n (all_n (all_n (all_n (all_n all_e q0_353 all_e) q0_356 (all_n all_e q0_358 all_e)) q0_360 (all_n (all_n all_e q0_362 all_e) q0_363 (all_n all_e q0_364 all_e))) q0_365 (all_n (all_n (all_n all_e q0_368 all_e) q0_370 (all_n all_e q0_371 all_e)) q0_373 (all_n (all_n all_e q0_376 all_e) q0_378 all_e))) q0_379 (all_n (all_n (all_n (all_n all_e q0_382 all_e) q0_384 (all_n all_e q0_385 all_e)) q0_386 (all_n (all_n all_e q0_388 all_e) q0_389 all_e)) q0_390 (all_n (all_n (all_n all_e q0_393 all_e) q0_395 (all_n all_e q0_396 all_e)) q0_399 (all_n (all_n all_e q0_401 all_e) q0_402 all_e)))) q0_403 (all_n (all_n (all_n (all_n (all_n all_e q0_405 all_e) q0_406 (all_n all_e q0_407 all_e)) q0_410 (all_n (all_n all_e q0_412 all_e) q0_413 all_e)) q0_416 (all_n (all_n (all_n all_e q0_418 all_e) q0_419 (all_n all_e q0_420 all_e)) q0_422 (all_n (all_n all_e q0_423 all_e) q0_424 all_e))) q0_427 (all_n (all_n (all_n (all_n all_e q0_429 all_e) q0_430 (all_n all_e q0_433 all_e)) q0_435 (all_n (all_n all_e q0_436 all_e) q0_437 all_e)) q0_439 (all_n (all_n (all_n all_e q0_440 all_e) q0_441 (all_n all_e q0_444 all_e)) q0_445 (all_n (all_n all_e q0_448 all_e) q0_449 all_e)))))))
abbrev R0 : Room := ⟨7, 20, 120, 129⟩
theorem d1_0 : decode jdk_29_method_70_code 0 = .ok (.lload_n 0, 1) := by decide +kernel
theorem d1_1 : decode jdk_29_method_70_code 1 = .ok (.lload_n 2, 1) := by decide +kernel
theorem d1_2 : decode jdk_29_method_70_code 2 = .ok (.lcmp, 1) := by decide +kernel
theorem d1_3 : decode jdk_29_method_70_code 3 = .ok (.ifCond .gt 7, 3) := by decide +kernel
theorem d1_6 : decode jdk_29_method_70_code 6 = .ok (.lload_n 0, 1) := by decide +kernel
theorem d1_7 : decode jdk_29_method_70_code 7 = .ok (.goto 4, 3) := by decide +kernel
theorem d1_10 : decode jdk_29_method_70_code 10 = .ok (.lload_n 2, 1) := by decide +kernel
theorem d1_11 : decode jdk_29_method_70_code 11 = .ok (.lreturn, 1) := by decide +kernel
theorem q1_0 : Sem1 tables_1 KT μ1 0 (o_ldL 0 1) := Sem1.ldL_n d1_0 rfl
theorem q1_1 : Sem1 tables_1 KT μ1 1 (o_ldL 2 2) := Sem1.ldL_n d1_1 rfl
theorem q1_2 : Sem1 tables_1 KT μ1 2 (o_lcif .gt 10 6) := Sem1.lcif d1_2 rfl d1_3 (by decide) (by decide)
theorem q1_6 : Sem1 tables_1 KT μ1 6 (o_ldL 0 7) := Sem1.ldL_n d1_6 rfl
theorem q1_7 : Sem1 tables_1 KT μ1 7 (o_jmp 11) := Sem1.jmp d1_7 (by decide) (by decide)
theorem q1_10 : Sem1 tables_1 KT μ1 10 (o_ldL 2 11) := Sem1.ldL_n d1_10 rfl
theorem q1_11 : SemR tables_1 KT μ1 11 3 := SemR.l d1_11 rfl
def T1 : Tr := (tr1 (tr1 (tr1 tr0 0 (.inl (o_ldL 0 1)) tr0) 1 (.inl (o_ldL 2 2)) (tr1 tr0 2 (.inl (o_lcif .gt 10 6)) tr0)) 6 (.inl (o_ldL 0 7)) (tr1 (tr1 tr0 7 (.inl (o_jmp 11)) tr0) 10 (.inl (o_ldL 2 11)) (tr1 tr0 11 (.inr (.inr 3)) tr0)))
theorem a1 : TrAll (SemO tables_1 KT MS μ1) T1 := (all_n (all_n (all_n all_e q1_0 all_e) q1_1 (all_n all_e q1_2 all_e)) q1_6 (all_n (all_n all_e q1_7 all_e) q1_10 (all_n all_e q1_11 all_e)))
abbrev R1 : Room := ⟨0, 0, 0, 0⟩
theorem d2_0 : decode method_2_code 0 = .ok (.iload 4, 2) := by decide +kernel
theorem d2_2 : decode method_2_code 2 = .ok (.iload 6, 2) := by decide +kernel
theorem d2_4 : decode method_2_code 4 = .ok (.iadd, 1) := by decide +kernel
theorem d2_5 : decode method_2_code 5 = .ok (.iload 5, 2) := by decide +kernel
theorem d2_7 : decode method_2_code 7 = .ok (.irem, 1) := by decide +kernel
theorem d2_8 : decode method_2_code 8 = .ok (.istore 11, 2) := by decide +kernel
theorem d2_10 : decode method_2_code 10 = .ok (.aload_n 0, 1) := by decide +kernel
theorem d2_11 : decode method_2_code 11 = .ok (.iload 4, 2) := by decide +kernel
theorem d2_13 : decode method_2_code 13 = .ok (.iload 11, 2) := by decide +kernel
theorem d2_15 : decode method_2_code 15 = .ok (.iastore, 1) := by decide +kernel
theorem d2_16 : decode method_2_code 16 = .ok (.aload_n 1, 1) := by decide +kernel
theorem d2_17 : decode method_2_code 17 = .ok (.iload 11, 2) := by decide +kernel
theorem d2_19 : decode method_2_code 19 = .ok (.lload 7, 2) := by decide +kernel
theorem d2_21 : decode method_2_code 21 = .ok (.iload 4, 2) := by decide +kernel
theorem d2_23 : decode method_2_code 23 = .ok (.i2l, 1) := by decide +kernel
theorem d2_24 : decode method_2_code 24 = .ok (.ladd, 1) := by decide +kernel
theorem d2_25 : decode method_2_code 25 = .ok (.lconst 1, 1) := by decide +kernel
theorem d2_26 : decode method_2_code 26 = .ok (.ladd, 1) := by decide +kernel
theorem d2_27 : decode method_2_code 27 = .ok (.lastore, 1) := by decide +kernel
theorem d2_28 : decode method_2_code 28 = .ok (.aload_n 2, 1) := by decide +kernel
theorem d2_29 : decode method_2_code 29 = .ok (.iload 11, 2) := by decide +kernel
theorem d2_31 : decode method_2_code 31 = .ok (.lload 9, 2) := by decide +kernel
theorem d2_33 : decode method_2_code 33 = .ok (.aload_n 3, 1) := by decide +kernel
theorem d2_34 : decode method_2_code 34 = .ok (.iload 4, 2) := by decide +kernel
theorem d2_36 : decode method_2_code 36 = .ok (.laload, 1) := by decide +kernel
theorem d2_37 : decode method_2_code 37 = .ok (.ladd, 1) := by decide +kernel
theorem d2_38 : decode method_2_code 38 = .ok (.lastore, 1) := by decide +kernel
theorem d2_39 : decode method_2_code 39 = .ok (.return_, 1) := by decide +kernel
theorem q2_0 : Sem1 tables_1 KT μ2 0 (o_ldI 4 2) := Sem1.ldI d2_0
theorem q2_2 : Sem1 tables_1 KT μ2 2 (o_ldI 6 4) := Sem1.ldI d2_2
theorem q2_4 : Sem1 tables_1 KT μ2 4 (o_bi 0 5) := Sem1.iadd d2_4
theorem q2_5 : Sem1 tables_1 KT μ2 5 (o_ldI 5 7) := Sem1.ldI d2_5
theorem q2_7 : Sem1 tables_1 KT μ2 7 (o_bi 6 8) := Sem1.irem d2_7
theorem q2_8 : Sem1 tables_1 KT μ2 8 (o_stI 11 10) := Sem1.stI d2_8
theorem q2_10 : Sem1 tables_1 KT μ2 10 (o_ldA 0 11) := Sem1.ldA_n d2_10 rfl
theorem q2_11 : Sem1 tables_1 KT μ2 11 (o_ldI 4 13) := Sem1.ldI d2_11
theorem q2_13 : Sem1 tables_1 KT μ2 13 (o_ldI 11 15) := Sem1.ldI d2_13
theorem q2_15 : Sem1 tables_1 KT μ2 15 (o_iast 16) := Sem1.iast d2_15
theorem q2_16 : Sem1 tables_1 KT μ2 16 (o_ldA 1 17) := Sem1.ldA_n d2_16 rfl
theorem q2_17 : Sem1 tables_1 KT μ2 17 (o_ldI 11 19) := Sem1.ldI d2_17
theorem q2_19 : Sem1 tables_1 KT μ2 19 (o_ldL 7 21) := Sem1.ldL d2_19
theorem q2_21 : Sem1 tables_1 KT μ2 21 (o_ldI 4 23) := Sem1.ldI d2_21
theorem q2_23 : Sem1 tables_1 KT μ2 23 (o_i2l 24) := Sem1.i2l d2_23
theorem q2_24 : Sem1 tables_1 KT μ2 24 (o_bl 0 25) := Sem1.ladd d2_24
theorem q2_25 : Sem1 tables_1 KT μ2 25 (o_cL 1 26) := Sem1.cL (x := 1) (by decide) (fun h => W.lconst' d2_25 (by decide) h)
theorem q2_26 : Sem1 tables_1 KT μ2 26 (o_bl 0 27) := Sem1.ladd d2_26
theorem q2_27 : Sem1 tables_1 KT μ2 27 (o_last 28) := Sem1.last d2_27
theorem q2_28 : Sem1 tables_1 KT μ2 28 (o_ldA 2 29) := Sem1.ldA_n d2_28 rfl
theorem q2_29 : Sem1 tables_1 KT μ2 29 (o_ldI 11 31) := Sem1.ldI d2_29
theorem q2_31 : Sem1 tables_1 KT μ2 31 (o_ldL 9 33) := Sem1.ldL d2_31
theorem q2_33 : Sem1 tables_1 KT μ2 33 (o_ldA 3 34) := Sem1.ldA_n d2_33 rfl
theorem q2_34 : Sem1 tables_1 KT μ2 34 (o_ldI 4 36) := Sem1.ldI d2_34
theorem q2_36 : Sem1 tables_1 KT μ2 36 (o_lald 37) := Sem1.lald d2_36
theorem q2_37 : Sem1 tables_1 KT μ2 37 (o_bl 0 38) := Sem1.ladd d2_37
theorem q2_38 : Sem1 tables_1 KT μ2 38 (o_last 39) := Sem1.last d2_38
theorem q2_39 : SemR tables_1 KT μ2 39 0 := SemR.v d2_39 rfl
def T2 : Tr := (tr1 (tr1 (tr1 (tr1 (tr1 tr0 0 (.inl (o_ldI 4 2)) tr0) 2 (.inl (o_ldI 6 4)) (tr1 tr0 4 (.inl (o_bi 0 5)) tr0)) 5 (.inl (o_ldI 5 7)) (tr1 (tr1 tr0 7 (.inl (o_bi 6 8)) tr0) 8 (.inl (o_stI 11 10)) (tr1 tr0 10 (.inl (o_ldA 0 11)) tr0))) 11 (.inl (o_ldI 4 13)) (tr1 (tr1 (tr1 tr0 13 (.inl (o_ldI 11 15)) tr0) 15 (.inl (o_iast 16)) (tr1 tr0 16 (.inl (o_ldA 1 17)) tr0)) 17 (.inl (o_ldI 11 19)) (tr1 (tr1 tr0 19 (.inl (o_ldL 7 21)) tr0) 21 (.inl (o_ldI 4 23)) tr0))) 23 (.inl (o_i2l 24)) (tr1 (tr1 (tr1 (tr1 tr0 24 (.inl (o_bl 0 25)) tr0) 25 (.inl (o_cL 1 26)) (tr1 tr0 26 (.inl (o_bl 0 27)) tr0)) 27 (.inl (o_last 28)) (tr1 (tr1 tr0 28 (.inl (o_ldA 2 29)) tr0) 29 (.inl (o_ldI 11 31)) tr0)) 31 (.inl (o_ldL 9 33)) (tr1 (tr1 (tr1 tr0 33 (.inl (o_ldA 3 34)) tr0) 34 (.inl (o_ldI 4 36)) (tr1 tr0 36 (.inl (o_lald 37)) tr0)) 37 (.inl (o_bl 0 38)) (tr1 (tr1 tr0 38 (.inl (o_last 39)) tr0) 39 (.inr (.inr 0)) tr0))))
theorem a2 : TrAll (SemO tables_1 KT MS μ2) T2 := (all_n (all_n (all_n (all_n (all_n all_e q2_0 all_e) q2_2 (all_n all_e q2_4 all_e)) q2_5 (all_n (all_n all_e q2_7 all_e) q2_8 (all_n all_e q2_10 all_e))) q2_11 (all_n (all_n (all_n all_e q2_13 all_e) q2_15 (all_n all_e q2_16 all_e)) q2_17 (all_n (all_n all_e q2_19 all_e) q2_21 all_e))) q2_23 (all_n (all_n (all_n (all_n all_e q2_24 all_e) q2_25 (all_n all_e q2_26 all_e)) q2_27 (all_n (all_n all_e q2_28 all_e) q2_29 all_e)) q2_31 (all_n (all_n (all_n all_e q2_33 all_e) q2_34 (all_n all_e q2_36 all_e)) q2_37 (all_n (all_n all_e q2_38 all_e) q2_39 all_e))))
abbrev R2 : Room := ⟨0, 0, 0, 0⟩
theorem d3_0 : decode prog_13_method_1_code 0 = .ok (.aload_n 0, 1) := by decide +kernel
theorem d3_1 : decode prog_13_method_1_code 1 = .ok (.invokespecial 1, 3) := by decide +kernel
theorem d3_4 : decode prog_13_method_1_code 4 = .ok (.aload_n 0, 1) := by decide +kernel
theorem d3_5 : decode prog_13_method_1_code 5 = .ok (.aload_n 1, 1) := by decide +kernel
theorem d3_6 : decode prog_13_method_1_code 6 = .ok (.putfield 7, 3) := by decide +kernel
theorem d3_9 : decode prog_13_method_1_code 9 = .ok (.aload_n 0, 1) := by decide +kernel
theorem d3_10 : decode prog_13_method_1_code 10 = .ok (.aload_n 3, 1) := by decide +kernel
theorem d3_11 : decode prog_13_method_1_code 11 = .ok (.putfield 13, 3) := by decide +kernel
theorem d3_14 : decode prog_13_method_1_code 14 = .ok (.aload_n 0, 1) := by decide +kernel
theorem d3_15 : decode prog_13_method_1_code 15 = .ok (.iconst 2, 1) := by decide +kernel
theorem d3_16 : decode prog_13_method_1_code 16 = .ok (.aload_n 3, 1) := by decide +kernel
theorem d3_17 : decode prog_13_method_1_code 17 = .ok (.arraylength, 1) := by decide +kernel
theorem d3_18 : decode prog_13_method_1_code 18 = .ok (.imul, 1) := by decide +kernel
theorem d3_19 : decode prog_13_method_1_code 19 = .ok (.newarray .long, 2) := by decide +kernel
theorem d3_21 : decode prog_13_method_1_code 21 = .ok (.putfield 17, 3) := by decide +kernel
theorem d3_24 : decode prog_13_method_1_code 24 = .ok (.iconst 1, 1) := by decide +kernel
theorem d3_25 : decode prog_13_method_1_code 25 = .ok (.istore 4, 2) := by decide +kernel
theorem d3_27 : decode prog_13_method_1_code 27 = .ok (.iload 4, 2) := by decide +kernel
theorem d3_29 : decode prog_13_method_1_code 29 = .ok (.aload_n 3, 1) := by decide +kernel
theorem d3_30 : decode prog_13_method_1_code 30 = .ok (.arraylength, 1) := by decide +kernel
theorem d3_31 : decode prog_13_method_1_code 31 = .ok (.if_icmp .ge 12, 3) := by decide +kernel
theorem d3_34 : decode prog_13_method_1_code 34 = .ok (.iload 4, 2) := by decide +kernel
theorem d3_36 : decode prog_13_method_1_code 36 = .ok (.iconst 2, 1) := by decide +kernel
theorem d3_37 : decode prog_13_method_1_code 37 = .ok (.imul, 1) := by decide +kernel
theorem d3_38 : decode prog_13_method_1_code 38 = .ok (.istore 4, 2) := by decide +kernel
theorem d3_40 : decode prog_13_method_1_code 40 = .ok (.goto (-13), 3) := by decide +kernel
theorem d3_43 : decode prog_13_method_1_code 43 = .ok (.aload_n 0, 1) := by decide +kernel
theorem d3_44 : decode prog_13_method_1_code 44 = .ok (.iload 4, 2) := by decide +kernel
theorem d3_46 : decode prog_13_method_1_code 46 = .ok (.putfield 20, 3) := by decide +kernel
theorem d3_49 : decode prog_13_method_1_code 49 = .ok (.aload_n 0, 1) := by decide +kernel
theorem d3_50 : decode prog_13_method_1_code 50 = .ok (.iconst 2, 1) := by decide +kernel
theorem d3_51 : decode prog_13_method_1_code 51 = .ok (.aload_n 0, 1) := by decide +kernel
theorem d3_52 : decode prog_13_method_1_code 52 = .ok (.getfield 20, 3) := by decide +kernel
theorem d3_55 : decode prog_13_method_1_code 55 = .ok (.imul, 1) := by decide +kernel
theorem d3_56 : decode prog_13_method_1_code 56 = .ok (.newarray .int, 2) := by decide +kernel
theorem d3_58 : decode prog_13_method_1_code 58 = .ok (.putfield 24, 3) := by decide +kernel
theorem d3_61 : decode prog_13_method_1_code 61 = .ok (.aload_n 0, 1) := by decide +kernel
theorem d3_62 : decode prog_13_method_1_code 62 = .ok (.iconst 2, 1) := by decide +kernel
theorem d3_63 : decode prog_13_method_1_code 63 = .ok (.aload_n 0, 1) := by decide +kernel
theorem d3_64 : decode prog_13_method_1_code 64 = .ok (.getfield 20, 3) := by decide +kernel
theorem d3_67 : decode prog_13_method_1_code 67 = .ok (.imul, 1) := by decide +kernel
theorem d3_68 : decode prog_13_method_1_code 68 = .ok (.newarray .int, 2) := by decide +kernel
theorem d3_70 : decode prog_13_method_1_code 70 = .ok (.putfield 27, 3) := by decide +kernel
theorem d3_73 : decode prog_13_method_1_code 73 = .ok (.aload_n 0, 1) := by decide +kernel
theorem d3_74 : decode prog_13_method_1_code 74 = .ok (.new 30, 3) := by decide +kernel
theorem d3_77 : decode prog_13_method_1_code 77 = .ok (.dup, 1) := by decide +kernel
theorem d3_78 : decode prog_13_method_1_code 78 = .ok (.aload_n 0, 1) := by decide +kernel
theorem d3_79 : decode prog_13_method_1_code 79 = .ok (.iconst 1, 1) := by decide +kernel
theorem d3_80 : decode prog_13_method_1_code 80 = .ok (.invokespecial 32, 3) := by decide +kernel
theorem d3_83 : decode prog_13_method_1_code 83 = .ok (.putfield 35, 3) := by decide +kernel
theorem d3_86 : decode prog_13_method_1_code 86 = .ok (.aload_n 0, 1) := by decide +kernel
theorem d3_87 : decode prog_13_method_1_code 87 = .ok (.new 30, 3) := by decide +kernel
theorem d3_90 : decode prog_13_method_1_code 90 = .ok (.dup, 1) := by decide +kernel
theorem d3_91 : decode prog_13_method_1_code 91 = .ok (.aload_n 0, 1) := by decide +kernel
theorem d3_92 : decode prog_13_method_1_code 92 = .ok (.iconst (-1), 1) := by decide +kernel
theorem d3_93 : decode prog_13_method_1_code 93 = .ok (.invokespecial 32, 3) := by decide +kernel
theorem d3_96 : decode prog_13_method_1_code 96 = .ok (.putfield 39, 3) := by decide +kernel
theorem d3_99 : decode prog_13_method_1_code 99 = .ok (.aload_n 0, 1) := by decide +kernel
theorem d3_100 : decode prog_13_method_1_code 100 = .ok (.getfield 24, 3) := by decide +kernel
theorem d3_103 : decode prog_13_method_1_code 103 = .ok (.iconst (-1), 1) := by decide +kernel
theorem d3_104 : decode prog_13_method_1_code 104 = .ok (.invokestatic 42, 3) := by decide +kernel
theorem d3_107 : decode prog_13_method_1_code 107 = .ok (.aload_n 0, 1) := by decide +kernel
theorem d3_108 : decode prog_13_method_1_code 108 = .ok (.getfield 27, 3) := by decide +kernel
theorem d3_111 : decode prog_13_method_1_code 111 = .ok (.iconst (-1), 1) := by decide +kernel
theorem d3_112 : decode prog_13_method_1_code 112 = .ok (.invokestatic 42, 3) := by decide +kernel
theorem d3_115 : decode prog_13_method_1_code 115 = .ok (.iconst 0, 1) := by decide +kernel
theorem d3_116 : decode prog_13_method_1_code 116 = .ok (.istore 5, 2) := by decide +kernel
theorem d3_118 : decode prog_13_method_1_code 118 = .ok (.iload 5, 2) := by decide +kernel
theorem d3_120 : decode prog_13_method_1_code 120 = .ok (.aload_n 3, 1) := by decide +kernel
theorem d3_121 : decode prog_13_method_1_code 121 = .ok (.arraylength, 1) := by decide +kernel
theorem d3_122 : decode prog_13_method_1_code 122 = .ok (.if_icmp .ge 69, 3) := by decide +kernel
theorem d3_125 : decode prog_13_method_1_code 125 = .ok (.aload_n 0, 1) := by decide +kernel
theorem d3_126 : decode prog_13_method_1_code 126 = .ok (.getfield 17, 3) := by decide +kernel
theorem d3_129 : decode prog_13_method_1_code 129 = .ok (.iconst 2, 1) := by decide +kernel
theorem d3_130 : decode prog_13_method_1_code 130 = .ok (.iload 5, 2) := by decide +kernel
theorem d3_132 : decode prog_13_method_1_code 132 = .ok (.imul, 1) := by decide +kernel
theorem d3_133 : decode prog_13_method_1_code 133 = .ok (.aload_n 1, 1) := by decide +kernel
theorem d3_134 : decode prog_13_method_1_code 134 = .ok (.aload_n 3, 1) := by decide +kernel
theorem d3_135 : decode prog_13_method_1_code 135 = .ok (.iload 5, 2) := by decide +kernel
theorem d3_137 : decode prog_13_method_1_code 137 = .ok (.iaload, 1) := by decide +kernel
theorem d3_138 : decode prog_13_method_1_code 138 = .ok (.laload, 1) := by decide +kernel
theorem d3_139 : decode prog_13_method_1_code 139 = .ok (.lastore, 1) := by decide +kernel
theorem d3_140 : decode prog_13_method_1_code 140 = .ok (.aload_n 0, 1) := by decide +kernel
theorem d3_141 : decode prog_13_method_1_code 141 = .ok (.getfield 17, 3) := by decide +kernel
theorem d3_144 : decode prog_13_method_1_code 144 = .ok (.iconst 2, 1) := by decide +kernel
theorem d3_145 : decode prog_13_method_1_code 145 = .ok (.iload 5, 2) := by decide +kernel
theorem d3_147 : decode prog_13_method_1_code 147 = .ok (.imul, 1) := by decide +kernel
theorem d3_148 : decode prog_13_method_1_code 148 = .ok (.iconst 1, 1) := by decide +kernel
theorem d3_149 : decode prog_13_method_1_code 149 = .ok (.iadd, 1) := by decide +kernel
theorem d3_150 : decode prog_13_method_1_code 150 = .ok (.aload_n 2, 1) := by decide +kernel
theorem d3_151 : decode prog_13_method_1_code 151 = .ok (.aload_n 3, 1) := by decide +kernel
theorem d3_152 : decode prog_13_method_1_code 152 = .ok (.iload 5, 2) := by decide +kernel
theorem d3_154 : decode prog_13_method_1_code 154 = .ok (.iaload, 1) := by decide +kernel
theorem d3_155 : decode prog_13_method_1_code 155 = .ok (.laload, 1) := by decide +kernel
theorem d3_156 : decode prog_13_method_1_code 156 = .ok (.lastore, 1) := by decide +kernel
theorem d3_157 : decode prog_13_method_1_code 157 = .ok (.aload_n 0, 1) := by decide +kernel
theorem d3_158 : decode prog_13_method_1_code 158 = .ok (.getfield 24, 3) := by decide +kernel
theorem d3_161 : decode prog_13_method_1_code 161 = .ok (.aload_n 0, 1) := by decide +kernel
theorem d3_162 : decode prog_13_method_1_code 162 = .ok (.getfield 20, 3) := by decide +kernel
theorem d3_165 : decode prog_13_method_1_code 165 = .ok (.iload 5, 2) := by decide +kernel
theorem d3_167 : decode prog_13_method_1_code 167 = .ok (.iadd, 1) := by decide +kernel
theorem d3_168 : decode prog_13_method_1_code 168 = .ok (.iload 5, 2) := by decide +kernel
theorem d3_170 : decode prog_13_method_1_code 170 = .ok (.iastore, 1) := by decide +kernel
theorem d3_171 : decode prog_13_method_1_code 171 = .ok (.aload_n 0, 1) := by decide +kernel
theorem d3_172 : decode prog_13_method_1_code 172 = .ok (.getfield 27, 3) := by decide +kernel
theorem d3_175 : decode prog_13_method_1_code 175 = .ok (.aload_n 0, 1) := by decide +kernel
theorem d3_176 : decode prog_13_method_1_code 176 = .ok (.getfield 20, 3) := by decide +kernel
theorem d3_179 : decode prog_13_method_1_code 179 = .ok (.iload 5, 2) := by decide +kernel
theorem d3_181 : decode prog_13_method_1_code 181 = .ok (.iadd, 1) := by decide +kernel
theorem d3_182 : decode prog_13_method_1_code 182 = .ok (.iload 5, 2) := by decide +kernel
theorem d3_184 : decode prog_13_method_1_code 184 = .ok (.iastore, 1) := by decide +kernel
theorem d3_185 : decode prog_13_method_1_code 185 = .ok (.iinc 5 1, 3) := by decide +kernel
theorem d3_188 : decode prog_13_method_1_code 188 = .ok (.goto (-70), 3) := by decide +kernel
theorem d3_191 : decode prog_13_method_1_code 191 = .ok (.aload_n 0, 1) := by decide +kernel
theorem d3_192 : decode prog_13_method_1_code 192 = .ok (.getfield 20, 3) := by decide +kernel
theorem d3_195 : decode prog_13_method_1_code 195 = .ok (.iconst 1, 1) := by decide +kernel
theorem d3_196 : decode prog_13_method_1_code 196 = .ok (.isub, 1) := by decide +kernel
theorem d3_197 : decode prog_13_method_1_code 197 = .ok (.istore 5, 2) := by decide +kernel
theorem d3_199 : decode prog_13_method_1_code 199 = .ok (.iload 5, 2) := by decide +kernel
theorem d3_201 : decode prog_13_method_1_code 201 = .ok (.iconst 1, 1) := by decide +kernel
theorem d3_202 : decode prog_13_method_1_code 202 = .ok (.if_icmp .lt 79, 3) := by decide +kernel
theorem d3_205 : decode prog_13_method_1_code 205 = .ok (.aload_n 0, 1) := by decide +kernel
theorem d3_206 : decode prog_13_method_1_code 206 = .ok (.iload 5, 2) := by decide +kernel
theorem d3_208 : decode prog_13_method_1_code 208 = .ok (.invokevirtual 48, 3) := by decide +kernel
theorem d3_211 : decode prog_13_method_1_code 211 = .ok (.aload_n 0, 1) := by decide +kernel
theorem d3_212 : decode prog_13_method_1_code 212 = .ok (.getfield 24, 3) := by decide +kernel
theorem d3_215 : decode prog_13_method_1_code 215 = .ok (.iconst 2, 1) := by decide +kernel
theorem d3_216 : decode prog_13_method_1_code 216 = .ok (.iload 5, 2) := by decide +kernel
theorem d3_218 : decode prog_13_method_1_code 218 = .ok (.imul, 1) := by decide +kernel
theorem d3_219 : decode prog_13_method_1_code 219 = .ok (.iaload, 1) := by decide +kernel
theorem d3_220 : decode prog_13_method_1_code 220 = .ok (.ifCond .lt 55, 3) := by decide +kernel
theorem d3_223 : decode prog_13_method_1_code 223 = .ok (.aload_n 0, 1) := by decide +kernel
theorem d3_224 : decode prog_13_method_1_code 224 = .ok (.getfield 24, 3) := by decide +kernel
theorem d3_227 : decode prog_13_method_1_code 227 = .ok (.iconst 2, 1) := by decide +kernel
theorem d3_228 : decode prog_13_method_1_code 228 = .ok (.iload 5, 2) := by decide +kernel
theorem d3_230 : decode prog_13_method_1_code 230 = .ok (.imul, 1) := by decide +kernel
theorem d3_231 : decode prog_13_method_1_code 231 = .ok (.iconst 1, 1) := by decide +kernel
theorem d3_232 : decode prog_13_method_1_code 232 = .ok (.iadd, 1) := by decide +kernel
theorem d3_233 : decode prog_13_method_1_code 233 = .ok (.iaload, 1) := by decide +kernel
theorem d3_234 : decode prog_13_method_1_code 234 = .ok (.ifCond .lt 41, 3) := by decide +kernel
theorem d3_237 : decode prog_13_method_1_code 237 = .ok (.aload_n 0, 1) := by decide +kernel
theorem d3_238 : decode prog_13_method_1_code 238 = .ok (.getfield 35, 3) := by decide +kernel
theorem d3_241 : decode prog_13_method_1_code 241 = .ok (.iload 5, 2) := by decide +kernel
theorem d3_243 : decode prog_13_method_1_code 243 = .ok (.iconst 2, 1) := by decide +kernel
theorem d3_244 : decode prog_13_method_1_code 244 = .ok (.iload 5, 2) := by decide +kernel
theorem d3_246 : decode prog_13_method_1_code 246 = .ok (.imul, 1) := by decide +kernel
theorem d3_247 : decode prog_13_method_1_code 247 = .ok (.iconst 2, 1) := by decide +kernel
theorem d3_248 : decode prog_13_method_1_code 248 = .ok (.iload 5, 2) := by decide +kernel
theorem d3_250 : decode prog_13_method_1_code 250 = .ok (.imul, 1) := by decide +kernel
theorem d3_251 : decode prog_13_method_1_code 251 = .ok (.iconst 1, 1) := by decide +kernel
theorem d3_252 : decode prog_13_method_1_code 252 = .ok (.iadd, 1) := by decide +kernel
theorem d3_253 : decode prog_13_method_1_code 253 = .ok (.invokevirtual 52, 3) := by decide +kernel
theorem d3_256 : decode prog_13_method_1_code 256 = .ok (.aload_n 0, 1) := by decide +kernel
theorem d3_257 : decode prog_13_method_1_code 257 = .ok (.getfield 39, 3) := by decide +kernel
theorem d3_260 : decode prog_13_method_1_code 260 = .ok (.iload 5, 2) := by decide +kernel
theorem d3_262 : decode prog_13_method_1_code 262 = .ok (.iconst 2, 1) := by decide +kernel
theorem d3_263 : decode prog_13_method_1_code 263 = .ok (.iload 5, 2) := by decide +kernel
theorem d3_265 : decode prog_13_method_1_code 265 = .ok (.imul, 1) := by decide +kernel
theorem d3_266 : decode prog_13_method_1_code 266 = .ok (.iconst 2, 1) := by decide +kernel
theorem d3_267 : decode prog_13_method_1_code 267 = .ok (.iload 5, 2) := by decide +kernel
theorem d3_269 : decode prog_13_method_1_code 269 = .ok (.imul, 1) := by decide +kernel
theorem d3_270 : decode prog_13_method_1_code 270 = .ok (.iconst 1, 1) := by decide +kernel
theorem d3_271 : decode prog_13_method_1_code 271 = .ok (.iadd, 1) := by decide +kernel
theorem d3_272 : decode prog_13_method_1_code 272 = .ok (.invokevirtual 52, 3) := by decide +kernel
theorem d3_275 : decode prog_13_method_1_code 275 = .ok (.iinc 5 (-1), 3) := by decide +kernel
theorem d3_278 : decode prog_13_method_1_code 278 = .ok (.goto (-79), 3) := by decide +kernel
theorem d3_281 : decode prog_13_method_1_code 281 = .ok (.aload_n 0, 1) := by decide +kernel
theorem d3_282 : decode prog_13_method_1_code 282 = .ok (.aload_n 3, 1) := by decide +kernel
theorem d3_283 : decode prog_13_method_1_code 283 = .ok (.arraylength, 1) := by decide +kernel
theorem d3_284 : decode prog_13_method_1_code 284 = .ok (.putfield 56, 3) := by decide +kernel
theorem d3_287 : decode prog_13_method_1_code 287 = .ok (.return_, 1) := by decide +kernel
theorem q3_0 : Sem1 tables_1 KT μ3 0 (o_ldA 0 1) := Sem1.ldA_n d3_0 rfl
theorem q3_1 : Sem1 tables_1 KT μ3 1 (o_initO 4) := Sem1.initO d3_1 (List.mem_of_getElem? (i := 23) rfl) (List.mem_of_getElem? (i := 24) rfl) (List.mem_of_getElem? (i := 25) rfl)
theorem q3_4 : Sem1 tables_1 KT μ3 4 (o_ldA 0 5) := Sem1.ldA_n d3_4 rfl
theorem q3_5 : Sem1 tables_1 KT μ3 5 (o_ldA 1 6) := Sem1.ldA_n d3_5 rfl
theorem q3_6 : Sem1 tables_1 KT μ3 6 (o_pF 0 0 1 9) := Sem1.pF kt d3_6 (host := "") (Or.inl (List.mem_of_getElem? (i := 26) rfl)) (Or.inl rfl) rfl rfl (Or.inr ⟨(List.mem_of_getElem? (i := 27) rfl), rfl, rfl⟩) (Or.inr ⟨rfl, rfl⟩)
theorem q3_9 : Sem1 tables_1 KT μ3 9 (o_ldA 0 10) := Sem1.ldA_n d3_9 rfl
theorem q3_10 : Sem1 tables_1 KT μ3 10 (o_ldA 3 11) := Sem1.ldA_n d3_10 rfl
theorem q3_11 : Sem1 tables_1 KT μ3 11 (o_pF 0 1 1 14) := Sem1.pF kt d3_11 (host := "") (Or.inl (List.mem_of_getElem? (i := 28) rfl)) (Or.inl rfl) rfl rfl (Or.inr ⟨(List.mem_of_getElem? (i := 29) rfl), rfl, rfl⟩) (Or.inr ⟨rfl, rfl⟩)
theorem q3_14 : Sem1 tables_1 KT μ3 14 (o_ldA 0 15) := Sem1.ldA_n d3_14 rfl
theorem q3_15 : Sem1 tables_1 KT μ3 15 (o_cI 2 16) := Sem1.cI (fun h => W.iconst' d3_15 (by decide) h)
theorem q3_16 : Sem1 tables_1 KT μ3 16 (o_ldA 3 17) := Sem1.ldA_n d3_16 rfl
theorem q3_17 : Sem1 tables_1 KT μ3 17 (o_alen 18) := Sem1.alen d3_17
theorem q3_18 : Sem1 tables_1 KT μ3 18 (o_bi 2 19) := Sem1.imul d3_18
theorem q3_19 : Sem1 tables_1 KT μ3 19 (o_newL 21) := Sem1.newL d3_19 (List.mem_of_getElem? (i := 8) rfl)
theorem q3_21 : Sem1 tables_1 KT μ3 21 (o_pF 0 2 1 24) := Sem1.pF kt d3_21 (host := "") (Or.inl (List.mem_of_getElem? (i := 30) rfl)) (Or.inl rfl) rfl rfl (Or.inr ⟨(List.mem_of_getElem? (i := 31) rfl), rfl, rfl⟩) (Or.inr ⟨rfl, rfl⟩)
theorem q3_24 : Sem1 tables_1 KT μ3 24 (o_cI 1 25) := Sem1.cI (fun h => W.iconst' d3_24 (by decide) h)
theorem q3_25 : Sem1 tables_1 KT μ3 25 (o_stI 4 27) := Sem1.stI d3_25
theorem q3_27 : Sem1 tables_1 KT μ3 27 (o_ldI 4 29) := Sem1.ldI d3_27
theorem q3_29 : Sem1 tables_1 KT μ3 29 (o_ldA 3 30) := Sem1.ldA_n d3_29 rfl
theorem q3_30 : Sem1 tables_1 KT μ3 30 (o_alen 31) := Sem1.alen d3_30
theorem q3_31 : Sem1 tables_1 KT μ3 31 (o_icmp .ge 43 34) := Sem1.icmp d3_31 (by decide) (by decide)
theorem q3_34 : Sem1 tables_1 KT μ3 34 (o_ldI 4 36) := Sem1.ldI d3_34
theorem q3_36 : Sem1 tables_1 KT μ3 36 (o_cI 2 37) := Sem1.cI (fun h => W.iconst' d3_36 (by decide) h)
theorem q3_37 : Sem1 tables_1 KT μ3 37 (o_bi 2 38) := Sem1.imul d3_37
theorem q3_38 : Sem1 tables_1 KT μ3 38 (o_stI 4 40) := Sem1.stI d3_38
theorem q3_40 : Sem1 tables_1 KT μ3 40 (o_jmp 27) := Sem1.jmp d3_40 (by decide) (by decide)
theorem q3_43 : Sem1 tables_1 KT μ3 43 (o_ldA 0 44) := Sem1.ldA_n d3_43 rfl
theorem q3_44 : Sem1 tables_1 KT μ3 44 (o_ldI 4 46) := Sem1.ldI d3_44
theorem q3_46 : Sem1 tables_1 KT μ3 46 (o_pF 0 3 0 49) := Sem1.pF kt d3_46 (host := "") (Or.inl (List.mem_of_getElem? (i := 32) rfl)) (Or.inl rfl) rfl rfl (Or.inr ⟨(List.mem_of_getElem? (i := 33) rfl), rfl, rfl⟩) (Or.inl ⟨rfl, rfl⟩)
theorem q3_49 : Sem1 tables_1 KT μ3 49 (o_ldA 0 50) := Sem1.ldA_n d3_49 rfl
theorem q3_50 : Sem1 tables_1 KT μ3 50 (o_cI 2 51) := Sem1.cI (fun h => W.iconst' d3_50 (by decide) h)
theorem q3_51 : Sem1 tables_1 KT μ3 51 (o_ldA 0 52) := Sem1.ldA_n d3_51 rfl
theorem q3_52 : Sem1 tables_1 KT μ3 52 (o_gF 0 3 55) := Sem1.gF d3_52 (host := "") (Or.inl (List.mem_of_getElem? (i := 32) rfl)) (Or.inl rfl) rfl rfl
theorem q3_55 : Sem1 tables_1 KT μ3 55 (o_bi 2 56) := Sem1.imul d3_55
theorem q3_56 : Sem1 tables_1 KT μ3 56 (o_newI 58) := Sem1.newI d3_56 (List.mem_of_getElem? (i := 12) rfl)
theorem q3_58 : Sem1 tables_1 KT μ3 58 (o_pF 0 4 1 61) := Sem1.pF kt d3_58 (host := "") (Or.inl (List.mem_of_getElem? (i := 34) rfl)) (Or.inl rfl) rfl rfl (Or.inr ⟨(List.mem_of_getElem? (i := 35) rfl), rfl, rfl⟩) (Or.inr ⟨rfl, rfl⟩)
theorem q3_61 : Sem1 tables_1 KT μ3 61 (o_ldA 0 62) := Sem1.ldA_n d3_61 rfl
theorem q3_62 : Sem1 tables_1 KT μ3 62 (o_cI 2 63) := Sem1.cI (fun h => W.iconst' d3_62 (by decide) h)
theorem q3_63 : Sem1 tables_1 KT μ3 63 (o_ldA 0 64) := Sem1.ldA_n d3_63 rfl
theorem q3_64 : Sem1 tables_1 KT μ3 64 (o_gF 0 3 67) := Sem1.gF d3_64 (host := "") (Or.inl (List.mem_of_getElem? (i := 32) rfl)) (Or.inl rfl) rfl rfl
theorem q3_67 : Sem1 tables_1 KT μ3 67 (o_bi 2 68) := Sem1.imul d3_67
theorem q3_68 : Sem1 tables_1 KT μ3 68 (o_newI 70) := Sem1.newI d3_68 (List.mem_of_getElem? (i := 12) rfl)
theorem q3_70 : Sem1 tables_1 KT μ3 70 (o_pF 0 5 1 73) := Sem1.pF kt d3_70 (host := "") (Or.inl (List.mem_of_getElem? (i := 36) rfl)) (Or.inl rfl) rfl rfl (Or.inr ⟨(List.mem_of_getElem? (i := 37) rfl), rfl, rfl⟩) (Or.inr ⟨rfl, rfl⟩)
theorem q3_73 : Sem1 tables_1 KT μ3 73 (o_ldA 0 74) := Sem1.ldA_n d3_73 rfl
theorem q3_74 : Sem1 tables_1 KT μ3 74 (o_new 1 5 [.inl .null, .inl .null, .inl .null, .inl (.int 0), .inl .null] 77) := Sem1.new kt d3_74 (List.mem_of_getElem? (i := 38) rfl) (List.mem_of_getElem? (i := 40) rfl) rfl (fun _ _ => rfl)
theorem q3_77 : Sem1 tables_1 KT μ3 77 (o_dup 78) := Sem1.dup d3_77
theorem q3_78 : Sem1 tables_1 KT μ3 78 (o_ldA 0 79) := Sem1.ldA_n d3_78 rfl
theorem q3_79 : Sem1 tables_1 KT μ3 79 (o_cI 1 80) := Sem1.cI (fun h => W.iconst' d3_79 (by decide) h)
theorem q3_80 : SemC tables_1 KT μ3 μ4 80 3 1 83 := SemC.I d3_80 rfl rfl (List.mem_of_getElem? (i := 41) rfl) (List.mem_of_getElem? (i := 42) rfl) (List.mem_of_getElem? (i := 40) rfl) (List.mem_of_getElem? (i := 43) rfl) (by decide) pd4 rfl
theorem q3_83 : Sem1 tables_1 KT μ3 83 (o_pF 0 6 1 86) := Sem1.pF kt d3_83 (host := "") (Or.inl (List.mem_of_getElem? (i := 65) rfl)) (Or.inl rfl) rfl rfl (Or.inr ⟨(List.mem_of_getElem? (i := 66) rfl), rfl, rfl⟩) (Or.inr ⟨rfl, rfl⟩)
theorem q3_86 : Sem1 tables_1 KT μ3 86 (o_ldA 0 87) := Sem1.ldA_n d3_86 rfl
theorem q3_87 : Sem1 tables_1 KT μ3 87 (o_new 1 5 [.inl .null, .inl .null, .inl .null, .inl (.int 0), .inl .null] 90) := Sem1.new kt d3_87 (List.mem_of_getElem? (i := 38) rfl) (List.mem_of_getElem? (i := 40) rfl) rfl (fun _ _ => rfl)
theorem q3_90 : Sem1 tables_1 KT μ3 90 (o_dup 91) := Sem1.dup d3_90
theorem q3_91 : Sem1 tables_1 KT μ3 91 (o_ldA 0 92) := Sem1.ldA_n d3_91 rfl
theorem q3_92 : Sem1 tables_1 KT μ3 92 (o_cI (-1) 93) := Sem1.cI (fun h => W.iconst' d3_92 (by decide) h)
theorem q3_93 : SemC tables_1 KT μ3 μ4 93 3 1 96 := SemC.I d3_93 rfl rfl (List.mem_of_getElem? (i := 41) rfl) (List.mem_of_getElem? (i := 42) rfl) (List.mem_of_getElem? (i := 40) rfl) (List.mem_of_getElem? (i := 43) rfl) (by decide) pd4 rfl
theorem q3_96 : Sem1 tables_1 KT μ3 96 (o_pF 0 7 1 99) := Sem1.pF kt d3_96 (host := "") (Or.inl (List.mem_of_getElem? (i := 67) rfl)) (Or.inl rfl) rfl rfl (Or.inr ⟨(List.mem_of_getElem? (i := 68) rfl), rfl, rfl⟩) (Or.inr ⟨rfl, rfl⟩)
theorem q3_99 : Sem1 tables_1 KT μ3 99 (o_ldA 0 100) := Sem1.ldA_n d3_99 rfl
theorem q3_100 : Sem1 tables_1 KT μ3 100 (o_gF 0 4 103) := Sem1.gF d3_100 (host := "") (Or.inl (List.mem_of_getElem? (i := 34) rfl)) (Or.inl rfl) rfl rfl
theorem q3_103 : Sem1 tables_1 KT μ3 103 (o_cI (-1) 104) := Sem1.cI (fun h => W.iconst' d3_103 (by decide) h)
theorem q3_104 : SemC tables_1 KT μ3 μ6 104 2 0 107 := SemC.S d3_104 (List.mem_of_getElem? (i := 69) rfl) (List.mem_of_getElem? (i := 70) rfl) (List.mem_of_getElem? (i := 71) rfl) (List.mem_of_getElem? (i := 72) rfl) (by decide) pd6 rfl
theorem q3_107 : Sem1 tables_1 KT μ3 107 (o_ldA 0 108) := Sem1.ldA_n d3_107 rfl
theorem q3_108 : Sem1 tables_1 KT μ3 108 (o_gF 0 5 111) := Sem1.gF d3_108 (host := "") (Or.inl (List.mem_of_getElem? (i := 36) rfl)) (Or.inl rfl) rfl rfl
theorem q3_111 : Sem1 tables_1 KT μ3 111 (o_cI (-1) 112) := Sem1.cI (fun h => W.iconst' d3_111 (by decide) h)
theorem q3_112 : SemC tables_1 KT μ3 μ6 112 2 0 115 := SemC.S d3_112 (List.mem_of_getElem? (i := 69) rfl) (List.mem_of_getElem? (i := 70) rfl) (List.mem_of_getElem? (i := 71) rfl) (List.mem_of_getElem? (i := 72) rfl) (by decide) pd6 rfl
theorem q3_115 : Sem1 tables_1 KT μ3 115 (o_cI 0 116) := Sem1.cI (fun h => W.iconst' d3_115 (by decide) h)
theorem q3_116 : Sem1 tables_1 KT μ3 116 (o_stI 5 118) := Sem1.stI d3_116
theorem q3_118 : Sem1 tables_1 KT μ3 118 (o_ldI 5 120) := Sem1.ldI d3_118
theorem q3_120 : Sem1 tables_1 KT μ3 120 (o_ldA 3 121) := Sem1.ldA_n d3_120 rfl
theorem q3_121 : Sem1 tables_1 KT μ3 121 (o_alen 122) := Sem1.alen d3_121
theorem q3_122 : Sem1 tables_1 KT μ3 122 (o_icmp .ge 191 125) := Sem1.icmp d3_122 (by decide) (by decide)
theorem q3_125 : Sem1 tables_1 KT μ3 125 (o_ldA 0 126) := Sem1.ldA_n d3_125 rfl
theorem q3_126 : Sem1 tables_1 KT μ3 126 (o_gF 0 2 129) := Sem1.gF d3_126 (host := "") (Or.inl (List.mem_of_getElem? (i := 30) rfl)) (Or.inl rfl) rfl rfl
theorem q3_129 : Sem1 tables_1 KT μ3 129 (o_cI 2 130) := Sem1.cI (fun h => W.iconst' d3_129 (by decide) h)
theorem q3_130 : Sem1 tables_1 KT μ3 130 (o_ldI 5 132) := Sem1.ldI d3_130
theorem q3_132 : Sem1 tables_1 KT μ3 132 (o_bi 2 133) := Sem1.imul d3_132
theorem q3_133 : Sem1 tables_1 KT μ3 133 (o_ldA 1 134) := Sem1.ldA_n d3_133 rfl
theorem q3_134 : Sem1 tables_1 KT μ3 134 (o_ldA 3 135) := Sem1.ldA_n d3_134 rfl
theorem q3_135 : Sem1 tables_1 KT μ3 135 (o_ldI 5 137) := Sem1.ldI d3_135
theorem q3_137 : Sem1 tables_1 KT μ3 137 (o_iald 138) := Sem1.iald d3_137
theorem q3_138 : Sem1 tables_1 KT μ3 138 (o_lald 139) := Sem1.lald d3_138
theorem q3_139 : Sem1 tables_1 KT μ3 139 (o_last 140) := Sem1.last d3_139
theorem q3_140 : Sem1 tables_1 KT μ3 140 (o_ldA 0 141) := Sem1.ldA_n d3_140 rfl
theorem q3_141 : Sem1 tables_1 KT μ3 141 (o_gF 0 2 144) := Sem1.gF d3_141 (host := "") (Or.inl (List.mem_of_getElem? (i := 30) rfl)) (Or.inl rfl) rfl rfl
theorem q3_144 : Sem1 tables_1 KT μ3 144 (o_cI 2 145) := Sem1.cI (fun h => W.iconst' d3_144 (by decide) h)
theorem q3_145 : Sem1 tables_1 KT μ3 145 (o_ldI 5 147) := Sem1.ldI d3_145
theorem q3_147 : Sem1 tables_1 KT μ3 147 (o_bi 2 148) := Sem1.imul d3_147
theorem q3_148 : Sem1 tables_1 KT μ3 148 (o_cI 1 149) := Sem1.cI (fun h => W.iconst' d3_148 (by decide) h)
theorem q3_149 : Sem1 tables_1 KT μ3 149 (o_bi 0 150) := Sem1.iadd d3_149
theorem q3_150 : Sem1 tables_1 KT μ3 150 (o_ldA 2 151) := Sem1.ldA_n d3_150 rfl
theorem q3_151 : Sem1 tables_1 KT μ3 151 (o_ldA 3 152) := Sem1.ldA_n d3_151 rfl
theorem q3_152 : Sem1 tables_1 KT μ3 152 (o_ldI 5 154) := Sem1.ldI d3_152
theorem q3_154 : Sem1 tables_1 KT μ3 154 (o_iald 155) := Sem1.iald d3_154
theorem q3_155 : Sem1 tables_1 KT μ3 155 (o_lald 156) := Sem1.lald d3_155
theorem q3_156 : Sem1 tables_1 KT μ3 156 (o_last 157) := Sem1.last d3_156
theorem q3_157 : Sem1 tables_1 KT μ3 157 (o_ldA 0 158) := Sem1.ldA_n d3_157 rfl
theorem q3_158 : Sem1 tables_1 KT μ3 158 (o_gF 0 4 161) := Sem1.gF d3_158 (host := "") (Or.inl (List.mem_of_getElem? (i := 34) rfl)) (Or.inl rfl) rfl rfl
theorem q3_161 : Sem1 tables_1 KT μ3 161 (o_ldA 0 162) := Sem1.ldA_n d3_161 rfl
theorem q3_162 : Sem1 tables_1 KT μ3 162 (o_gF 0 3 165) := Sem1.gF d3_162 (host := "") (Or.inl (List.mem_of_getElem? (i := 32) rfl)) (Or.inl rfl) rfl rfl
theorem q3_165 : Sem1 tables_1 KT μ3 165 (o_ldI 5 167) := Sem1.ldI d3_165
theorem q3_167 : Sem1 tables_1 KT μ3 167 (o_bi 0 168) := Sem1.iadd d3_167
theorem q3_168 : Sem1 tables_1 KT μ3 168 (o_ldI 5 170) := Sem1.ldI d3_168
theorem q3_170 : Sem1 tables_1 KT μ3 170 (o_iast 171) := Sem1.iast d3_170
theorem q3_171 : Sem1 tables_1 KT μ3 171 (o_ldA 0 172) := Sem1.ldA_n d3_171 rfl
theorem q3_172 : Sem1 tables_1 KT μ3 172 (o_gF 0 5 175) := Sem1.gF d3_172 (host := "") (Or.inl (List.mem_of_getElem? (i := 36) rfl)) (Or.inl rfl) rfl rfl
theorem q3_175 : Sem1 tables_1 KT μ3 175 (o_ldA 0 176) := Sem1.ldA_n d3_175 rfl
theorem q3_176 : Sem1 tables_1 KT μ3 176 (o_gF 0 3 179) := Sem1.gF d3_176 (host := "") (Or.inl (List.mem_of_getElem? (i := 32) rfl)) (Or.inl rfl) rfl rfl
theorem q3_179 : Sem1 tables_1 KT μ3 179 (o_ldI 5 181) := Sem1.ldI d3_179
theorem q3_181 : Sem1 tables_1 KT μ3 181 (o_bi 0 182) := Sem1.iadd d3_181
theorem q3_182 : Sem1 tables_1 KT μ3 182 (o_ldI 5 184) := Sem1.ldI d3_182
theorem q3_184 : Sem1 tables_1 KT μ3 184 (o_iast 185) := Sem1.iast d3_184
theorem q3_185 : Sem1 tables_1 KT μ3 185 (o_inc 5 1 188) := Sem1.inc d3_185 (by decide)
theorem q3_188 : Sem1 tables_1 KT μ3 188 (o_jmp 118) := Sem1.jmp d3_188 (by decide) (by decide)
theorem q3_191 : Sem1 tables_1 KT μ3 191 (o_ldA 0 192) := Sem1.ldA_n d3_191 rfl
theorem q3_192 : Sem1 tables_1 KT μ3 192 (o_gF 0 3 195) := Sem1.gF d3_192 (host := "") (Or.inl (List.mem_of_getElem? (i := 32) rfl)) (Or.inl rfl) rfl rfl
theorem q3_195 : Sem1 tables_1 KT μ3 195 (o_cI 1 196) := Sem1.cI (fun h => W.iconst' d3_195 (by decide) h)
theorem q3_196 : Sem1 tables_1 KT μ3 196 (o_bi 1 197) := Sem1.isub d3_196
theorem q3_197 : Sem1 tables_1 KT μ3 197 (o_stI 5 199) := Sem1.stI d3_197
theorem q3_199 : Sem1 tables_1 KT μ3 199 (o_ldI 5 201) := Sem1.ldI d3_199
theorem q3_201 : Sem1 tables_1 KT μ3 201 (o_cI 1 202) := Sem1.cI (fun h => W.iconst' d3_201 (by decide) h)
theorem q3_202 : Sem1 tables_1 KT μ3 202 (o_icmp .lt 281 205) := Sem1.icmp d3_202 (by decide) (by decide)
theorem q3_205 : Sem1 tables_1 KT μ3 205 (o_ldA 0 206) := Sem1.ldA_n d3_205 rfl
theorem q3_206 : Sem1 tables_1 KT μ3 206 (o_ldI 5 208) := Sem1.ldI d3_206
theorem q3_208 : SemC tables_1 KT μ3 μ7 208 2 2 211 := SemC.P (c := 0) d3_208 (List.mem_of_getElem? (i := 73) rfl) (List.mem_of_getElem? (i := 75) rfl) kt (List.mem_of_getElem? (i := 74) rfl) (List.mem_of_getElem? (i := 19) rfl) (List.mem_of_getElem? (i := 76) rfl) (by decide) rfl rfl pd7 rfl
theorem q3_211 : Sem1 tables_1 KT μ3 211 (o_ldA 0 212) := Sem1.ldA_n d3_211 rfl
theorem q3_212 : Sem1 tables_1 KT μ3 212 (o_gF 0 4 215) := Sem1.gF d3_212 (host := "") (Or.inl (List.mem_of_getElem? (i := 34) rfl)) (Or.inl rfl) rfl rfl
theorem q3_215 : Sem1 tables_1 KT μ3 215 (o_cI 2 216) := Sem1.cI (fun h => W.iconst' d3_215 (by decide) h)
theorem q3_216 : Sem1 tables_1 KT μ3 216 (o_ldI 5 218) := Sem1.ldI d3_216
theorem q3_218 : Sem1 tables_1 KT μ3 218 (o_bi 2 219) := Sem1.imul d3_218
theorem q3_219 : Sem1 tables_1 KT μ3 219 (o_iald 220) := Sem1.iald d3_219
theorem q3_220 : Sem1 tables_1 KT μ3 220 (o_ifc .lt 275 223) := Sem1.ifc d3_220 (by decide) (by decide)
theorem q3_223 : Sem1 tables_1 KT μ3 223 (o_ldA 0 224) := Sem1.ldA_n d3_223 rfl
theorem q3_224 : Sem1 tables_1 KT μ3 224 (o_gF 0 4 227) := Sem1.gF d3_224 (host := "") (Or.inl (List.mem_of_getElem? (i := 34) rfl)) (Or.inl rfl) rfl rfl
theorem q3_227 : Sem1 tables_1 KT μ3 227 (o_cI 2 228) := Sem1.cI (fun h => W.iconst' d3_227 (by decide) h)
theorem q3_228 : Sem1 tables_1 KT μ3 228 (o_ldI 5 230) := Sem1.ldI d3_228
theorem q3_230 : Sem1 tables_1 KT μ3 230 (o_bi 2 231) := Sem1.imul d3_230
theorem q3_231 : Sem1 tables_1 KT μ3 231 (o_cI 1 232) := Sem1.cI (fun h => W.iconst' d3_231 (by decide) h)
theorem q3_232 : Sem1 tables_1 KT μ3 232 (o_bi 0 233) := Sem1.iadd d3_232
theorem q3_233 : Sem1 tables_1 KT μ3 233 (o_iald 234) := Sem1.iald d3_233
theorem q3_234 : Sem1 tables_1 KT μ3 234 (o_ifc .lt 275 237) := Sem1.ifc d3_234 (by decide) (by decide)
theorem q3_237 : Sem1 tables_1 KT μ3 237 (o_ldA 0 238) := Sem1.ldA_n d3_237 rfl
theorem q3_238 : Sem1 tables_1 KT μ3 238 (o_gF 0 6 241) := Sem1.gF d3_238 (host := "") (Or.inl (List.mem_of_getElem? (i := 65) rfl)) (Or.inl rfl) rfl rfl
theorem q3_241 : Sem1 tables_1 KT μ3 241 (o_ldI 5 243) := Sem1.ldI d3_241
theorem q3_243 : Sem1 tables_1 KT μ3 243 (o_cI 2 244) := Sem1.cI (fun h => W.iconst' d3_243 (by decide) h)
theorem q3_244 : Sem1 tables_1 KT μ3 244 (o_ldI 5 246) := Sem1.ldI d3_244
theorem q3_246 : Sem1 tables_1 KT μ3 246 (o_bi 2 247) := Sem1.imul d3_246
theorem q3_247 : Sem1 tables_1 KT μ3 247 (o_cI 2 248) := Sem1.cI (fun h => W.iconst' d3_247 (by decide) h)
theorem q3_248 : Sem1 tables_1 KT μ3 248 (o_ldI 5 250) := Sem1.ldI d3_248
theorem q3_250 : Sem1 tables_1 KT μ3 250 (o_bi 2 251) := Sem1.imul d3_250
theorem q3_251 : Sem1 tables_1 KT μ3 251 (o_cI 1 252) := Sem1.cI (fun h => W.iconst' d3_251 (by decide) h)
theorem q3_252 : Sem1 tables_1 KT μ3 252 (o_bi 0 253) := Sem1.iadd d3_252
theorem q3_253 : SemC tables_1 KT μ3 μ8 253 4 3 256 := SemC.V (c := 1) d3_253 (List.mem_of_getElem? (i := 77) rfl) (List.mem_of_getElem? (i := 78) rfl) (List.mem_of_getElem? (i := 80) rfl) (Or.inl rfl) kt (List.mem_of_getElem? (i := 79) rfl) (List.mem_of_getElem? (i := 40) rfl) (List.mem_of_getElem? (i := 81) rfl) (by decide) rfl pd8 rfl
theorem q3_256 : Sem1 tables_1 KT μ3 256 (o_ldA 0 257) := Sem1.ldA_n d3_256 rfl
theorem q3_257 : Sem1 tables_1 KT μ3 257 (o_gF 0 7 260) := Sem1.gF d3_257 (host := "") (Or.inl (List.mem_of_getElem? (i := 67) rfl)) (Or.inl rfl) rfl rfl
theorem q3_260 : Sem1 tables_1 KT μ3 260 (o_ldI 5 262) := Sem1.ldI d3_260
theorem q3_262 : Sem1 tables_1 KT μ3 262 (o_cI 2 263) := Sem1.cI (fun h => W.iconst' d3_262 (by decide) h)
theorem q3_263 : Sem1 tables_1 KT μ3 263 (o_ldI 5 265) := Sem1.ldI d3_263
theorem q3_265 : Sem1 tables_1 KT μ3 265 (o_bi 2 266) := Sem1.imul d3_265
theorem q3_266 : Sem1 tables_1 KT μ3 266 (o_cI 2 267) := Sem1.cI (fun h => W.iconst' d3_266 (by decide) h)
theorem q3_267 : Sem1 tables_1 KT μ3 267 (o_ldI 5 269) := Sem1.ldI d3_267
theorem q3_269 : Sem1 tables_1 KT μ3 269 (o_bi 2 270) := Sem1.imul d3_269
theorem q3_270 : Sem1 tables_1 KT μ3 270 (o_cI 1 271) := Sem1.cI (fun h => W.iconst' d3_270 (by decide) h)
theorem q3_271 : Sem1 tables_1 KT μ3 271 (o_bi 0 272) := Sem1.iadd d3_271
theorem q3_272 : SemC tables_1 KT μ3 μ8 272 4 3 275 := SemC.V (c := 1) d3_272 (List.mem_of_getElem? (i := 77) rfl) (List.mem_of_getElem? (i := 78) rfl) (List.mem_of_getElem? (i := 80) rfl) (Or.inl rfl) kt (List.mem_of_getElem? (i := 79) rfl) (List.mem_of_getElem? (i := 40) rfl) (List.mem_of_getElem? (i := 81) rfl) (by decide) rfl pd8 rfl
theorem q3_275 : Sem1 tables_1 KT μ3 275 (o_inc 5 (-1) 278) := Sem1.inc d3_275 (by decide)
theorem q3_278 : Sem1 tables_1 KT μ3 278 (o_jmp 199) := Sem1.jmp d3_278 (by decide) (by decide)
theorem q3_281 : Sem1 tables_1 KT μ3 281 (o_ldA 0 282) := Sem1.ldA_n d3_281 rfl
theorem q3_282 : Sem1 tables_1 KT μ3 282 (o_ldA 3 283) := Sem1.ldA_n d3_282 rfl
theorem q3_283 : Sem1 tables_1 KT μ3 283 (o_alen 284) := Sem1.alen d3_283
theorem q3_284 : Sem1 tables_1 KT μ3 284 (o_pF 0 8 0 287) := Sem1.pF kt d3_284 (host := "") (Or.inl (List.mem_of_getElem? (i := 149) rfl)) (Or.inl rfl) rfl rfl (Or.inl (List.mem_of_getElem? (i := 150) rfl)) (Or.inl ⟨rfl, rfl⟩)
theorem q3_287 : SemR tables_1 KT μ3 287 0 := SemR.v d3_287 rfl
def T3 : Tr := (tr1 (tr1 (tr1 (tr1 (tr1 (tr1 (tr1 (tr1 tr0 0 (.inl (o_ldA 0 1)) tr0) 1 (.inl (o_initO 4)) tr0) 4 (.inl (o_ldA 0 5)) (tr1 (tr1 tr0 5 (.inl (o_ldA 1 6)) tr0) 6 (.inl (o_pF 0 0 1 9)) tr0)) 9 (.inl (o_ldA 0 10)) (tr1 (tr1 (tr1 tr0 10 (.inl (o_ldA 3 11)) tr0) 11 (.inl (o_pF 0 1 1 14)) tr0) 14 (.inl (o_ldA 0 15)) (tr1 tr0 15 (.inl (o_cI 2 16)) tr0))) 16 (.inl (o_ldA 3 17)) (tr1 (tr1 (tr1 (tr1 tr0 17 (.inl (o_alen 18)) tr0) 18 (.inl (o_bi 2 19)) tr0) 19 (.inl (o_newL 21)) (tr1 (tr1 tr0 21 (.inl (o_pF 0 2 1 24)) tr0) 24 (.inl (o_cI 1 25)) tr0)) 25 (.inl (o_stI 4 27)) (tr1 (tr1 (tr1 tr0 27 (.inl (o_ldI 4 29)) tr0) 29 (.inl (o_ldA 3 30)) tr0) 30 (.inl (o_alen 31)) (tr1 tr0 31 (.inl (o_icmp .ge 43 34)) tr0)))) 34 (.inl (o_ldI 4 36)) (tr1 (tr1 (tr1 (tr1 (tr1 tr0 36 (.inl (o_cI 2 37)) tr0) 37 (.inl (o_bi 2 38)) tr0) 38 (.inl (o_stI 4 40)) (tr1 (tr1 tr0 40 (.inl (o_jmp 27)) tr0) 43 (.inl (o_ldA 0 44)) tr0)) 44 (.inl (o_ldI 4 46)) (tr1 (tr1 (tr1 tr0 46 (.inl (o_pF 0 3 0 49)) tr0) 49 (.inl (o_ldA 0 50)) tr0) 50 (.inl (o_cI 2 51)) (tr1 tr0 51 (.inl (o_ldA 0 52)) tr0))) 52 (.inl (o_gF 0 3 55)) (tr1 (tr1 (tr1 (tr1 tr0 55 (.inl (o_bi 2 56)) tr0) 56 (.inl (o_newI 58)) tr0) 58 (.inl (o_pF 0 4 1 61)) (tr1 tr0 61 (.inl (o_ldA 0 62)) tr0)) 62 (.inl (o_cI 2 63)) (tr1 (tr1 (tr1 tr0 63 (.inl (o_ldA 0 64)) tr0) 64 (.inl (o_gF 0 3 67)) tr0) 67 (.inl (o_bi 2 68)) (tr1 tr0 68 (.inl (o_newI 70)) tr0))))) 70 (.inl (o_pF 0 5 1 73)) (tr1 (tr1 (tr1 (tr1 (tr1 (tr1 tr0 73 (.inl (o_ldA 0 74)) tr0) 74 (.inl (o_new 1 5 [.inl .null, .inl .null, .inl .null, .inl (.int 0), .inl .null] 77)) tr0) 77 (.inl (o_dup 78)) (tr1 (tr1 tr0 78 (.inl (o_ldA 0 79)) tr0) 79 (.inl (o_cI 1 80)) tr0)) 80 (.inr (.inl (4, 3, 1, 83))) (tr1 (tr1 (tr1 tr0 83 (.inl (o_pF 0 6 1 86)) tr0) 86 (.inl (o_ldA 0 87)) tr0) 87 (.inl (o_new 1 5 [.inl .null, .inl .null, .inl .null, .inl (.int 0), .inl .null] 90)) (tr1 tr0 90 (.inl (o_dup 91)) tr0))) 91 (.inl (o_ldA 0 92)) (tr1 (tr1 (tr1 (tr1 tr0 92 (.inl (o_cI (-1) 93)) tr0) 93 (.inr (.inl (4, 3, 1, 96))) tr0) 96 (.inl (o_pF 0 7 1 99)) (tr1 (tr1 tr0 99 (.inl (o_ldA 0 100)) tr0) 100 (.inl (o_gF 0 4 103)) tr0)) 103 (.inl (o_cI (-1) 104)) (tr1 (tr1 (tr1 tr0 104 (.inr (.inl (6, 2, 0, 107))) tr0) 107 (.inl (o_ldA 0 108)) tr0) 108 (.inl (o_gF 0 5 111)) (tr1 tr0 111 (.inl (o_cI (-1) 112)) tr0)))) 112 (.inr (.inl (6, 2, 0, 115))) (tr1 (tr1 (tr1 (tr1 (tr1 tr0 115 (.inl (o_cI 0 116)) tr0) 116 (.inl (o_stI 5 118)) tr0) 118 (.inl (o_ldI 5 120)) (tr1 (tr1 tr0 120 (.inl (o_ldA 3 121)) tr0) 121 (.inl (o_alen 122)) tr0)) 122 (.inl (o_icmp .ge 191 125)) (tr1 (tr1 (tr1 tr0 125 (.inl (o_ldA 0 126)) tr0) 126 (.inl (o_gF 0 2 129)) tr0) 129 (.inl (o_cI 2 130)) (tr1 tr0 130 (.inl (o_ldI 5 132)) tr0))) 132 (.inl (o_bi 2 133)) (tr1 (tr1 (tr1 (tr1 tr0 133 (.inl (o_ldA 1 134)) tr0) 134 (.inl (o_ldA 3 135)) tr0) 135 (.inl (o_ldI 5 137)) (tr1 tr0 137 (.inl (o_iald 138)) tr0)) 138 (.inl (o_lald 139)) (tr1 (tr1 (tr1 tr0 139 (.inl (o_last 140)) tr0) 140 (.inl (o_ldA 0 141)) tr0) 141 (.inl (o_gF 0 2 144)) (tr1 tr0 144 (.inl (o_cI 2 145)) tr0)))))) 145 (.inl (o_ldI 5 147)) (tr1 (tr1 (tr1 (tr1 (tr1 (tr1 (tr1 tr0 147 (.inl (o_bi 2 148)) tr0) 148 (.inl (o_cI 1 149)) tr0) 149 (.inl (o_bi 0 150)) (tr1 (tr1 tr0 150 (.inl (o_ldA 2 151)) tr0) 151 (.inl (o_ldA 3 152)) tr0)) 152 (.inl (o_ldI 5 154)) (tr1 (tr1 (tr1 tr0 154 (.inl (o_iald 155)) tr0) 155 (.inl (o_lald 156)) tr0) 156 (.inl (o_last 157)) (tr1 tr0 157 (.inl (o_ldA 0 158)) tr0))) 158 (.inl (o_gF 0 4 161)) (tr1 (tr1 (tr1 (tr1 tr0 161 (.inl (o_ldA 0 162)) tr0) 162 (.inl (o_gF 0 3 165)) tr0) 165 (.inl (o_ldI 5 167)) (tr1 (tr1 tr0 167 (.inl (o_bi 0 168)) tr0) 168 (.inl (o_ldI 5 170)) tr0)) 170 (.inl (o_iast 171)) (tr1 (tr1 (tr1 tr0 171 (.inl (o_ldA 0 172)) tr0) 172 (.inl (o_gF 0 5 175)) tr0) 175 (.inl (o_ldA 0 176)) (tr1 tr0 176 (.inl (o_gF 0 3 179)) tr0)))) 179 (.inl (o_ldI 5 181)) (tr1 (tr1 (tr1 (tr1 (tr1 tr0 181 (.inl (o_bi 0 182)) tr0) 182 (.inl (o_ldI 5 184)) tr0) 184 (.inl (o_iast 185)) (tr1 (tr1 tr0 185 (.inl (o_inc 5 1 188)) tr0) 188 (.inl (o_jmp 118)) tr0)) 191 (.inl (o_ldA 0 192)) (tr1 (tr1 (tr1 tr0 192 (.inl (o_gF 0 3 195)) tr0) 195 (.inl (o_cI 1 196)) tr0) 196 (.inl (o_bi 1 197)) (tr1 tr0 197 (.inl (o_stI 5 199)) tr0))) 199 (.inl (o_ldI 5 201)) (tr1 (tr1 (tr1 (tr1 tr0 201 (.inl (o_cI 1 202)) tr0) 202 (.inl (o_icmp .lt 281 205)) tr0) 205 (.inl (o_ldA 0 206)) (tr1 tr0 206 (.inl (o_ldI 5 208)) tr0)) 208 (.inr (.inl (7, 2, 2, 211))) (tr1 (tr1 (tr1 tr0 211 (.inl (o_ldA 0 212)) tr0) 212 (.inl (o_gF 0 4 215)) tr0) 215 (.inl (o_cI 2 216)) (tr1 tr0 216 (.inl (o_ldI 5 218)) tr0))))) 218 (.inl (o_bi 2 219)) (tr1 (tr1 (tr1 (tr1 (tr1 (tr1 tr0 219 (.inl (o_iald 220)) tr0) 220 (.inl (o_ifc .lt 275 223)) tr0) 223 (.inl (o_ldA 0 224)) (tr1 (tr1 tr0 224 (.inl (o_gF 0 4 227)) tr0) 227 (.inl (o_cI 2 228)) tr0)) 228 (.inl (o_ldI 5 230)) (tr1 (tr1 (tr1 tr0 230 (.inl (o_bi 2 231)) tr0) 231 (.inl (o_cI 1 232)) tr0) 232 (.inl (o_bi 0 233)) (tr1 tr0 233 (.inl (o_iald 234)) tr0))) 234 (.inl (o_ifc .lt 275 237)) (tr1 (tr1 (tr1 (tr1 tr0 237 (.inl (o_ldA 0 238)) tr0) 238 (.inl (o_gF 0 6 241)) tr0) 241 (.inl (o_ldI 5 243)) (tr1 (tr1 tr0 243 (.inl (o_cI 2 244)) tr0) 244 (.inl (o_ldI 5 246)) tr0)) 246 (.inl (o_bi 2 247)) (tr1 (tr1 (tr1 tr0 247 (.inl (o_cI 2 248)) tr0) 248 (.inl (o_ldI 5 250)) tr0) 250 (.inl (o_bi 2 251)) (tr1 tr0 251 (.inl (o_cI 1 252)) tr0)))) 252 (.inl (o_bi 0 253)) (tr1 (tr1 (tr1 (tr1 (tr1 tr0 253 (.inr (.inl (8, 4, 3, 256))) tr0) 256 (.inl (o_ldA 0 257)) tr0) 257 (.inl (o_gF 0 7 260)) (tr1 (tr1 tr0 260 (.inl (o_ldI 5 262)) tr0) 262 (.inl (o_cI 2 263)) tr0)) 263 (.inl (o_ldI 5 265)) (tr1 (tr1 (tr1 tr0 265 (.inl (o_bi 2 266)) tr0) 266 (.inl (o_cI 2 267)) tr0) 267 (.inl (o_ldI 5 269)) (tr1 tr0 269 (.inl (o_bi 2 270)) tr0))) 270 (.inl (o_cI 1 271)) (tr1 (tr1 (tr1 (tr1 tr0 271 (.inl (o_bi 0 272)) tr0) 272 (.inr (.inl (8, 4, 3, 275))) tr0) 275 (.inl (o_inc 5 (-1) 278)) (tr1 tr0 278 (.inl (o_jmp 199)) tr0)) 281 (.inl (o_ldA 0 282)) (tr1 (tr1 (tr1 tr0 282 (.inl (o_ldA 3 283)) tr0) 283 (.inl (o_alen 284)) tr0) 284 (.inl (o_pF 0 8 0 287)) (tr1 tr0 287 (.inr (.inr 0)) tr0)))))))
theorem a3 : TrAll (SemO tables_1 KT MS μ3) T3 := (all_n (all_n (all_n (all_n (all_n (all_n (all_n (all_n all_e q3_0 all_e) q3_1 all_e) q3_4 (all_n (all_n all_e q3_5 all_e) q3_6 all_e)) q3_9 (all_n (all_n (all_n all_e q3_10 all_e) q3_11 all_e) q3_14 (all_n all_e q3_15 all_e))) q3_16 (all_n (all_n (all_n (all_n all_e q3_17 all_e) q3_18 all_e) q3_19 (all_n (all_n all_e q3_21 all_e) q3_24 all_e)) q3_25 (all_n (all_n (all_n all_e q3_27 all_e) q3_29 all_e) q3_30 (all_n all_e q3_31 all_e)))) q3_34 (all_n (all_n (all_n (all_n (all_n all_e q3_36 all_e) q3_37 all_e) q3_38 (all_n (all_n all_e q3_40 all_e) q3_43 all_e)) q3_44 (all_n (all_n (all_n all_e q3_46 all_e) q3_49 all_e) q3_50 (all_n all_e q3_51 all_e))) q3_52 (all_n (all_n (all_n (all_n all_e q3_55 all_e) q3_56 all_e) q3_58 (all_n all_e q3_61 all_e)) q3_62 (all_n (all_n (all_n all_e q3_63 all_e) q3_64 all_e) q3_67 (all_n all_e q3_68 all_e))))) q3_70 (all_n (all_n (all_n (all_n (all_n (all_n all_e q3_73 all_e) q3_74 all_e) q3_77 (all_n (all_n all_e q3_78 all_e) q3_79 all_e)) (SemO.call ms4 q3_80) (all_n (all_n (all_n all_e q3_83 all_e) q3_86 all_e) q3_87 (all_n all_e q3_90 all_e))) q3_91 (all_n (all_n (all_n (all_n all_e q3_92 all_e) (SemO.call ms4 q3_93) all_e) q3_96 (all_n (all_n all_e q3_99 all_e) q3_100 all_e)) q3_103 (all_n (all_n (all_n all_e (SemO.call ms6 q3_104) all_e) q3_107 all_e) q3_108 (all_n all_e q3_111 all_e)))) (SemO.call ms6 q3_112) (all_n (all_n (all_n (all_n (all_n all_e q3_115 all_e) q3_116 all_e) q3_118 (all_n (all_n all_e q3_120 all_e) q3_121 all_e)) q3_122 (all_n (all_n (all_n all_e q3_125 all_e) q3_126 all_e) q3_129 (all_n all_e q3_130 all_e))) q3_132 (all_n (all_n (all_n (all_n all_e q3_133 all_e) q3_134 all_e) q3_135 (all_n all_e q3_137 all_e)) q3_138 (all_n (all_n (all_n all_e q3_139 all_e) q3_140 all_e) q3_141 (all_n all_e q3_144 all_e)))))) q3_145 (all_n (all_n (all_n (all_n (all_n (all_n (all_n all_e q3_147 all_e) q3_148 all_e) q3_149 (all_n (all_n all_e q3_150 all_e) q3_151 all_e)) q3_152 (all_n (all_n (all_n all_e q3_154 all_e) q3_155 all_e) q3_156 (all_n all_e q3_157 all_e))) q3_158 (all_n (all_n (all_n (all_n all_e q3_161 all_e) q3_162 all_e) q3_165 (all_n (all_n all_e q3_167 all_e) q3_168 all_e)) q3_170 (all_n (all_n (all_n all_e q3_171 all_e) q3_172 all_e) q3_175 (all_n all_e q3_176 all_e)))) q3_179 (all_n (all_n (all_n (all_n (all_n all_e q3_181 all_e) q3_182 all_e) q3_184 (all_n (all_n all_e q3_185 all_e) q3_188 all_e)) q3_191 (all_n (all_n (all_n all_e q3_192 all_e) q3_195 all_e) q3_196 (all_n all_e q3_197 all_e))) q3_199 (all_n (all_n (all_n (all_n all_e q3_201 all_e) q3_202 all_e) q3_205 (all_n all_e q3_206 all_e)) (SemO.call ms7 q3_208) (all_n (all_n (all_n all_e q3_211 all_e) q3_212 all_e) q3_215 (all_n all_e q3_216 all_e))))) q3_218 (all_n (all_n (all_n (all_n (all_n (all_n all_e q3_219 all_e) q3_220 all_e) q3_223 (all_n (all_n all_e q3_224 all_e) q3_227 all_e)) q3_228 (all_n (all_n (all_n all_e q3_230 all_e) q3_231 all_e) q3_232 (all_n all_e q3_233 all_e))) q3_234 (all_n (all_n (all_n (all_n all_e q3_237 all_e) q3_238 all_e) q3_241 (all_n (all_n all_e q3_243 all_e) q3_244 all_e)) q3_246 (all_n (all_n (all_n all_e q3_247 all_e) q3_248 all_e) q3_250 (all_n all_e q3_251 all_e)))) q3_252 (all_n (all_n (all_n (all_n (all_n all_e (SemO.call ms8 q3_253) all_e) q3_256 all_e) q3_257 (all_n (all_n all_e q3_260 all_e) q3_262 all_e)) q3_263 (all_n (all_n (all_n all_e q3_265 all_e) q3_266 all_e) q3_267 (all_n all_e q3_269 all_e))) q3_270 (all_n (all_n (all_n (all_n all_e q3_271 all_e) (SemO.call ms8 q3_272) all_e) q3_275 (all_n all_e q3_278 all_e)) q3_281 (all_n (all_n (all_n all_e q3_282 all_e) q3_283 all_e) q3_284 (all_n all_e q3_287 all_e)))))))
abbrev R3 : Room := ⟨4, 11, 66, 75⟩
theorem d4_0 : decode prog_14_method_1_code 0 = .ok (.aload_n 0, 1) := by decide +kernel
theorem d4_1 : decode prog_14_method_1_code 1 = .ok (.aload_n 1, 1) := by decide +kernel
theorem d4_2 : decode prog_14_method_1_code 2 = .ok (.putfield 1, 3) := by decide +kernel
theorem d4_5 : decode prog_14_method_1_code 5 = .ok (.aload_n 0, 1) := by decide +kernel
theorem d4_6 : decode prog_14_method_1_code 6 = .ok (.invokespecial 7, 3) := by decide +kernel
theorem d4_9 : decode prog_14_method_1_code 9 = .ok (.aload_n 0, 1) := by decide +kernel
theorem d4_10 : decode prog_14_method_1_code 10 = .ok (.new 13, 3) := by decide +kernel
theorem d4_13 : decode prog_14_method_1_code 13 = .ok (.dup, 1) := by decide +kernel
theorem d4_14 : decode prog_14_method_1_code 14 = .ok (.aload_n 0, 1) := by decide +kernel
theorem d4_15 : decode prog_14_method_1_code 15 = .ok (.invokespecial 15, 3) := by decide +kernel
theorem d4_18 : decode prog_14_method_1_code 18 = .ok (.putfield 18, 3) := by decide +kernel
theorem d4_21 : decode prog_14_method_1_code 21 = .ok (.aload_n 0, 1) := by decide +kernel
theorem d4_22 : decode prog_14_method_1_code 22 = .ok (.new 13, 3) := by decide +kernel
theorem d4_25 : decode prog_14_method_1_code 25 = .ok (.dup, 1) := by decide +kernel
theorem d4_26 : decode prog_14_method_1_code 26 = .ok (.aload_n 0, 1) := by decide +kernel
theorem d4_27 : decode prog_14_method_1_code 27 = .ok (.invokespecial 15, 3) := by decide +kernel
theorem d4_30 : decode prog_14_method_1_code 30 = .ok (.putfield 22, 3) := by decide +kernel
theorem d4_33 : decode prog_14_method_1_code 33 = .ok (.aload_n 0, 1) := by decide +kernel
theorem d4_34 : decode prog_14_method_1_code 34 = .ok (.iload_n 2, 1) := by decide +kernel
theorem d4_35 : decode prog_14_method_1_code 35 = .ok (.putfield 25, 3) := by decide +kernel
theorem d4_38 : decode prog_14_method_1_code 38 = .ok (.aload_n 0, 1) := by decide +kernel
theorem d4_39 : decode prog_14_method_1_code 39 = .ok (.iconst 2, 1) := by decide +kernel
theorem d4_40 : decode prog_14_method_1_code 40 = .ok (.aload_n 1, 1) := by decide +kernel
theorem d4_41 : decode prog_14_method_1_code 41 = .ok (.getfield 29, 3) := by decide +kernel
theorem d4_44 : decode prog_14_method_1_code 44 = .ok (.imul, 1) := by decide +kernel
theorem d4_45 : decode prog_14_method_1_code 45 = .ok (.newarray .int, 2) := by decide +kernel
theorem d4_47 : decode prog_14_method_1_code 47 = .ok (.putfield 34, 3) := by decide +kernel
theorem d4_50 : decode prog_14_method_1_code 50 = .ok (.return_, 1) := by decide +kernel
theorem q4_0 : Sem1 tables_1 KT μ4 0 (o_ldA 0 1) := Sem1.ldA_n d4_0 rfl
theorem q4_1 : Sem1 tables_1 KT μ4 1 (o_ldA 1 2) := Sem1.ldA_n d4_1 rfl
theorem q4_2 : Sem1 tables_1 KT μ4 2 (o_pF 1 0 1 5) := Sem1.pF kt d4_2 (host := "") (Or.inl (List.mem_of_getElem? (i := 44) rfl)) (Or.inl rfl) rfl rfl (Or.inr ⟨(List.mem_of_getElem? (i := 45) rfl), rfl, rfl⟩) (Or.inr ⟨rfl, rfl⟩)
theorem q4_5 : Sem1 tables_1 KT μ4 5 (o_ldA 0 6) := Sem1.ldA_n d4_5 rfl
theorem q4_6 : Sem1 tables_1 KT μ4 6 (o_initO 9) := Sem1.initO d4_6 (List.mem_of_getElem? (i := 46) rfl) (List.mem_of_getElem? (i := 24) rfl) (List.mem_of_getElem? (i := 25) rfl)
theorem q4_9 : Sem1 tables_1 KT μ4 9 (o_ldA 0 10) := Sem1.ldA_n d4_9 rfl
theorem q4_10 : Sem1 tables_1 KT μ4 10 (o_new 2 4 [.inl .null, .inl (.int 0), .inl (.int 0), .inl (.int 0)] 13) := Sem1.new kt d4_10 (List.mem_of_getElem? (i := 47) rfl) (List.mem_of_getElem? (i := 49) rfl) rfl (fun _ _ => rfl)
theorem q4_13 : Sem1 tables_1 KT μ4 13 (o_dup 14) := Sem1.dup d4_13
theorem q4_14 : Sem1 tables_1 KT μ4 14 (o_ldA 0 15) := Sem1.ldA_n d4_14 rfl
theorem q4_15 : SemC tables_1 KT μ4 μ5 15 2 1 18 := SemC.IN d4_15 rfl rfl (List.mem_of_getElem? (i := 50) rfl) (List.mem_of_getElem? (i := 51) rfl) (List.mem_of_getElem? (i := 49) rfl) (List.mem_of_getElem? (i := 52) rfl) (by decide) pd5 rfl
theorem q4_18 : Sem1 tables_1 KT μ4 18 (o_pF 1 1 1 21) := Sem1.pF kt d4_18 (host := "") (Or.inl (List.mem_of_getElem? (i := 56) rfl)) (Or.inl rfl) rfl rfl (Or.inr ⟨(List.mem_of_getElem? (i := 57) rfl), rfl, rfl⟩) (Or.inr ⟨rfl, rfl⟩)
theorem q4_21 : Sem1 tables_1 KT μ4 21 (o_ldA 0 22) := Sem1.ldA_n d4_21 rfl
theorem q4_22 : Sem1 tables_1 KT μ4 22 (o_new 2 4 [.inl .null, .inl (.int 0), .inl (.int 0), .inl (.int 0)] 25) := Sem1.new kt d4_22 (List.mem_of_getElem? (i := 47) rfl) (List.mem_of_getElem? (i := 49) rfl) rfl (fun _ _ => rfl)
theorem q4_25 : Sem1 tables_1 KT μ4 25 (o_dup 26) := Sem1.dup d4_25
theorem q4_26 : Sem1 tables_1 KT μ4 26 (o_ldA 0 27) := Sem1.ldA_n d4_26 rfl
theorem q4_27 : SemC tables_1 KT μ4 μ5 27 2 1 30 := SemC.IN d4_27 rfl rfl (List.mem_of_getElem? (i := 50) rfl) (List.mem_of_getElem? (i := 51) rfl) (List.mem_of_getElem? (i := 49) rfl) (List.mem_of_getElem? (i := 52) rfl) (by decide) pd5 rfl
theorem q4_30 : Sem1 tables_1 KT μ4 30 (o_pF 1 2 1 33) := Sem1.pF kt d4_30 (host := "") (Or.inl (List.mem_of_getElem? (i := 58) rfl)) (Or.inl rfl) rfl rfl (Or.inr ⟨(List.mem_of_getElem? (i := 59) rfl), rfl, rfl⟩) (Or.inr ⟨rfl, rfl⟩)
theorem q4_33 : Sem1 tables_1 KT μ4 33 (o_ldA 0 34) := Sem1.ldA_n d4_33 rfl
theorem q4_34 : Sem1 tables_1 KT μ4 34 (o_ldI 2 35) := Sem1.ldI_n d4_34 rfl
theorem q4_35 : Sem1 tables_1 KT μ4 35 (o_pF 1 3 0 38) := Sem1.pF kt d4_35 (host := "") (Or.inl (List.mem_of_getElem? (i := 60) rfl)) (Or.inl rfl) rfl rfl (Or.inr ⟨(List.mem_of_getElem? (i := 61) rfl), rfl, rfl⟩) (Or.inl ⟨rfl, rfl⟩)
theorem q4_38 : Sem1 tables_1 KT μ4 38 (o_ldA 0 39) := Sem1.ldA_n d4_38 rfl
theorem q4_39 : Sem1 tables_1 KT μ4 39 (o_cI 2 40) := Sem1.cI (fun h => W.iconst' d4_39 (by decide) h)
theorem q4_40 : Sem1 tables_1 KT μ4 40 (o_ldA 1 41) := Sem1.ldA_n d4_40 rfl
theorem q4_41 : Sem1 tables_1 KT μ4 41 (o_gF 0 3 44) := Sem1.gF d4_41 (Or.inr (List.mem_of_getElem? (i := 62) rfl)) (Or.inl rfl) rfl rfl
theorem q4_44 : Sem1 tables_1 KT μ4 44 (o_bi 2 45) := Sem1.imul d4_44
theorem q4_45 : Sem1 tables_1 KT μ4 45 (o_newI 47) := Sem1.newI d4_45 (List.mem_of_getElem? (i := 12) rfl)
theorem q4_47 : Sem1 tables_1 KT μ4 47 (o_pF 1 4 1 50) := Sem1.pF kt d4_47 (host := "") (Or.inl (List.mem_of_getElem? (i := 63) rfl)) (Or.inl rfl) rfl rfl (Or.inr ⟨(List.mem_of_getElem? (i := 64) rfl), rfl, rfl⟩) (Or.inr ⟨rfl, rfl⟩)
theorem q4_50 : SemR tables_1 KT μ4 50 0 := SemR.v d4_50 rfl
def T4 : Tr := (tr1 (tr1 (tr1 (tr1 (tr1 tr0 0 (.inl (o_ldA 0 1)) tr0) 1 (.inl (o_ldA 1 2)) (tr1 tr0 2 (.inl (o_pF 1 0 1 5)) tr0)) 5 (.inl (o_ldA 0 6)) (tr1 (tr1 tr0 6 (.inl (o_initO 9)) tr0) 9 (.inl (o_ldA 0 10)) (tr1 tr0 10 (.inl (o_new 2 4 [.inl .null, .inl (.int 0), .inl (.int 0), .inl (.int 0)] 13)) tr0))) 13 (.inl (o_dup 14)) (tr1 (tr1 (tr1 tr0 14 (.inl (o_ldA 0 15)) tr0) 15 (.inr (.inl (5, 2, 1, 18))) (tr1 tr0 18 (.inl (o_pF 1 1 1 21)) tr0)) 21 (.inl (o_ldA 0 22)) (tr1 (tr1 tr0 22 (.inl (o_new 2 4 [.inl .null, .inl (.int 0), .inl (.int 0), .inl (.int 0)] 25)) tr0) 25 (.inl (o_dup 26)) tr0))) 26 (.inl (o_ldA 0 27)) (tr1 (tr1 (tr1 (tr1 tr0 27 (.inr (.inl (5, 2, 1, 30))) tr0) 30 (.inl (o_pF 1 2 1 33)) (tr1 tr0 33 (.inl (o_ldA 0 34)) tr0)) 34 (.inl (o_ldI 2 35)) (tr1 (tr1 tr0 35 (.inl (o_pF 1 3 0 38)) tr0) 38 (.inl (o_ldA 0 39)) tr0)) 39 (.inl (o_cI 2 40)) (tr1 (tr1 (tr1 tr0 40 (.inl (o_ldA 1 41)) tr0) 41 (.inl (o_gF 0 3 44)) (tr1 tr0 44 (.inl (o_bi 2 45)) tr0)) 45 (.inl (o_newI 47)) (tr1 (tr1 tr0 47 (.inl (o_pF 1 4 1 50)) tr0) 50 (.inr (.inr 0)) tr0))))
theorem a4 : TrAll (SemO tables_1 KT MS μ4) T4 := (all_n (all_n (all_n (all_n (all_n all_e q4_0 all_e) q4_1 (all_n all_e q4_2 all_e)) q4_5 (all_n (all_n all_e q4_6 all_e) q4_9 (all_n all_e q4_10 all_e))) q4_13 (all_n (all_n (all_n all_e q4_14 all_e) (SemO.call ms5 q4_15) (all_n all_e q4_18 all_e)) q4_21 (all_n (all_n all_e q4_22 all_e) q4_25 all_e))) q4_26 (all_n (all_n (all_n (all_n all_e (SemO.call ms5 q4_27) all_e) q4_30 (all_n all_e q4_33 all_e)) q4_34 (all_n (all_n all_e q4_35 all_e) q4_38 all_e)) q4_39 (all_n (all_n (all_n all_e q4_40 all_e) q4_41 (all_n all_e q4_44 all_e)) q4_45 (all_n (all_n all_e q4_47 all_e) q4_50 all_e))))
abbrev R4 : Room := ⟨2, 3, 16, 27⟩
theorem d5_0 : decode prog_15_method_1_code 0 = .ok (.aload_n 0, 1) := by decide +kernel
theorem d5_1 : decode prog_15_method_1_code 1 = .ok (.aload_n 1, 1) := by decide +kernel
theorem d5_2 : decode prog_15_method_1_code 2 = .ok (.putfield 1, 3) := by decide +kernel
theorem d5_5 : decode prog_15_method_1_code 5 = .ok (.aload_n 0, 1) := by decide +kernel
theorem d5_6 : decode prog_15_method_1_code 6 = .ok (.invokespecial 7, 3) := by decide +kernel
theorem d5_9 : decode prog_15_method_1_code 9 = .ok (.return_, 1) := by decide +kernel
theorem q5_0 : Sem1 tables_1 KT μ5 0 (o_ldA 0 1) := Sem1.ldA_n d5_0 rfl
theorem q5_1 : Sem1 tables_1 KT μ5 1 (o_ldA 1 2) := Sem1.ldA_n d5_1 rfl
theorem q5_2 : Sem1 tables_1 KT μ5 2 (o_pF 2 0 1 5) := Sem1.pF kt d5_2 (host := "") (Or.inl (List.mem_of_getElem? (i := 53) rfl)) (Or.inl rfl) rfl rfl (Or.inr ⟨(List.mem_of_getElem? (i := 54) rfl), rfl, rfl⟩) (Or.inr ⟨rfl, rfl⟩)
theorem q5_5 : Sem1 tables_1 KT μ5 5 (o_ldA 0 6) := Sem1.ldA_n d5_5 rfl
theorem q5_6 : Sem1 tables_1 KT μ5 6 (o_initO 9) := Sem1.initO d5_6 (List.mem_of_getElem? (i := 55) rfl) (List.mem_of_getElem? (i := 24) rfl) (List.mem_of_getElem? (i := 25) rfl)
theorem q5_9 : SemR tables_1 KT μ5 9 0 := SemR.v d5_9 rfl
def T5 : Tr := (tr1 (tr1 (tr1 tr0 0 (.inl (o_ldA 0 1)) tr0) 1 (.inl (o_ldA 1 2)) (tr1 tr0 2 (.inl (o_pF 2 0 1 5)) tr0)) 5 (.inl (o_ldA 0 6)) (tr1 (tr1 tr0 6 (.inl (o_initO 9)) tr0) 9 (.inr (.inr 0)) tr0))
theorem a5 : TrAll (SemO tables_1 KT MS μ5) T5 := (all_n (all_n (all_n all_e q5_0 all_e) q5_1 (all_n all_e q5_2 all_e)) q5_5 (all_n (all_n all_e q5_6 all_e) q5_9 all_e))
abbrev R5 : Room := ⟨1, 0, 0, 12⟩
theorem d6_0 : decode jdk_65_method_103_code 0 = .ok (.iconst 0, 1) := by decide +kernel
theorem d6_1 : decode jdk_65_method_103_code 1 = .ok (.istore_n 2, 1) := by decide +kernel
theorem d6_2 : decode jdk_65_method_103_code 2 = .ok (.aload_n 0, 1) := by decide +kernel
theorem d6_3 : decode jdk_65_method_103_code 3 = .ok (.arraylength, 1) := by decide +kernel
theorem d6_4 : decode jdk_65_method_103_code 4 = .ok (.istore_n 3, 1) := by decide +kernel
theorem d6_5 : decode jdk_65_method_103_code 5 = .ok (.iload_n 2, 1) := by decide +kernel
theorem d6_6 : decode jdk_65_method_103_code 6 = .ok (.iload_n 3, 1) := by decide +kernel
theorem d6_7 : decode jdk_65_method_103_code 7 = .ok (.if_icmp .ge 13, 3) := by decide +kernel
theorem d6_10 : decode jdk_65_method_103_code 10 = .ok (.aload_n 0, 1) := by decide +kernel
theorem d6_11 : decode jdk_65_method_103_code 11 = .ok (.iload_n 2, 1) := by decide +kernel
theorem d6_12 : decode jdk_65_method_103_code 12 = .ok (.iload_n 1, 1) := by decide +kernel
theorem d6_13 : decode jdk_65_method_103_code 13 = .ok (.iastore, 1) := by decide +kernel
theorem d6_14 : decode jdk_65_method_103_code 14 = .ok (.iinc 2 1, 3) := by decide +kernel
theorem d6_17 : decode jdk_65_method_103_code 17 = .ok (.goto (-12), 3) := by decide +kernel
theorem d6_20 : decode jdk_65_method_103_code 20 = .ok (.return_, 1) := by decide +kernel
theorem q6_0 : Sem1 tables_1 KT μ6 0 (o_cI 0 1) := Sem1.cI (fun h => W.iconst' d6_0 (by decide) h)
theorem q6_1 : Sem1 tables_1 KT μ6 1 (o_stI 2 2) := Sem1.stI_n d6_1 rfl
theorem q6_2 : Sem1 tables_1 KT μ6 2 (o_ldA 0 3) := Sem1.ldA_n d6_2 rfl
theorem q6_3 : Sem1 tables_1 KT μ6 3 (o_alen 4) := Sem1.alen d6_3
theorem q6_4 : Sem1 tables_1 KT μ6 4 (o_stI 3 5) := Sem1.stI_n d6_4 rfl
theorem q6_5 : Sem1 tables_1 KT μ6 5 (o_ldI 2 6) := Sem1.ldI_n d6_5 rfl
theorem q6_6 : Sem1 tables_1 KT μ6 6 (o_ldI 3 7) := Sem1.ldI_n d6_6 rfl
theorem q6_7 : Sem1 tables_1 KT μ6 7 (o_icmp .ge 20 10) := Sem1.icmp d6_7 (by decide) (by decide)
theorem q6_10 : Sem1 tables_1 KT μ6 10 (o_ldA 0 11) := Sem1.ldA_n d6_10 rfl
theorem q6_11 : Sem1 tables_1 KT μ6 11 (o_ldI 2 12) := Sem1.ldI_n d6_11 rfl
theorem q6_12 : Sem1 tables_1 KT μ6 12 (o_ldI 1 13) := Sem1.ldI_n d6_12 rfl
theorem q6_13 : Sem1 tables_1 KT μ6 13 (o_iast 14) := Sem1.iast d6_13
theorem q6_14 : Sem1 tables_1 KT μ6 14 (o_inc 2 1 17) := Sem1.inc d6_14 (by decide)
theorem q6_17 : Sem1 tables_1 KT μ6 17 (o_jmp 5) := Sem1.jmp d6_17 (by decide) (by decide)
theorem q6_20 : SemR tables_1 KT μ6 20 0 := SemR.v d6_20 rfl
def T6 : Tr := (tr1 (tr1 (tr1 (tr1 tr0 0 (.inl (o_cI 0 1)) tr0) 1 (.inl (o_stI 2 2)) (tr1 tr0 2 (.inl (o_ldA 0 3)) tr0)) 3 (.inl (o_alen 4)) (tr1 (tr1 tr0 4 (.inl (o_stI 3 5)) tr0) 5 (.inl (o_ldI 2 6)) (tr1 tr0 6 (.inl (o_ldI 3 7)) tr0))) 7 (.inl (o_icmp .ge 20 10)) (tr1 (tr1 (tr1 tr0 10 (.inl (o_ldA 0 11)) tr0) 11 (.inl (o_ldI 2 12)) (tr1 tr0 12 (.inl (o_ldI 1 13)) tr0)) 13 (.inl (o_iast 14)) (tr1 (tr1 tr0 14 (.inl (o_inc 2 1 17)) tr0) 17 (.inl (o_jmp 5)) (tr1 tr0 20 (.inr (.inr 0)) tr0))))
theorem a6 : TrAll (SemO tables_1 KT MS μ6) T6 := (all_n (all_n (all_n (all_n all_e q6_0 all_e) q6_1 (all_n all_e q6_2 all_e)) q6_3 (all_n (all_n all_e q6_4 all_e) q6_5 (all_n all_e q6_6 all_e))) q6_7 (all_n (all_n (all_n all_e q6_10 all_e) q6_11 (all_n all_e q6_12 all_e)) q6_13 (all_n (all_n all_e q6_14 all_e) q6_17 (all_n all_e q6_20 all_e))))
abbrev R6 : Room := ⟨0, 0, 0, 0⟩
theorem d7_0 : decode prog_13_method_9_code 0 = .ok (.aload_n 0, 1) := by decide +kernel
theorem d7_1 : decode prog_13_method_9_code 1 = .ok (.getfield 24, 3) := by decide +kernel
theorem d7_4 : decode prog_13_method_9_code 4 = .ok (.iload_n 1, 1) := by decide +kernel
theorem d7_5 : decode prog_13_method_9_code 5 = .ok (.aload_n 0, 1) := by decide +kernel
theorem d7_6 : decode prog_13_method_9_code 6 = .ok (.getfield 24, 3) := by decide +kernel
theorem d7_9 : decode prog_13_method_9_code 9 = .ok (.iconst 2, 1) := by decide +kernel
theorem d7_10 : decode prog_13_method_9_code 10 = .ok (.iload_n 1, 1) := by decide +kernel
theorem d7_11 : decode prog_13_method_9_code 11 = .ok (.imul, 1) := by decide +kernel
theorem d7_12 : decode prog_13_method_9_code 12 = .ok (.iaload, 1) := by decide +kernel
theorem d7_13 : decode prog_13_method_9_code 13 = .ok (.ifCond .lt 14, 3) := by decide +kernel
theorem d7_16 : decode prog_13_method_9_code 16 = .ok (.aload_n 0, 1) := by decide +kernel
theorem d7_17 : decode prog_13_method_9_code 17 = .ok (.getfield 24, 3) := by decide +kernel
theorem d7_20 : decode prog_13_method_9_code 20 = .ok (.iconst 2, 1) := by decide +kernel
theorem d7_21 : decode prog_13_method_9_code 21 = .ok (.iload_n 1, 1) := by decide +kernel
theorem d7_22 : decode prog_13_method_9_code 22 = .ok (.imul, 1) := by decide +kernel
theorem d7_23 : decode prog_13_method_9_code 23 = .ok (.iaload, 1) := by decide +kernel
theorem d7_24 : decode prog_13_method_9_code 24 = .ok (.goto 13, 3) := by decide +kernel
theorem d7_27 : decode prog_13_method_9_code 27 = .ok (.aload_n 0, 1) := by decide +kernel
theorem d7_28 : decode prog_13_method_9_code 28 = .ok (.getfield 24, 3) := by decide +kernel
theorem d7_31 : decode prog_13_method_9_code 31 = .ok (.iconst 2, 1) := by decide +kernel
theorem d7_32 : decode prog_13_method_9_code 32 = .ok (.iload_n 1, 1) := by decide +kernel
theorem d7_33 : decode prog_13_method_9_code 33 = .ok (.imul, 1) := by decide +kernel
theorem d7_34 : decode prog_13_method_9_code 34 = .ok (.iconst 1, 1) := by decide +kernel
theorem d7_35 : decode prog_13_method_9_code 35 = .ok (.iadd, 1) := by decide +kernel
theorem d7_36 : decode prog_13_method_9_code 36 = .ok (.iaload, 1) := by decide +kernel
theorem d7_37 : decode prog_13_method_9_code 37 = .ok (.iastore, 1) := by decide +kernel
theorem d7_38 : decode prog_13_method_9_code 38 = .ok (.aload_n 0, 1) := by decide +kernel
theorem d7_39 : decode prog_13_method_9_code 39 = .ok (.getfield 27, 3) := by decide +kernel
theorem d7_42 : decode prog_13_method_9_code 42 = .ok (.iload_n 1, 1) := by decide +kernel
theorem d7_43 : decode prog_13_method_9_code 43 = .ok (.aload_n 0, 1) := by decide +kernel
theorem d7_44 : decode prog_13_method_9_code 44 = .ok (.getfield 27, 3) := by decide +kernel
theorem d7_47 : decode prog_13_method_9_code 47 = .ok (.iconst 2, 1) := by decide +kernel
theorem d7_48 : decode prog_13_method_9_code 48 = .ok (.iload_n 1, 1) := by decide +kernel
theorem d7_49 : decode prog_13_method_9_code 49 = .ok (.imul, 1) := by decide +kernel
theorem d7_50 : decode prog_13_method_9_code 50 = .ok (.iconst 1, 1) := by decide +kernel
theorem d7_51 : decode prog_13_method_9_code 51 = .ok (.iadd, 1) := by decide +kernel
theorem d7_52 : decode prog_13_method_9_code 52 = .ok (.iaload, 1) := by decide +kernel
theorem d7_53 : decode prog_13_method_9_code 53 = .ok (.ifCond .lt 16, 3) := by decide +kernel
theorem d7_56 : decode prog_13_method_9_code 56 = .ok (.aload_n 0, 1) := by decide +kernel
theorem d7_57 : decode prog_13_method_9_code 57 = .ok (.getfield 27, 3) := by decide +kernel
theorem d7_60 : decode prog_13_method_9_code 60 = .ok (.iconst 2, 1) := by decide +kernel
theorem d7_61 : decode prog_13_method_9_code 61 = .ok (.iload_n 1, 1) := by decide +kernel
theorem d7_62 : decode prog_13_method_9_code 62 = .ok (.imul, 1) := by decide +kernel
theorem d7_63 : decode prog_13_method_9_code 63 = .ok (.iconst 1, 1) := by decide +kernel
theorem d7_64 : decode prog_13_method_9_code 64 = .ok (.iadd, 1) := by decide +kernel
theorem d7_65 : decode prog_13_method_9_code 65 = .ok (.iaload, 1) := by decide +kernel
theorem d7_66 : decode prog_13_method_9_code 66 = .ok (.goto 11, 3) := by decide +kernel
theorem d7_69 : decode prog_13_method_9_code 69 = .ok (.aload_n 0, 1) := by decide +kernel
theorem d7_70 : decode prog_13_method_9_code 70 = .ok (.getfield 27, 3) := by decide +kernel
theorem d7_73 : decode prog_13_method_9_code 73 = .ok (.iconst 2, 1) := by decide +kernel
theorem d7_74 : decode prog_13_method_9_code 74 = .ok (.iload_n 1, 1) := by decide +kernel
theorem d7_75 : decode prog_13_method_9_code 75 = .ok (.imul, 1) := by decide +kernel
theorem d7_76 : decode prog_13_method_9_code 76 = .ok (.iaload, 1) := by decide +kernel
theorem d7_77 : decode prog_13_method_9_code 77 = .ok (.iastore, 1) := by decide +kernel
theorem d7_78 : decode prog_13_method_9_code 78 = .ok (.return_, 1) := by decide +kernel
theorem q7_0 : Sem1 tables_1 KT μ7 0 (o_ldA 0 1) := Sem1.ldA_n d7_0 rfl
theorem q7_1 : Sem1 tables_1 KT μ7 1 (o_gF 0 4 4) := Sem1.gF d7_1 (host := "") (Or.inl (List.mem_of_getElem? (i := 34) rfl)) (Or.inl rfl) rfl rfl
theorem q7_4 : Sem1 tables_1 KT μ7 4 (o_ldI 1 5) := Sem1.ldI_n d7_4 rfl
theorem q7_5 : Sem1 tables_1 KT μ7 5 (o_ldA 0 6) := Sem1.ldA_n d7_5 rfl
theorem q7_6 : Sem1 tables_1 KT μ7 6 (o_gF 0 4 9) := Sem1.gF d7_6 (host := "") (Or.inl (List.mem_of_getElem? (i := 34) rfl)) (Or.inl rfl) rfl rfl
theorem q7_9 : Sem1 tables_1 KT μ7 9 (o_cI 2 10) := Sem1.cI (fun h => W.iconst' d7_9 (by decide) h)
theorem q7_10 : Sem1 tables_1 KT μ7 10 (o_ldI 1 11) := Sem1.ldI_n d7_10 rfl
theorem q7_11 : Sem1 tables_1 KT μ7 11 (o_bi 2 12) := Sem1.imul d7_11
theorem q7_12 : Sem1 tables_1 KT μ7 12 (o_iald 13) := Sem1.iald d7_12
theorem q7_13 : Sem1 tables_1 KT μ7 13 (o_ifc .lt 27 16) := Sem1.ifc d7_13 (by decide) (by decide)
theorem q7_16 : Sem1 tables_1 KT μ7 16 (o_ldA 0 17) := Sem1.ldA_n d7_16 rfl
theorem q7_17 : Sem1 tables_1 KT μ7 17 (o_gF 0 4 20) := Sem1.gF d7_17 (host := "") (Or.inl (List.mem_of_getElem? (i := 34) rfl)) (Or.inl rfl) rfl rfl
theorem q7_20 : Sem1 tables_1 KT μ7 20 (o_cI 2 21) := Sem1.cI (fun h => W.iconst' d7_20 (by decide) h)
theorem q7_21 : Sem1 tables_1 KT μ7 21 (o_ldI 1 22) := Sem1.ldI_n d7_21 rfl
theorem q7_22 : Sem1 tables_1 KT μ7 22 (o_bi 2 23) := Sem1.imul d7_22
theorem q7_23 : Sem1 tables_1 KT μ7 23 (o_iald 24) := Sem1.iald d7_23
theorem q7_24 : Sem1 tables_1 KT μ7 24 (o_jmp 37) := Sem1.jmp d7_24 (by decide) (by decide)
theorem q7_27 : Sem1 tables_1 KT μ7 27 (o_ldA 0 28) := Sem1.ldA_n d7_27 rfl
theorem q7_28 : Sem1 tables_1 KT μ7 28 (o_gF 0 4 31) := Sem1.gF d7_28 (host := "") (Or.inl (List.mem_of_getElem? (i := 34) rfl)) (Or.inl rfl) rfl rfl
theorem q7_31 : Sem1 tables_1 KT μ7 31 (o_cI 2 32) := Sem1.cI (fun h => W.iconst' d7_31 (by decide) h)
theorem q7_32 : Sem1 tables_1 KT μ7 32 (o_ldI 1 33) := Sem1.ldI_n d7_32 rfl
theorem q7_33 : Sem1 tables_1 KT μ7 33 (o_bi 2 34) := Sem1.imul d7_33
theorem q7_34 : Sem1 tables_1 KT μ7 34 (o_cI 1 35) := Sem1.cI (fun h => W.iconst' d7_34 (by decide) h)
theorem q7_35 : Sem1 tables_1 KT μ7 35 (o_bi 0 36) := Sem1.iadd d7_35
theorem q7_36 : Sem1 tables_1 KT μ7 36 (o_iald 37) := Sem1.iald d7_36
theorem q7_37 : Sem1 tables_1 KT μ7 37 (o_iast 38) := Sem1.iast d7_37
theorem q7_38 : Sem1 tables_1 KT μ7 38 (o_ldA 0 39) := Sem1.ldA_n d7_38 rfl
theorem q7_39 : Sem1 tables_1 KT μ7 39 (o_gF 0 5 42) := Sem1.gF d7_39 (host := "") (Or.inl (List.mem_of_getElem? (i := 36) rfl)) (Or.inl rfl) rfl rfl
theorem q7_42 : Sem1 tables_1 KT μ7 42 (o_ldI 1 43) := Sem1.ldI_n d7_42 rfl
theorem q7_43 : Sem1 tables_1 KT μ7 43 (o_ldA 0 44) := Sem1.ldA_n d7_43 rfl
theorem q7_44 : Sem1 tables_1 KT μ7 44 (o_gF 0 5 47) := Sem1.gF d7_44 (host := "") (Or.inl (List.mem_of_getElem? (i := 36) rfl)) (Or.inl rfl) rfl rfl
theorem q7_47 : Sem1 tables_1 KT μ7 47 (o_cI 2 48) := Sem1.cI (fun h => W.iconst' d7_47 (by decide) h)
theorem q7_48 : Sem1 tables_1 KT μ7 48 (o_ldI 1 49) := Sem1.ldI_n d7_48 rfl
theorem q7_49 : Sem1 tables_1 KT μ7 49 (o_bi 2 50) := Sem1.imul d7_49
theorem q7_50 : Sem1 tables_1 KT μ7 50 (o_cI 1 51) := Sem1.cI (fun h => W.iconst' d7_50 (by decide) h)
theorem q7_51 : Sem1 tables_1 KT μ7 51 (o_bi 0 52) := Sem1.iadd d7_51
theorem q7_52 : Sem1 tables_1 KT μ7 52 (o_iald 53) := Sem1.iald d7_52
theorem q7_53 : Sem1 tables_1 KT μ7 53 (o_ifc .lt 69 56) := Sem1.ifc d7_53 (by decide) (by decide)
theorem q7_56 : Sem1 tables_1 KT μ7 56 (o_ldA 0 57) := Sem1.ldA_n d7_56 rfl
theorem q7_57 : Sem1 tables_1 KT μ7 57 (o_gF 0 5 60) := Sem1.gF d7_57 (host := "") (Or.inl (List.mem_of_getElem? (i := 36) rfl)) (Or.inl rfl) rfl rfl
theorem q7_60 : Sem1 tables_1 KT μ7 60 (o_cI 2 61) := Sem1.cI (fun h => W.iconst' d7_60 (by decide) h)
theorem q7_61 : Sem1 tables_1 KT μ7 61 (o_ldI 1 62) := Sem1.ldI_n d7_61 rfl
theorem q7_62 : Sem1 tables_1 KT μ7 62 (o_bi 2 63) := Sem1.imul d7_62
theorem q7_63 : Sem1 tables_1 KT μ7 63 (o_cI 1 64) := Sem1.cI (fun h => W.iconst' d7_63 (by decide) h)
theorem q7_64 : Sem1 tables_1 KT μ7 64 (o_bi 0 65) := Sem1.iadd d7_64
theorem q7_65 : Sem1 tables_1 KT μ7 65 (o_iald 66) := Sem1.iald d7_65
theorem q7_66 : Sem1 tables_1 KT μ7 66 (o_jmp 77) := Sem1.jmp d7_66 (by decide) (by decide)
theorem q7_69 : Sem1 tables_1 KT μ7 69 (o_ldA 0 70) := Sem1.ldA_n d7_69 rfl
theorem q7_70 : Sem1 tables_1 KT μ7 70 (o_gF 0 5 73) := Sem1.gF d7_70 (host := "") (Or.inl (List.mem_of_getElem? (i := 36) rfl)) (Or.inl rfl) rfl rfl
theorem q7_73 : Sem1 tables_1 KT μ7 73 (o_cI 2 74) := Sem1.cI (fun h => W.iconst' d7_73 (by decide) h)
theorem q7_74 : Sem1 tables_1 KT μ7 74 (o_ldI 1 75) := Sem1.ldI_n d7_74 rfl
theorem q7_75 : Sem1 tables_1 KT μ7 75 (o_bi 2 76) := Sem1.imul d7_75
theorem q7_76 : Sem1 tables_1 KT μ7 76 (o_iald 77) := Sem1.iald d7_76
theorem q7_77 : Sem1 tables_1 KT μ7 77 (o_iast 78) := Sem1.iast d7_77
theorem q7_78 : SemR tables_1 KT μ7 78 0 := SemR.v d7_78 rfl
def T7 : Tr := (tr1 (tr1 (tr1 (tr1 (tr1 (tr1 tr0 0 (.inl (o_ldA 0 1)) tr0) 1 (.inl (o_gF 0 4 4)) (tr1 tr0 4 (.inl (o_ldI 1 5)) tr0)) 5 (.inl (o_ldA 0 6)) (tr1 (tr1 tr0 6 (.inl (o_gF 0 4 9)) tr0) 9 (.inl (o_cI 2 10)) tr0)) 10 (.inl (o_ldI 1 11)) (tr1 (tr1 (tr1 tr0 11 (.inl (o_bi 2 12)) tr0) 12 (.inl (o_iald 13)) (tr1 tr0 13 (.inl (o_ifc .lt 27 16)) tr0)) 16 (.inl (o_ldA 0 17)) (tr1 (tr1 tr0 17 (.inl (o_gF 0 4 20)) tr0) 20 (.inl (o_cI 2 21)) tr0))) 21 (.inl (o_ldI 1 22)) (tr1 (tr1 (tr1 (tr1 tr0 22 (.inl (o_bi 2 23)) tr0) 23 (.inl (o_iald 24)) (tr1 tr0 24 (.inl (o_jmp 37)) tr0)) 27 (.inl (o_ldA 0 28)) (tr1 (tr1 tr0 28 (.inl (o_gF 0 4 31)) tr0) 31 (.inl (o_cI 2 32)) tr0)) 32 (.inl (o_ldI 1 33)) (tr1 (tr1 (tr1 tr0 33 (.inl (o_bi 2 34)) tr0) 34 (.inl (o_cI 1 35)) (tr1 tr0 35 (.inl (o_bi 0 36)) tr0)) 36 (.inl (o_iald 37)) (tr1 (tr1 tr0 37 (.inl (o_iast 38)) tr0) 38 (.inl (o_ldA 0 39)) tr0)))) 39 (.inl (o_gF 0 5 42)) (tr1 (tr1 (tr1 (tr1 (tr1 tr0 42 (.inl (o_ldI 1 43)) tr0) 43 (.inl (o_ldA 0 44)) (tr1 tr0 44 (.inl (o_gF 0 5 47)) tr0)) 47 (.inl (o_cI 2 48)) (tr1 (tr1 tr0 48 (.inl (o_ldI 1 49)) tr0) 49 (.inl (o_bi 2 50)) tr0)) 50 (.inl (o_cI 1 51)) (tr1 (tr1 (tr1 tr0 51 (.inl (o_bi 0 52)) tr0) 52 (.inl (o_iald 53)) (tr1 tr0 53 (.inl (o_ifc .lt 69 56)) tr0)) 56 (.inl (o_ldA 0 57)) (tr1 (tr1 tr0 57 (.inl (o_gF 0 5 60)) tr0) 60 (.inl (o_cI 2 61)) tr0))) 61 (.inl (o_ldI 1 62)) (tr1 (tr1 (tr1 (tr1 tr0 62 (.inl (o_bi 2 63)) tr0) 63 (.inl (o_cI 1 64)) (tr1 tr0 64 (.inl (o_bi 0 65)) tr0)) 65 (.inl (o_iald 66)) (tr1 (tr1 tr0 66 (.inl (o_jmp 77)) tr0) 69 (.inl (o_ldA 0 70)) tr0)) 70 (.inl (o_gF 0 5 73)) (tr1 (tr1 (tr1 tr0 73 (.inl (o_cI 2 74)) tr0) 74 (.inl (o_ldI 1 75)) (tr1 tr0 75 (.inl (o_bi 2 76)) tr0)) 76 (.inl (o_iald 77)) (tr1 (tr1 tr0 77 (.inl (o_iast 78)) tr0) 78 (.inr (.inr 0)) tr0)))))
theorem a7 : TrAll (SemO tables_1 KT MS μ7) T7 := (all_n (all_n (all_n (all_n (all_n (all_n all_e q7_0 all_e) q7_1 (all_n all_e q7_4 all_e)) q7_5 (all_n (all_n all_e q7_6 all_e) q7_9 all_e)) q7_10 (all_n (all_n (all_n all_e q7_11 all_e) q7_12 (all_n all_e q7_13 all_e)) q7_16 (all_n (all_n all_e q7_17 all_e) q7_20 all_e))) q7_21 (all_n (all_n (all_n (all_n all_e q7_22 all_e) q7_23 (all_n all_e q7_24 all_e)) q7_27 (all_n (all_n all_e q7_28 all_e) q7_31 all_e)) q7_32 (all_n (all_n (all_n all_e q7_33 all_e) q7_34 (all_n all_e q7_35 all_e)) q7_36 (all_n (all_n all_e q7_37 all_e) q7_38 all_e)))) q7_39 (all_n (all_n (all_n (all_n (all_n all_e q7_42 all_e) q7_43 (all_n all_e q7_44 all_e)) q7_47 (all_n (all_n all_e q7_48 all_e) q7_49 all_e)) q7_50 (all_n (all_n (all_n all_e q7_51 all_e) q7_52 (all_n all_e q7_53 all_e)) q7_56 (all_n (all_n all_e q7_57 all_e) q7_60 all_e))) q7_61 (all_n (all_n (all_n (all_n all_e q7_62 all_e) q7_63 (all_n all_e q7_64 all_e)) q7_65 (all_n (all_n all_e q7_66 all_e) q7_69 all_e)) q7_70 (all_n (all_n (all_n all_e q7_73 all_e) q7_74 (all_n all_e q7_75 all_e)) q7_76 (all_n (all_n all_e q7_77 all_e) q7_78 all_e)))))
abbrev R7 : Room := ⟨0, 0, 0, 0⟩
theorem d8_0 : decode prog_14_method_4_code 0 = .ok (.aload_n 0, 1) := by decide +kernel
theorem d8_1 : decode prog_14_method_4_code 1 = .ok (.getfield 18, 3) := by decide +kernel
theorem d8_4 : decode prog_14_method_4_code 4 = .ok (.astore 4, 2) := by decide +kernel
theorem d8_6 : decode prog_14_method_4_code 6 = .ok (.aload_n 0, 1) := by decide +kernel
theorem d8_7 : decode prog_14_method_4_code 7 = .ok (.getfield 22, 3) := by decide +kernel
theorem d8_10 : decode prog_14_method_4_code 10 = .ok (.astore 5, 2) := by decide +kernel
theorem d8_12 : decode prog_14_method_4_code 12 = .ok (.aload 4, 2) := by decide +kernel
theorem d8_14 : decode prog_14_method_4_code 14 = .ok (.iload_n 2, 1) := by decide +kernel
theorem d8_15 : decode prog_14_method_4_code 15 = .ok (.iconst 0, 1) := by decide +kernel
theorem d8_16 : decode prog_14_method_4_code 16 = .ok (.aload_n 0, 1) := by decide +kernel
theorem d8_17 : decode prog_14_method_4_code 17 = .ok (.getfield 1, 3) := by decide +kernel
theorem d8_20 : decode prog_14_method_4_code 20 = .ok (.getfield 29, 3) := by decide +kernel
theorem d8_23 : decode prog_14_method_4_code 23 = .ok (.iconst 1, 1) := by decide +kernel
theorem d8_24 : decode prog_14_method_4_code 24 = .ok (.isub, 1) := by decide +kernel
theorem d8_25 : decode prog_14_method_4_code 25 = .ok (.invokevirtual 38, 3) := by decide +kernel
theorem d8_28 : decode prog_14_method_4_code 28 = .ok (.aload 5, 2) := by decide +kernel
theorem d8_30 : decode prog_14_method_4_code 30 = .ok (.iload_n 3, 1) := by decide +kernel
theorem d8_31 : decode prog_14_method_4_code 31 = .ok (.iconst 0, 1) := by decide +kernel
theorem d8_32 : decode prog_14_method_4_code 32 = .ok (.aload_n 0, 1) := by decide +kernel
theorem d8_33 : decode prog_14_method_4_code 33 = .ok (.getfield 1, 3) := by decide +kernel
theorem d8_36 : decode prog_14_method_4_code 36 = .ok (.getfield 29, 3) := by decide +kernel
theorem d8_39 : decode prog_14_method_4_code 39 = .ok (.iconst 1, 1) := by decide +kernel
theorem d8_40 : decode prog_14_method_4_code 40 = .ok (.isub, 1) := by decide +kernel
theorem d8_41 : decode prog_14_method_4_code 41 = .ok (.invokevirtual 38, 3) := by decide +kernel
theorem d8_44 : decode prog_14_method_4_code 44 = .ok (.aload_n 0, 1) := by decide +kernel
theorem d8_45 : decode prog_14_method_4_code 45 = .ok (.getfield 1, 3) := by decide +kernel
theorem d8_48 : decode prog_14_method_4_code 48 = .ok (.getfield 89, 3) := by decide +kernel
theorem d8_51 : decode prog_14_method_4_code 51 = .ok (.iconst 2, 1) := by decide +kernel
theorem d8_52 : decode prog_14_method_4_code 52 = .ok (.aload_n 0, 1) := by decide +kernel
theorem d8_53 : decode prog_14_method_4_code 53 = .ok (.getfield 1, 3) := by decide +kernel
theorem d8_56 : decode prog_14_method_4_code 56 = .ok (.getfield 77, 3) := by decide +kernel
theorem d8_59 : decode prog_14_method_4_code 59 = .ok (.iconst 2, 1) := by decide +kernel
theorem d8_60 : decode prog_14_method_4_code 60 = .ok (.iload_n 1, 1) := by decide +kernel
theorem d8_61 : decode prog_14_method_4_code 61 = .ok (.imul, 1) := by decide +kernel
theorem d8_62 : decode prog_14_method_4_code 62 = .ok (.iconst 1, 1) := by decide +kernel
theorem d8_63 : decode prog_14_method_4_code 63 = .ok (.iadd, 1) := by decide +kernel
theorem d8_64 : decode prog_14_method_4_code 64 = .ok (.iaload, 1) := by decide +kernel
theorem d8_65 : decode prog_14_method_4_code 65 = .ok (.imul, 1) := by decide +kernel
theorem d8_66 : decode prog_14_method_4_code 66 = .ok (.laload, 1) := by decide +kernel
theorem d8_67 : decode prog_14_method_4_code 67 = .ok (.lstore 6, 2) := by decide +kernel
theorem d8_69 : decode prog_14_method_4_code 69 = .ok (.aload 4, 2) := by decide +kernel
theorem d8_71 : decode prog_14_method_4_code 71 = .ok (.invokevirtual 42, 3) := by decide +kernel
theorem d8_74 : decode prog_14_method_4_code 74 = .ok (.ifCond .eq 11, 3) := by decide +kernel
theorem d8_77 : decode prog_14_method_4_code 77 = .ok (.aload 5, 2) := by decide +kernel
theorem d8_79 : decode prog_14_method_4_code 79 = .ok (.invokevirtual 42, 3) := by decide +kernel
theorem d8_82 : decode prog_14_method_4_code 82 = .ok (.ifCond .ne 96, 3) := by decide +kernel
theorem d8_85 : decode prog_14_method_4_code 85 = .ok (.aload 5, 2) := by decide +kernel
theorem d8_87 : decode prog_14_method_4_code 87 = .ok (.invokevirtual 42, 3) := by decide +kernel
theorem d8_90 : decode prog_14_method_4_code 90 = .ok (.ifCond .eq 31, 3) := by decide +kernel
theorem d8_93 : decode prog_14_method_4_code 93 = .ok (.aload_n 0, 1) := by decide +kernel
theorem d8_94 : decode prog_14_method_4_code 94 = .ok (.aload 4, 2) := by decide +kernel
theorem d8_96 : decode prog_14_method_4_code 96 = .ok (.aload_n 0, 1) := by decide +kernel
theorem d8_97 : decode prog_14_method_4_code 97 = .ok (.aload 5, 2) := by decide +kernel
theorem d8_99 : decode prog_14_method_4_code 99 = .ok (.invokevirtual 74, 3) := by decide +kernel
theorem d8_102 : decode prog_14_method_4_code 102 = .ok (.aload 4, 2) := by decide +kernel
theorem d8_104 : decode prog_14_method_4_code 104 = .ok (.invokevirtual 55, 3) := by decide +kernel
theorem d8_107 : decode prog_14_method_4_code 107 = .ok (.aload 4, 2) := by decide +kernel
theorem d8_109 : decode prog_14_method_4_code 109 = .ok (.invokevirtual 59, 3) := by decide +kernel
theorem d8_112 : decode prog_14_method_4_code 112 = .ok (.invokevirtual 83, 3) := by decide +kernel
theorem d8_115 : decode prog_14_method_4_code 115 = .ok (.invokevirtual 93, 3) := by decide +kernel
theorem d8_118 : decode prog_14_method_4_code 118 = .ok (.goto (-49), 3) := by decide +kernel
theorem d8_121 : decode prog_14_method_4_code 121 = .ok (.aload 4, 2) := by decide +kernel
theorem d8_123 : decode prog_14_method_4_code 123 = .ok (.invokevirtual 42, 3) := by decide +kernel
theorem d8_126 : decode prog_14_method_4_code 126 = .ok (.ifCond .eq 39, 3) := by decide +kernel
theorem d8_129 : decode prog_14_method_4_code 129 = .ok (.aload_n 0, 1) := by decide +kernel
theorem d8_130 : decode prog_14_method_4_code 130 = .ok (.aload 5, 2) := by decide +kernel
theorem d8_132 : decode prog_14_method_4_code 132 = .ok (.aload_n 0, 1) := by decide +kernel
theorem d8_133 : decode prog_14_method_4_code 133 = .ok (.aload 4, 2) := by decide +kernel
theorem d8_135 : decode prog_14_method_4_code 135 = .ok (.invokevirtual 74, 3) := by decide +kernel
theorem d8_138 : decode prog_14_method_4_code 138 = .ok (.aload 5, 2) := by decide +kernel
theorem d8_140 : decode prog_14_method_4_code 140 = .ok (.invokevirtual 55, 3) := by decide +kernel
theorem d8_143 : decode prog_14_method_4_code 143 = .ok (.aload 5, 2) := by decide +kernel
theorem d8_145 : decode prog_14_method_4_code 145 = .ok (.invokevirtual 59, 3) := by decide +kernel
theorem d8_148 : decode prog_14_method_4_code 148 = .ok (.invokevirtual 83, 3) := by decide +kernel
theorem d8_151 : decode prog_14_method_4_code 151 = .ok (.ifCond .ne 7, 3) := by decide +kernel
theorem d8_154 : decode prog_14_method_4_code 154 = .ok (.iconst 1, 1) := by decide +kernel
theorem d8_155 : decode prog_14_method_4_code 155 = .ok (.goto 4, 3) := by decide +kernel
theorem d8_158 : decode prog_14_method_4_code 158 = .ok (.iconst 0, 1) := by decide +kernel
theorem d8_159 : decode prog_14_method_4_code 159 = .ok (.invokevirtual 93, 3) := by decide +kernel
theorem d8_162 : decode prog_14_method_4_code 162 = .ok (.goto (-93), 3) := by decide +kernel
theorem d8_165 : decode prog_14_method_4_code 165 = .ok (.aload_n 0, 1) := by decide +kernel
theorem d8_166 : decode prog_14_method_4_code 166 = .ok (.aload 4, 2) := by decide +kernel
theorem d8_168 : decode prog_14_method_4_code 168 = .ok (.aload 5, 2) := by decide +kernel
theorem d8_170 : decode prog_14_method_4_code 170 = .ok (.lload 6, 2) := by decide +kernel
theorem d8_172 : decode prog_14_method_4_code 172 = .ok (.invokevirtual 97, 3) := by decide +kernel
theorem d8_175 : decode prog_14_method_4_code 175 = .ok (.goto (-106), 3) := by decide +kernel
theorem d8_178 : decode prog_14_method_4_code 178 = .ok (.aload_n 0, 1) := by decide +kernel
theorem d8_179 : decode prog_14_method_4_code 179 = .ok (.getfield 34, 3) := by decide +kernel
theorem d8_182 : decode prog_14_method_4_code 182 = .ok (.iconst 2, 1) := by decide +kernel
theorem d8_183 : decode prog_14_method_4_code 183 = .ok (.iload_n 1, 1) := by decide +kernel
theorem d8_184 : decode prog_14_method_4_code 184 = .ok (.imul, 1) := by decide +kernel
theorem d8_185 : decode prog_14_method_4_code 185 = .ok (.aload 4, 2) := by decide +kernel
theorem d8_187 : decode prog_14_method_4_code 187 = .ok (.invokevirtual 74, 3) := by decide +kernel
theorem d8_190 : decode prog_14_method_4_code 190 = .ok (.iastore, 1) := by decide +kernel
theorem d8_191 : decode prog_14_method_4_code 191 = .ok (.aload_n 0, 1) := by decide +kernel
theorem d8_192 : decode prog_14_method_4_code 192 = .ok (.getfield 34, 3) := by decide +kernel
theorem d8_195 : decode prog_14_method_4_code 195 = .ok (.iconst 2, 1) := by decide +kernel
theorem d8_196 : decode prog_14_method_4_code 196 = .ok (.iload_n 1, 1) := by decide +kernel
theorem d8_197 : decode prog_14_method_4_code 197 = .ok (.imul, 1) := by decide +kernel
theorem d8_198 : decode prog_14_method_4_code 198 = .ok (.iconst 1, 1) := by decide +kernel
theorem d8_199 : decode prog_14_method_4_code 199 = .ok (.iadd, 1) := by decide +kernel
theorem d8_200 : decode prog_14_method_4_code 200 = .ok (.aload 5, 2) := by decide +kernel
theorem d8_202 : decode prog_14_method_4_code 202 = .ok (.invokevirtual 74, 3) := by decide +kernel
theorem d8_205 : decode prog_14_method_4_code 205 = .ok (.iastore, 1) := by decide +kernel
theorem d8_206 : decode prog_14_method_4_code 206 = .ok (.return_, 1) := by decide +kernel
theorem q8_0 : Sem1 tables_1 KT μ8 0 (o_ldA 0 1) := Sem1.ldA_n d8_0 rfl
theorem q8_1 : Sem1 tables_1 KT μ8 1 (o_gF 1 1 4) := Sem1.gF d8_1 (host := "") (Or.inl (List.mem_of_getElem? (i := 56) rfl)) (Or.inl rfl) rfl rfl
theorem q8_4 : Sem1 tables_1 KT μ8 4 (o_stA 4 6) := Sem1.stA d8_4
theorem q8_6 : Sem1 tables_1 KT μ8 6 (o_ldA 0 7) := Sem1.ldA_n d8_6 rfl
theorem q8_7 : Sem1 tables_1 KT μ8 7 (o_gF 1 2 10) := Sem1.gF d8_7 (host := "") (Or.inl (List.mem_of_getElem? (i := 58) rfl)) (Or.inl rfl) rfl rfl
theorem q8_10 : Sem1 tables_1 KT μ8 10 (o_stA 5 12) := Sem1.stA d8_10
theorem q8_12 : Sem1 tables_1 KT μ8 12 (o_ldA 4 14) := Sem1.ldA d8_12
theorem q8_14 : Sem1 tables_1 KT μ8 14 (o_ldI 2 15) := Sem1.ldI_n d8_14 rfl
theorem q8_15 : Sem1 tables_1 KT μ8 15 (o_cI 0 16) := Sem1.cI (fun h => W.iconst' d8_15 (by decide) h)
theorem q8_16 : Sem1 tables_1 KT μ8 16 (o_ldA 0 17) := Sem1.ldA_n d8_16 rfl
theorem q8_17 : Sem1 tables_1 KT μ8 17 (o_gF 1 0 20) := Sem1.gF d8_17 (host := "") (Or.inl (List.mem_of_getElem? (i := 44) rfl)) (Or.inl rfl) rfl rfl
theorem q8_20 : Sem1 tables_1 KT μ8 20 (o_gF 0 3 23) := Sem1.gF d8_20 (Or.inr (List.mem_of_getElem? (i := 62) rfl)) (Or.inl rfl) rfl rfl
theorem q8_23 : Sem1 tables_1 KT μ8 23 (o_cI 1 24) := Sem1.cI (fun h => W.iconst' d8_23 (by decide) h)
theorem q8_24 : Sem1 tables_1 KT μ8 24 (o_bi 1 25) := Sem1.isub d8_24
theorem q8_25 : SemC tables_1 KT μ8 μ9 25 4 4 28 := SemC.V (c := 2) d8_25 (List.mem_of_getElem? (i := 82) rfl) (List.mem_of_getElem? (i := 83) rfl) (List.mem_of_getElem? (i := 85) rfl) (Or.inl rfl) kt (List.mem_of_getElem? (i := 84) rfl) (List.mem_of_getElem? (i := 49) rfl) (List.mem_of_getElem? (i := 86) rfl) (by decide) rfl pd8 rfl
theorem q8_28 : Sem1 tables_1 KT μ8 28 (o_ldA 5 30) := Sem1.ldA d8_28
theorem q8_30 : Sem1 tables_1 KT μ8 30 (o_ldI 3 31) := Sem1.ldI_n d8_30 rfl
theorem q8_31 : Sem1 tables_1 KT μ8 31 (o_cI 0 32) := Sem1.cI (fun h => W.iconst' d8_31 (by decide) h)
theorem q8_32 : Sem1 tables_1 KT μ8 32 (o_ldA 0 33) := Sem1.ldA_n d8_32 rfl
theorem q8_33 : Sem1 tables_1 KT μ8 33 (o_gF 1 0 36) := Sem1.gF d8_33 (host := "") (Or.inl (List.mem_of_getElem? (i := 44) rfl)) (Or.inl rfl) rfl rfl
theorem q8_36 : Sem1 tables_1 KT μ8 36 (o_gF 0 3 39) := Sem1.gF d8_36 (Or.inr (List.mem_of_getElem? (i := 62) rfl)) (Or.inl rfl) rfl rfl
theorem q8_39 : Sem1 tables_1 KT μ8 39 (o_cI 1 40) := Sem1.cI (fun h => W.iconst' d8_39 (by decide) h)
theorem q8_40 : Sem1 tables_1 KT μ8 40 (o_bi 1 41) := Sem1.isub d8_40
theorem q8_41 : SemC tables_1 KT μ8 μ9 41 4 4 44 := SemC.V (c := 2) d8_41 (List.mem_of_getElem? (i := 82) rfl) (List.mem_of_getElem? (i := 83) rfl) (List.mem_of_getElem? (i := 85) rfl) (Or.inl rfl) kt (List.mem_of_getElem? (i := 84) rfl) (List.mem_of_getElem? (i := 49) rfl) (List.mem_of_getElem? (i := 86) rfl) (by decide) rfl pd8 rfl
theorem q8_44 : Sem1 tables_1 KT μ8 44 (o_ldA 0 45) := Sem1.ldA_n d8_44 rfl
theorem q8_45 : Sem1 tables_1 KT μ8 45 (o_gF 1 0 48) := Sem1.gF d8_45 (host := "") (Or.inl (List.mem_of_getElem? (i := 44) rfl)) (Or.inl rfl) rfl rfl
theorem q8_48 : Sem1 tables_1 KT μ8 48 (o_gF 0 2 51) := Sem1.gF d8_48 (Or.inr (List.mem_of_getElem? (i := 99) rfl)) (Or.inl rfl) rfl rfl
theorem q8_51 : Sem1 tables_1 KT μ8 51 (o_cI 2 52) := Sem1.cI (fun h => W.iconst' d8_51 (by decide) h)
theorem q8_52 : Sem1 tables_1 KT μ8 52 (o_ldA 0 53) := Sem1.ldA_n d8_52 rfl
theorem q8_53 : Sem1 tables_1 KT μ8 53 (o_gF 1 0 56) := Sem1.gF d8_53 (host := "") (Or.inl (List.mem_of_getElem? (i := 44) rfl)) (Or.inl rfl) rfl rfl
theorem q8_56 : Sem1 tables_1 KT μ8 56 (o_gF 0 4 59) := Sem1.gF d8_56 (Or.inr (List.mem_of_getElem? (i := 100) rfl)) (Or.inl rfl) rfl rfl
theorem q8_59 : Sem1 tables_1 KT μ8 59 (o_cI 2 60) := Sem1.cI (fun h => W.iconst' d8_59 (by decide) h)
theorem q8_60 : Sem1 tables_1 KT μ8 60 (o_ldI 1 61) := Sem1.ldI_n d8_60 rfl
theorem q8_61 : Sem1 tables_1 KT μ8 61 (o_bi 2 62) := Sem1.imul d8_61
theorem q8_62 : Sem1 tables_1 KT μ8 62 (o_cI 1 63) := Sem1.cI (fun h => W.iconst' d8_62 (by decide) h)
theorem q8_63 : Sem1 tables_1 KT μ8 63 (o_bi 0 64) := Sem1.iadd d8_63
theorem q8_64 : Sem1 tables_1 KT μ8 64 (o_iald 65) := Sem1.iald d8_64
theorem q8_65 : Sem1 tables_1 KT μ8 65 (o_bi 2 66) := Sem1.imul d8_65
theorem q8_66 : Sem1 tables_1 KT μ8 66 (o_lald 67) := Sem1.lald d8_66
theorem q8_67 : Sem1 tables_1 KT μ8 67 (o_stL 6 69) := Sem1.stL d8_67
theorem q8_69 : Sem1 tables_1 KT μ8 69 (o_ldA 4 71) := Sem1.ldA d8_69
theorem q8_71 : SemC tables_1 KT μ8 μ11 71 1 4 74 := SemC.V (c := 2) d8_71 (List.mem_of_getElem? (i := 101) rfl) (List.mem_of_getElem? (i := 102) rfl) (List.mem_of_getElem? (i := 104) rfl) (Or.inl rfl) kt (List.mem_of_getElem? (i := 103) rfl) (List.mem_of_getElem? (i := 49) rfl) (List.mem_of_getElem? (i := 105) rfl) (by decide) rfl pd10 rfl
theorem q8_74 : Sem1 tables_1 KT μ8 74 (o_ifc .eq 85 77) := Sem1.ifc d8_74 (by decide) (by decide)
theorem q8_77 : Sem1 tables_1 KT μ8 77 (o_ldA 5 79) := Sem1.ldA d8_77
theorem q8_79 : SemC tables_1 KT μ8 μ11 79 1 4 82 := SemC.V (c := 2) d8_79 (List.mem_of_getElem? (i := 101) rfl) (List.mem_of_getElem? (i := 102) rfl) (List.mem_of_getElem? (i := 104) rfl) (Or.inl rfl) kt (List.mem_of_getElem? (i := 103) rfl) (List.mem_of_getElem? (i := 49) rfl) (List.mem_of_getElem? (i := 105) rfl) (by decide) rfl pd10 rfl
theorem q8_82 : Sem1 tables_1 KT μ8 82 (o_ifc .ne 178 85) := Sem1.ifc d8_82 (by decide) (by decide)
theorem q8_85 : Sem1 tables_1 KT μ8 85 (o_ldA 5 87) := Sem1.ldA d8_85
theorem q8_87 : SemC tables_1 KT μ8 μ11 87 1 4 90 := SemC.V (c := 2) d8_87 (List.mem_of_getElem? (i := 101) rfl) (List.mem_of_getElem? (i := 102) rfl) (List.mem_of_getElem? (i := 104) rfl) (Or.inl rfl) kt (List.mem_of_getElem? (i := 103) rfl) (List.mem_of_getElem? (i := 49) rfl) (List.mem_of_getElem? (i := 105) rfl) (by decide) rfl pd10 rfl
theorem q8_90 : Sem1 tables_1 KT μ8 90 (o_ifc .eq 121 93) := Sem1.ifc d8_90 (by decide) (by decide)
theorem q8_93 : Sem1 tables_1 KT μ8 93 (o_ldA 0 94) := Sem1.ldA_n d8_93 rfl
theorem q8_94 : Sem1 tables_1 KT μ8 94 (o_ldA 4 96) := Sem1.ldA d8_94
theorem q8_96 : Sem1 tables_1 KT μ8 96 (o_ldA 0 97) := Sem1.ldA_n d8_96 rfl
theorem q8_97 : Sem1 tables_1 KT μ8 97 (o_ldA 5 99) := Sem1.ldA d8_97
theorem q8_99 : SemC tables_1 KT μ8 μ12 99 1 4 102 := SemC.V (c := 2) d8_99 (List.mem_of_getElem? (i := 106) rfl) (List.mem_of_getElem? (i := 107) rfl) (List.mem_of_getElem? (i := 109) rfl) (Or.inl rfl) kt (List.mem_of_getElem? (i := 108) rfl) (List.mem_of_getElem? (i := 49) rfl) (List.mem_of_getElem? (i := 110) rfl) (by decide) rfl pd11 rfl
theorem q8_102 : Sem1 tables_1 KT μ8 102 (o_ldA 4 104) := Sem1.ldA d8_102
theorem q8_104 : SemC tables_1 KT μ8 μ13 104 1 4 107 := SemC.V (c := 2) d8_104 (List.mem_of_getElem? (i := 113) rfl) (List.mem_of_getElem? (i := 114) rfl) (List.mem_of_getElem? (i := 116) rfl) (Or.inl rfl) kt (List.mem_of_getElem? (i := 115) rfl) (List.mem_of_getElem? (i := 49) rfl) (List.mem_of_getElem? (i := 117) rfl) (by decide) rfl pd11 rfl
theorem q8_107 : Sem1 tables_1 KT μ8 107 (o_ldA 4 109) := Sem1.ldA d8_107
theorem q8_109 : SemC tables_1 KT μ8 μ14 109 1 4 112 := SemC.V (c := 2) d8_109 (List.mem_of_getElem? (i := 118) rfl) (List.mem_of_getElem? (i := 119) rfl) (List.mem_of_getElem? (i := 121) rfl) (Or.inl rfl) kt (List.mem_of_getElem? (i := 120) rfl) (List.mem_of_getElem? (i := 49) rfl) (List.mem_of_getElem? (i := 122) rfl) (by decide) rfl pd11 rfl
theorem q8_112 : SemC tables_1 KT μ8 μ15 112 4 3 115 := SemC.P (c := 1) d8_112 (List.mem_of_getElem? (i := 123) rfl) (List.mem_of_getElem? (i := 125) rfl) kt (List.mem_of_getElem? (i := 124) rfl) (List.mem_of_getElem? (i := 40) rfl) (List.mem_of_getElem? (i := 126) rfl) (by decide) rfl rfl pd12 rfl
theorem q8_115 : SemC tables_1 KT μ8 μ18 115 3 3 118 := SemC.P (c := 1) d8_115 (List.mem_of_getElem? (i := 135) rfl) (List.mem_of_getElem? (i := 137) rfl) kt (List.mem_of_getElem? (i := 136) rfl) (List.mem_of_getElem? (i := 40) rfl) (List.mem_of_getElem? (i := 138) rfl) (by decide) rfl rfl pd14 rfl
theorem q8_118 : Sem1 tables_1 KT μ8 118 (o_jmp 69) := Sem1.jmp d8_118 (by decide) (by decide)
theorem q8_121 : Sem1 tables_1 KT μ8 121 (o_ldA 4 123) := Sem1.ldA d8_121
theorem q8_123 : SemC tables_1 KT μ8 μ11 123 1 4 126 := SemC.V (c := 2) d8_123 (List.mem_of_getElem? (i := 101) rfl) (List.mem_of_getElem? (i := 102) rfl) (List.mem_of_getElem? (i := 104) rfl) (Or.inl rfl) kt (List.mem_of_getElem? (i := 103) rfl) (List.mem_of_getElem? (i := 49) rfl) (List.mem_of_getElem? (i := 105) rfl) (by decide) rfl pd10 rfl
theorem q8_126 : Sem1 tables_1 KT μ8 126 (o_ifc .eq 165 129) := Sem1.ifc d8_126 (by decide) (by decide)
theorem q8_129 : Sem1 tables_1 KT μ8 129 (o_ldA 0 130) := Sem1.ldA_n d8_129 rfl
theorem q8_130 : Sem1 tables_1 KT μ8 130 (o_ldA 5 132) := Sem1.ldA d8_130
theorem q8_132 : Sem1 tables_1 KT μ8 132 (o_ldA 0 133) := Sem1.ldA_n d8_132 rfl
theorem q8_133 : Sem1 tables_1 KT μ8 133 (o_ldA 4 135) := Sem1.ldA d8_133
theorem q8_135 : SemC tables_1 KT μ8 μ12 135 1 4 138 := SemC.V (c := 2) d8_135 (List.mem_of_getElem? (i := 106) rfl) (List.mem_of_getElem? (i := 107) rfl) (List.mem_of_getElem? (i := 109) rfl) (Or.inl rfl) kt (List.mem_of_getElem? (i := 108) rfl) (List.mem_of_getElem? (i := 49) rfl) (List.mem_of_getElem? (i := 110) rfl) (by decide) rfl pd11 rfl
theorem q8_138 : Sem1 tables_1 KT μ8 138 (o_ldA 5 140) := Sem1.ldA d8_138
theorem q8_140 : SemC tables_1 KT μ8 μ13 140 1 4 143 := SemC.V (c := 2) d8_140 (List.mem_of_getElem? (i := 113) rfl) (List.mem_of_getElem? (i := 114) rfl) (List.mem_of_getElem? (i := 116) rfl) (Or.inl rfl) kt (List.mem_of_getElem? (i := 115) rfl) (List.mem_of_getElem? (i := 49) rfl) (List.mem_of_getElem? (i := 117) rfl) (by decide) rfl pd11 rfl
theorem q8_143 : Sem1 tables_1 KT μ8 143 (o_ldA 5 145) := Sem1.ldA d8_143
theorem q8_145 : SemC tables_1 KT μ8 μ14 145 1 4 148 := SemC.V (c := 2) d8_145 (List.mem_of_getElem? (i := 118) rfl) (List.mem_of_getElem? (i := 119) rfl) (List.mem_of_getElem? (i := 121) rfl) (Or.inl rfl) kt (List.mem_of_getElem? (i := 120) rfl) (List.mem_of_getElem? (i := 49) rfl) (List.mem_of_getElem? (i := 122) rfl) (by decide) rfl pd11 rfl
theorem q8_148 : SemC tables_1 KT μ8 μ15 148 4 3 151 := SemC.P (c := 1) d8_148 (List.mem_of_getElem? (i := 123) rfl) (List.mem_of_getElem? (i := 125) rfl) kt (List.mem_of_getElem? (i := 124) rfl) (List.mem_of_getElem? (i := 40) rfl) (List.mem_of_getElem? (i := 126) rfl) (by decide) rfl rfl pd12 rfl
theorem q8_151 : Sem1 tables_1 KT μ8 151 (o_ifc .ne 158 154) := Sem1.ifc d8_151 (by decide) (by decide)
theorem q8_154 : Sem1 tables_1 KT μ8 154 (o_cI 1 155) := Sem1.cI (fun h => W.iconst' d8_154 (by decide) h)
theorem q8_155 : Sem1 tables_1 KT μ8 155 (o_jmp 159) := Sem1.jmp d8_155 (by decide) (by decide)
theorem q8_158 : Sem1 tables_1 KT μ8 158 (o_cI 0 159) := Sem1.cI (fun h => W.iconst' d8_158 (by decide) h)
theorem q8_159 : SemC tables_1 KT μ8 μ18 159 3 3 162 := SemC.P (c := 1) d8_159 (List.mem_of_getElem? (i := 135) rfl) (List.mem_of_getElem? (i := 137) rfl) kt (List.mem_of_getElem? (i := 136) rfl) (List.mem_of_getElem? (i := 40) rfl) (List.mem_of_getElem? (i := 138) rfl) (by decide) rfl rfl pd14 rfl
theorem q8_162 : Sem1 tables_1 KT μ8 162 (o_jmp 69) := Sem1.jmp d8_162 (by decide) (by decide)
theorem q8_165 : Sem1 tables_1 KT μ8 165 (o_ldA 0 166) := Sem1.ldA_n d8_165 rfl
theorem q8_166 : Sem1 tables_1 KT μ8 166 (o_ldA 4 168) := Sem1.ldA d8_166
theorem q8_168 : Sem1 tables_1 KT μ8 168 (o_ldA 5 170) := Sem1.ldA d8_168
theorem q8_170 : Sem1 tables_1 KT μ8 170 (o_ldL 6 172) := Sem1.ldL d8_170
theorem q8_172 : SemC tables_1 KT μ8 μ27 172 4 3 175 := SemC.P (c := 1) d8_172 (List.mem_of_getElem? (i := 179) rfl) (List.mem_of_getElem? (i := 181) rfl) kt (List.mem_of_getElem? (i := 180) rfl) (List.mem_of_getElem? (i := 40) rfl) (List.mem_of_getElem? (i := 182) rfl) (by decide) rfl rfl pd20 rfl
theorem q8_175 : Sem1 tables_1 KT μ8 175 (o_jmp 69) := Sem1.jmp d8_175 (by decide) (by decide)
theorem q8_178 : Sem1 tables_1 KT μ8 178 (o_ldA 0 179) := Sem1.ldA_n d8_178 rfl
theorem q8_179 : Sem1 tables_1 KT μ8 179 (o_gF 1 4 182) := Sem1.gF d8_179 (host := "") (Or.inl (List.mem_of_getElem? (i := 63) rfl)) (Or.inl rfl) rfl rfl
theorem q8_182 : Sem1 tables_1 KT μ8 182 (o_cI 2 183) := Sem1.cI (fun h => W.iconst' d8_182 (by decide) h)
theorem q8_183 : Sem1 tables_1 KT μ8 183 (o_ldI 1 184) := Sem1.ldI_n d8_183 rfl
theorem q8_184 : Sem1 tables_1 KT μ8 184 (o_bi 2 185) := Sem1.imul d8_184
theorem q8_185 : Sem1 tables_1 KT μ8 185 (o_ldA 4 187) := Sem1.ldA d8_185
theorem q8_187 : SemC tables_1 KT μ8 μ12 187 1 4 190 := SemC.V (c := 2) d8_187 (List.mem_of_getElem? (i := 106) rfl) (List.mem_of_getElem? (i := 107) rfl) (List.mem_of_getElem? (i := 109) rfl) (Or.inl rfl) kt (List.mem_of_getElem? (i := 108) rfl) (List.mem_of_getElem? (i := 49) rfl) (List.mem_of_getElem? (i := 110) rfl) (by decide) rfl pd11 rfl
theorem q8_190 : Sem1 tables_1 KT μ8 190 (o_iast 191) := Sem1.iast d8_190
theorem q8_191 : Sem1 tables_1 KT μ8 191 (o_ldA 0 192) := Sem1.ldA_n d8_191 rfl
theorem q8_192 : Sem1 tables_1 KT μ8 192 (o_gF 1 4 195) := Sem1.gF d8_192 (host := "") (Or.inl (List.mem_of_getElem? (i := 63) rfl)) (Or.inl rfl) rfl rfl
theorem q8_195 : Sem1 tables_1 KT μ8 195 (o_cI 2 196) := Sem1.cI (fun h => W.iconst' d8_195 (by decide) h)
theorem q8_196 : Sem1 tables_1 KT μ8 196 (o_ldI 1 197) := Sem1.ldI_n d8_196 rfl
theorem q8_197 : Sem1 tables_1 KT μ8 197 (o_bi 2 198) := Sem1.imul d8_197
theorem q8_198 : Sem1 tables_1 KT μ8 198 (o_cI 1 199) := Sem1.cI (fun h => W.iconst' d8_198 (by decide) h)
theorem q8_199 : Sem1 tables_1 KT μ8 199 (o_bi 0 200) := Sem1.iadd d8_199
theorem q8_200 : Sem1 tables_1 KT μ8 200 (o_ldA 5 202) := Sem1.ldA d8_200
theorem q8_202 : SemC tables_1 KT μ8 μ12 202 1 4 205 := SemC.V (c := 2) d8_202 (List.mem_of_getElem? (i := 106) rfl) (List.mem_of_getElem? (i := 107) rfl) (List.mem_of_getElem? (i := 109) rfl) (Or.inl rfl) kt (List.mem_of_getElem? (i := 108) rfl) (List.mem_of_getElem? (i := 49) rfl) (List.mem_of_getElem? (i := 110) rfl) (by decide) rfl pd11 rfl
theorem q8_205 : Sem1 tables_1 KT μ8 205 (o_iast 206) := Sem1.iast d8_205
theorem q8_206 : SemR tables_1 KT μ8 206 0 := SemR.v d8_206 rfl
def T8 : Tr := (tr1 (tr1 (tr1 (tr1 (tr1 (tr1 (tr1 tr0 0 (.inl (o_ldA 0 1)) tr0) 1 (.inl (o_gF 1 1 4)) (tr1 tr0 4 (.inl (o_stA 4 6)) tr0)) 6 (.inl (o_ldA 0 7)) (tr1 (tr1 tr0 7 (.inl (o_gF 1 2 10)) tr0) 10 (.inl (o_stA 5 12)) tr0)) 12 (.inl (o_ldA 4 14)) (tr1 (tr1 (tr1 tr0 14 (.inl (o_ldI 2 15)) tr0) 15 (.inl (o_cI 0 16)) (tr1 tr0 16 (.inl (o_ldA 0 17)) tr0)) 17 (.inl (o_gF 1 0 20)) (tr1 (tr1 tr0 20 (.inl (o_gF 0 3 23)) tr0) 23 (.inl (o_cI 1 24)) tr0))) 24 (.inl (o_bi 1 25)) (tr1 (tr1 (tr1 (tr1 tr0 25 (.inr (.inl (9, 4, 4, 28))) tr0) 28 (.inl (o_ldA 5 30)) (tr1 tr0 30 (.inl (o_ldI 3 31)) tr0)) 31 (.inl (o_cI 0 32)) (tr1 (tr1 tr0 32 (.inl (o_ldA 0 33)) tr0) 33 (.inl (o_gF 1 0 36)) tr0)) 36 (.inl (o_gF 0 3 39)) (tr1 (tr1 (tr1 tr0 39 (.inl (o_cI 1 40)) tr0) 40 (.inl (o_bi 1 41)) tr0) 41 (.inr (.inl (9, 4, 4, 44))) (tr1 (tr1 tr0 44 (.inl (o_ldA 0 45)) tr0) 45 (.inl (o_gF 1 0 48)) tr0)))) 48 (.inl (o_gF 0 2 51)) (tr1 (tr1 (tr1 (tr1 (tr1 tr0 51 (.inl (o_cI 2 52)) tr0) 52 (.inl (o_ldA 0 53)) (tr1 tr0 53 (.inl (o_gF 1 0 56)) tr0)) 56 (.inl (o_gF 0 4 59)) (tr1 (tr1 tr0 59 (.inl (o_cI 2 60)) tr0) 60 (.inl (o_ldI 1 61)) tr0)) 61 (.inl (o_bi 2 62)) (tr1 (tr1 (tr1 tr0 62 (.inl (o_cI 1 63)) tr0) 63 (.inl (o_bi 0 64)) tr0) 64 (.inl (o_iald 65)) (tr1 (tr1 tr0 65 (.inl (o_bi 2 66)) tr0) 66 (.inl (o_lald 67)) tr0))) 67 (.inl (o_stL 6 69)) (tr1 (tr1 (tr1 (tr1 tr0 69 (.inl (o_ldA 4 71)) tr0) 71 (.inr (.inl (11, 1, 4, 74))) (tr1 tr0 74 (.inl (o_ifc .eq 85 77)) tr0)) 77 (.inl (o_ldA 5 79)) (tr1 (tr1 tr0 79 (.inr (.inl (11, 1, 4, 82))) tr0) 82 (.inl (o_ifc .ne 178 85)) tr0)) 85 (.inl (o_ldA 5 87)) (tr1 (tr1 (tr1 tr0 87 (.inr (.inl (11, 1, 4, 90))) tr0) 90 (.inl (o_ifc .eq 121 93)) tr0) 93 (.inl (o_ldA 0 94)) (tr1 (tr1 tr0 94 (.inl (o_ldA 4 96)) tr0) 96 (.inl (o_ldA 0 97)) tr0))))) 97 (.inl (o_ldA 5 99)) (tr1 (tr1 (tr1 (tr1 (tr1 (tr1 tr0 99 (.inr (.inl (12, 1, 4, 102))) tr0) 102 (.inl (o_ldA 4 104)) (tr1 tr0 104 (.inr (.inl (13, 1, 4, 107))) tr0)) 107 (.inl (o_ldA 4 109)) (tr1 (tr1 tr0 109 (.inr (.inl (14, 1, 4, 112))) tr0) 112 (.inr (.inl (15, 4, 3, 115))) tr0)) 115 (.inr (.inl (18, 3, 3, 118))) (tr1 (tr1 (tr1 tr0 118 (.inl (o_jmp 69)) tr0) 121 (.inl (o_ldA 4 123)) (tr1 tr0 123 (.inr (.inl (11, 1, 4, 126))) tr0)) 126 (.inl (o_ifc .eq 165 129)) (tr1 (tr1 tr0 129 (.inl (o_ldA 0 130)) tr0) 130 (.inl (o_ldA 5 132)) tr0))) 132 (.inl (o_ldA 0 133)) (tr1 (tr1 (tr1 (tr1 tr0 133 (.inl (o_ldA 4 135)) tr0) 135 (.inr (.inl (12, 1, 4, 138))) (tr1 tr0 138 (.inl (o_ldA 5 140)) tr0)) 140 (.inr (.inl (13, 1, 4, 143))) (tr1 (tr1 tr0 143 (.inl (o_ldA 5 145)) tr0) 145 (.inr (.inl (14, 1, 4, 148))) tr0)) 148 (.inr (.inl (15, 4, 3, 151))) (tr1 (tr1 (tr1 tr0 151 (.inl (o_ifc .ne 158 154)) tr0) 154 (.inl (o_cI 1 155)) tr0) 155 (.inl (o_jmp 159)) (tr1 (tr1 tr0 158 (.inl (o_cI 0 159)) tr0) 159 (.inr (.inl (18, 3, 3, 162))) tr0)))) 162 (.inl (o_jmp 69)) (tr1 (tr1 (tr1 (tr1 (tr1 tr0 165 (.inl (o_ldA 0 166)) tr0) 166 (.inl (o_ldA 4 168)) (tr1 tr0 168 (.inl (o_ldA 5 170)) tr0)) 170 (.inl (o_ldL 6 172)) (tr1 (tr1 tr0 172 (.inr (.inl (27, 4, 3, 175))) tr0) 175 (.inl (o_jmp 69)) tr0)) 178 (.inl (o_ldA 0 179)) (tr1 (tr1 (tr1 tr0 179 (.inl (o_gF 1 4 182)) tr0) 182 (.inl (o_cI 2 183)) tr0) 183 (.inl (o_ldI 1 184)) (tr1 (tr1 tr0 184 (.inl (o_bi 2 185)) tr0) 185 (.inl (o_ldA 4 187)) tr0))) 187 (.inr (.inl (12, 1, 4, 190))) (tr1 (tr1 (tr1 (tr1 tr0 190 (.inl (o_iast 191)) tr0) 191 (.inl (o_ldA 0 192)) (tr1 tr0 192 (.inl (o_gF 1 4 195)) tr0)) 195 (.inl (o_cI 2 196)) (tr1 (tr1 tr0 196 (.inl (o_ldI 1 197)) tr0) 197 (.inl (o_bi 2 198)) tr0)) 198 (.inl (o_cI 1 199)) (tr1 (tr1 (tr1 tr0 199 (.inl (o_bi 0 200)) tr0) 200 (.inl (o_ldA 5 202)) tr0) 202 (.inr (.inl (12, 1, 4, 205))) (tr1 (tr1 tr0 205 (.inl (o_iast 206)) tr0) 206 (.inr (.inr 0)) tr0))))))
theorem a8 : TrAll (SemO tables_1 KT MS μ8) T8 := (all_n (all_n (all_n (all_n (all_n (all_n (all_n all_e q8_0 all_e) q8_1 (all_n all_e q8_4 all_e)) q8_6 (all_n (all_n all_e q8_7 all_e) q8_10 all_e)) q8_12 (all_n (all_n (all_n all_e q8_14 all_e) q8_15 (all_n all_e q8_16 all_e)) q8_17 (all_n (all_n all_e q8_20 all_e) q8_23 all_e))) q8_24 (all_n (all_n (all_n (all_n all_e (SemO.call ms9 q8_25) all_e) q8_28 (all_n all_e q8_30 all_e)) q8_31 (all_n (all_n all_e q8_32 all_e) q8_33 all_e)) q8_36 (all_n (all_n (all_n all_e q8_39 all_e) q8_40 all_e) (SemO.call ms9 q8_41) (all_n (all_n all_e q8_44 all_e) q8_45 all_e)))) q8_48 (all_n (all_n (all_n (all_n (all_n all_e q8_51 all_e) q8_52 (all_n all_e q8_53 all_e)) q8_56 (all_n (all_n all_e q8_59 all_e) q8_60 all_e)) q8_61 (all_n (all_n (all_n all_e q8_62 all_e) q8_63 all_e) q8_64 (all_n (all_n all_e q8_65 all_e) q8_66 all_e))) q8_67 (all_n (all_n (all_n (all_n all_e q8_69 all_e) (SemO.call ms11 q8_71) (all_n all_e q8_74 all_e)) q8_77 (all_n (all_n all_e (SemO.call ms11 q8_79) all_e) q8_82 all_e)) q8_85 (all_n (all_n (all_n all_e (SemO.call ms11 q8_87) all_e) q8_90 all_e) q8_93 (all_n (all_n all_e q8_94 all_e) q8_96 all_e))))) q8_97 (all_n (all_n (all_n (all_n (all_n (all_n all_e (SemO.call ms12 q8_99) all_e) q8_102 (all_n all_e (SemO.call ms13 q8_104) all_e)) q8_107 (all_n (all_n all_e (SemO.call ms14 q8_109) all_e) (SemO.call ms15 q8_112) all_e)) (SemO.call ms18 q8_115) (all_n (all_n (all_n all_e q8_118 all_e) q8_121 (all_n all_e (SemO.call ms11 q8_123) all_e)) q8_126 (all_n (all_n all_e q8_129 all_e) q8_130 all_e))) q8_132 (all_n (all_n (all_n (all_n all_e q8_133 all_e) (SemO.call ms12 q8_135) (all_n all_e q8_138 all_e)) (SemO.call ms13 q8_140) (all_n (all_n all_e q8_143 all_e) (SemO.call ms14 q8_145) all_e)) (SemO.call ms15 q8_148) (all_n (all_n (all_n all_e q8_151 all_e) q8_154 all_e) q8_155 (all_n (all_n all_e q8_158 all_e) (SemO.call ms18 q8_159) all_e)))) q8_162 (all_n (all_n (all_n (all_n (all_n all_e q8_165 all_e) q8_166 (all_n all_e q8_168 all_e)) q8_170 (all_n (all_n all_e (SemO.call ms27 q8_172) all_e) q8_175 all_e)) q8_178 (all_n (all_n (all_n all_e q8_179 all_e) q8_182 all_e) q8_183 (all_n (all_n all_e q8_184 all_e) q8_185 all_e))) (SemO.call ms12 q8_187) (all_n (all_n (all_n (all_n all_e q8_190 all_e) q8_191 (all_n all_e q8_192 all_e)) q8_195 (all_n (all_n all_e q8_196 all_e) q8_197 all_e)) q8_198 (all_n (all_n (all_n all_e q8_199 all_e) q8_200 all_e) (SemO.call ms12 q8_202) (all_n (all_n all_e q8_205 all_e) q8_206 all_e))))))
abbrev R8 : Room := ⟨3, 0, 0, 56⟩
theorem d9_0 : decode prog_15_method_2_code 0 = .ok (.aload_n 0, 1) := by decide +kernel
theorem d9_1 : decode prog_15_method_2_code 1 = .ok (.iload_n 1, 1) := by decide +kernel
theorem d9_2 : decode prog_15_method_2_code 2 = .ok (.putfield 13, 3) := by decide +kernel
theorem d9_5 : decode prog_15_method_2_code 5 = .ok (.aload_n 0, 1) := by decide +kernel
theorem d9_6 : decode prog_15_method_2_code 6 = .ok (.iload_n 2, 1) := by decide +kernel
theorem d9_7 : decode prog_15_method_2_code 7 = .ok (.putfield 17, 3) := by decide +kernel
theorem d9_10 : decode prog_15_method_2_code 10 = .ok (.aload_n 0, 1) := by decide +kernel
theorem d9_11 : decode prog_15_method_2_code 11 = .ok (.iload_n 3, 1) := by decide +kernel
theorem d9_12 : decode prog_15_method_2_code 12 = .ok (.putfield 20, 3) := by decide +kernel
theorem d9_15 : decode prog_15_method_2_code 15 = .ok (.aload_n 0, 1) := by decide +kernel
theorem d9_16 : decode prog_15_method_2_code 16 = .ok (.invokevirtual 23, 3) := by decide +kernel
theorem d9_19 : decode prog_15_method_2_code 19 = .ok (.return_, 1) := by decide +kernel
theorem q9_0 : Sem1 tables_1 KT μ9 0 (o_ldA 0 1) := Sem1.ldA_n d9_0 rfl
theorem q9_1 : Sem1 tables_1 KT μ9 1 (o_ldI 1 2) := Sem1.ldI_n d9_1 rfl
theorem q9_2 : Sem1 tables_1 KT μ9 2 (o_pF 2 1 0 5) := Sem1.pF kt d9_2 (host := "") (Or.inl (List.mem_of_getElem? (i := 87) rfl)) (Or.inl rfl) rfl rfl (Or.inl (List.mem_of_getElem? (i := 88) rfl)) (Or.inl ⟨rfl, rfl⟩)
theorem q9_5 : Sem1 tables_1 KT μ9 5 (o_ldA 0 6) := Sem1.ldA_n d9_5 rfl
theorem q9_6 : Sem1 tables_1 KT μ9 6 (o_ldI 2 7) := Sem1.ldI_n d9_6 rfl
theorem q9_7 : Sem1 tables_1 KT μ9 7 (o_pF 2 2 0 10) := Sem1.pF kt d9_7 (host := "") (Or.inl (List.mem_of_getElem? (i := 89) rfl)) (Or.inl rfl) rfl rfl (Or.inl (List.mem_of_getElem? (i := 90) rfl)) (Or.inl ⟨rfl, rfl⟩)
theorem q9_10 : Sem1 tables_1 KT μ9 10 (o_ldA 0 11) := Sem1.ldA_n d9_10 rfl
theorem q9_11 : Sem1 tables_1 KT μ9 11 (o_ldI 3 12) := Sem1.ldI_n d9_11 rfl
theorem q9_12 : Sem1 tables_1 KT μ9 12 (o_pF 2 3 0 15) := Sem1.pF kt d9_12 (host := "") (Or.inl (List.mem_of_getElem? (i := 91) rfl)) (Or.inl rfl) rfl rfl (Or.inl (List.mem_of_getElem? (i := 92) rfl)) (Or.inl ⟨rfl, rfl⟩)
theorem q9_15 : Sem1 tables_1 KT μ9 15 (o_ldA 0 16) := Sem1.ldA_n d9_15 rfl
theorem q9_16 : SemC tables_1 KT μ9 μ10 16 1 4 19 := SemC.P (c := 2) d9_16 (List.mem_of_getElem? (i := 93) rfl) (List.mem_of_getElem? (i := 95) rfl) kt (List.mem_of_getElem? (i := 94) rfl) (List.mem_of_getElem? (i := 49) rfl) (List.mem_of_getElem? (i := 96) rfl) (by decide) rfl rfl pd9 rfl
theorem q9_19 : SemR tables_1 KT μ9 19 0 := SemR.v d9_19 rfl
def T9 : Tr := (tr1 (tr1 (tr1 (tr1 tr0 0 (.inl (o_ldA 0 1)) tr0) 1 (.inl (o_ldI 1 2)) (tr1 tr0 2 (.inl (o_pF 2 1 0 5)) tr0)) 5 (.inl (o_ldA 0 6)) (tr1 (tr1 tr0 6 (.inl (o_ldI 2 7)) tr0) 7 (.inl (o_pF 2 2 0 10)) tr0)) 10 (.inl (o_ldA 0 11)) (tr1 (tr1 (tr1 tr0 11 (.inl (o_ldI 3 12)) tr0) 12 (.inl (o_pF 2 3 0 15)) tr0) 15 (.inl (o_ldA 0 16)) (tr1 (tr1 tr0 16 (.inr (.inl (10, 1, 4, 19))) tr0) 19 (.inr (.inr 0)) tr0)))
theorem a9 : TrAll (SemO tables_1 KT MS μ9) T9 := (all_n (all_n (all_n (all_n all_e q9_0 all_e) q9_1 (all_n all_e q9_2 all_e)) q9_5 (all_n (all_n all_e q9_6 all_e) q9_7 all_e)) q9_10 (all_n (all_n (all_n all_e q9_11 all_e) q9_12 all_e) q9_15 (all_n (all_n all_e (SemO.call ms10 q9_16) all_e) q9_19 all_e)))
abbrev R9 : Room := ⟨1, 0, 0, 13⟩
theorem d10_0 : decode prog_15_method_9_code 0 = .ok (.aload_n 0, 1) := by decide +kernel
theorem d10_1 : decode prog_15_method_9_code 1 = .ok (.getfield 13, 3) := by decide +kernel
theorem d10_4 : decode prog_15_method_9_code 4 = .ok (.aload_n 0, 1) := by decide +kernel
theorem d10_5 : decode prog_15_method_9_code 5 = .ok (.getfield 1, 3) := by decide +kernel
theorem d10_8 : decode prog_15_method_9_code 8 = .ok (.getfield 26, 3) := by decide +kernel
theorem d10_11 : decode prog_15_method_9_code 11 = .ok (.getfield 32, 3) := by decide +kernel
theorem d10_14 : decode prog_15_method_9_code 14 = .ok (.if_icmp .ge 189, 3) := by decide +kernel
theorem d10_17 : decode prog_15_method_9_code 17 = .ok (.aload_n 0, 1) := by decide +kernel
theorem d10_18 : decode prog_15_method_9_code 18 = .ok (.getfield 17, 3) := by decide +kernel
theorem d10_21 : decode prog_15_method_9_code 21 = .ok (.aload_n 0, 1) := by decide +kernel
theorem d10_22 : decode prog_15_method_9_code 22 = .ok (.getfield 20, 3) := by decide +kernel
theorem d10_25 : decode prog_15_method_9_code 25 = .ok (.if_icmp .gt 178, 3) := by decide +kernel
theorem d10_28 : decode prog_15_method_9_code 28 = .ok (.iconst 2, 1) := by decide +kernel
theorem d10_29 : decode prog_15_method_9_code 29 = .ok (.aload_n 0, 1) := by decide +kernel
theorem d10_30 : decode prog_15_method_9_code 30 = .ok (.getfield 13, 3) := by decide +kernel
theorem d10_33 : decode prog_15_method_9_code 33 = .ok (.imul, 1) := by decide +kernel
theorem d10_34 : decode prog_15_method_9_code 34 = .ok (.istore_n 1, 1) := by decide +kernel
theorem d10_35 : decode prog_15_method_9_code 35 = .ok (.aload_n 0, 1) := by decide +kernel
theorem d10_36 : decode prog_15_method_9_code 36 = .ok (.getfield 1, 3) := by decide +kernel
theorem d10_39 : decode prog_15_method_9_code 39 = .ok (.getfield 26, 3) := by decide +kernel
theorem d10_42 : decode prog_15_method_9_code 42 = .ok (.getfield 41, 3) := by decide +kernel
theorem d10_45 : decode prog_15_method_9_code 45 = .ok (.iload_n 1, 1) := by decide +kernel
theorem d10_46 : decode prog_15_method_9_code 46 = .ok (.iaload, 1) := by decide +kernel
theorem d10_47 : decode prog_15_method_9_code 47 = .ok (.ifCond .ge 13, 3) := by decide +kernel
theorem d10_50 : decode prog_15_method_9_code 50 = .ok (.aload_n 0, 1) := by decide +kernel
theorem d10_51 : decode prog_15_method_9_code 51 = .ok (.iload_n 1, 1) := by decide +kernel
theorem d10_52 : decode prog_15_method_9_code 52 = .ok (.iconst 1, 1) := by decide +kernel
theorem d10_53 : decode prog_15_method_9_code 53 = .ok (.iadd, 1) := by decide +kernel
theorem d10_54 : decode prog_15_method_9_code 54 = .ok (.putfield 13, 3) := by decide +kernel
theorem d10_57 : decode prog_15_method_9_code 57 = .ok (.goto 143, 3) := by decide +kernel
theorem d10_60 : decode prog_15_method_9_code 60 = .ok (.aload_n 0, 1) := by decide +kernel
theorem d10_61 : decode prog_15_method_9_code 61 = .ok (.getfield 1, 3) := by decide +kernel
theorem d10_64 : decode prog_15_method_9_code 64 = .ok (.getfield 26, 3) := by decide +kernel
theorem d10_67 : decode prog_15_method_9_code 67 = .ok (.getfield 41, 3) := by decide +kernel
theorem d10_70 : decode prog_15_method_9_code 70 = .ok (.iload_n 1, 1) := by decide +kernel
theorem d10_71 : decode prog_15_method_9_code 71 = .ok (.iconst 1, 1) := by decide +kernel
theorem d10_72 : decode prog_15_method_9_code 72 = .ok (.iadd, 1) := by decide +kernel
theorem d10_73 : decode prog_15_method_9_code 73 = .ok (.iaload, 1) := by decide +kernel
theorem d10_74 : decode prog_15_method_9_code 74 = .ok (.ifCond .ge 11, 3) := by decide +kernel
theorem d10_77 : decode prog_15_method_9_code 77 = .ok (.aload_n 0, 1) := by decide +kernel
theorem d10_78 : decode prog_15_method_9_code 78 = .ok (.iload_n 1, 1) := by decide +kernel
theorem d10_79 : decode prog_15_method_9_code 79 = .ok (.putfield 13, 3) := by decide +kernel
theorem d10_82 : decode prog_15_method_9_code 82 = .ok (.goto 118, 3) := by decide +kernel
theorem d10_85 : decode prog_15_method_9_code 85 = .ok (.aload_n 0, 1) := by decide +kernel
theorem d10_86 : decode prog_15_method_9_code 86 = .ok (.getfield 20, 3) := by decide +kernel
theorem d10_89 : decode prog_15_method_9_code 89 = .ok (.aload_n 0, 1) := by decide +kernel
theorem d10_90 : decode prog_15_method_9_code 90 = .ok (.getfield 1, 3) := by decide +kernel
theorem d10_93 : decode prog_15_method_9_code 93 = .ok (.getfield 37, 3) := by decide +kernel
theorem d10_96 : decode prog_15_method_9_code 96 = .ok (.iconst 2, 1) := by decide +kernel
theorem d10_97 : decode prog_15_method_9_code 97 = .ok (.aload_n 0, 1) := by decide +kernel
theorem d10_98 : decode prog_15_method_9_code 98 = .ok (.getfield 13, 3) := by decide +kernel
theorem d10_101 : decode prog_15_method_9_code 101 = .ok (.imul, 1) := by decide +kernel
theorem d10_102 : decode prog_15_method_9_code 102 = .ok (.iconst 1, 1) := by decide +kernel
theorem d10_103 : decode prog_15_method_9_code 103 = .ok (.iadd, 1) := by decide +kernel
theorem d10_104 : decode prog_15_method_9_code 104 = .ok (.iaload, 1) := by decide +kernel
theorem d10_105 : decode prog_15_method_9_code 105 = .ok (.if_icmp .ge 36, 3) := by decide +kernel
theorem d10_108 : decode prog_15_method_9_code 108 = .ok (.aload_n 0, 1) := by decide +kernel
theorem d10_109 : decode prog_15_method_9_code 109 = .ok (.aload_n 0, 1) := by decide +kernel
theorem d10_110 : decode prog_15_method_9_code 110 = .ok (.getfield 20, 3) := by decide +kernel
theorem d10_113 : decode prog_15_method_9_code 113 = .ok (.aload_n 0, 1) := by decide +kernel
theorem d10_114 : decode prog_15_method_9_code 114 = .ok (.getfield 1, 3) := by decide +kernel
theorem d10_117 : decode prog_15_method_9_code 117 = .ok (.getfield 37, 3) := by decide +kernel
theorem d10_120 : decode prog_15_method_9_code 120 = .ok (.iconst 2, 1) := by decide +kernel
theorem d10_121 : decode prog_15_method_9_code 121 = .ok (.aload_n 0, 1) := by decide +kernel
theorem d10_122 : decode prog_15_method_9_code 122 = .ok (.getfield 13, 3) := by decide +kernel
theorem d10_125 : decode prog_15_method_9_code 125 = .ok (.imul, 1) := by decide +kernel
theorem d10_126 : decode prog_15_method_9_code 126 = .ok (.iaload, 1) := by decide +kernel
theorem d10_141 : decode prog_15_method_9_code 141 = .ok (.aload_n 0, 1) := by decide +kernel
theorem d10_142 : decode prog_15_method_9_code 142 = .ok (.getfield 17, 3) := by decide +kernel
theorem d10_145 : decode prog_15_method_9_code 145 = .ok (.aload_n 0, 1) := by decide +kernel
theorem d10_146 : decode prog_15_method_9_code 146 = .ok (.getfield 1, 3) := by decide +kernel
theorem d10_149 : decode prog_15_method_9_code 149 = .ok (.getfield 37, 3) := by decide +kernel
theorem d10_152 : decode prog_15_method_9_code 152 = .ok (.iconst 2, 1) := by decide +kernel
theorem d10_153 : decode prog_15_method_9_code 153 = .ok (.aload_n 0, 1) := by decide +kernel
theorem d10_154 : decode prog_15_method_9_code 154 = .ok (.getfield 13, 3) := by decide +kernel
theorem d10_157 : decode prog_15_method_9_code 157 = .ok (.imul, 1) := by decide +kernel
theorem d10_158 : decode prog_15_method_9_code 158 = .ok (.iaload, 1) := by decide +kernel
theorem d10_159 : decode prog_15_method_9_code 159 = .ok (.if_icmp .le 40, 3) := by decide +kernel
theorem d10_162 : decode prog_15_method_9_code 162 = .ok (.aload_n 0, 1) := by decide +kernel
theorem d10_163 : decode prog_15_method_9_code 163 = .ok (.aload_n 0, 1) := by decide +kernel
theorem d10_164 : decode prog_15_method_9_code 164 = .ok (.getfield 17, 3) := by decide +kernel
theorem d10_167 : decode prog_15_method_9_code 167 = .ok (.aload_n 0, 1) := by decide +kernel
theorem d10_168 : decode prog_15_method_9_code 168 = .ok (.getfield 1, 3) := by decide +kernel
theorem d10_171 : decode prog_15_method_9_code 171 = .ok (.getfield 37, 3) := by decide +kernel
theorem d10_174 : decode prog_15_method_9_code 174 = .ok (.iconst 2, 1) := by decide +kernel
theorem d10_175 : decode prog_15_method_9_code 175 = .ok (.aload_n 0, 1) := by decide +kernel
theorem d10_176 : decode prog_15_method_9_code 176 = .ok (.getfield 13, 3) := by decide +kernel
theorem d10_179 : decode prog_15_method_9_code 179 = .ok (.imul, 1) := by decide +kernel
theorem d10_180 : decode prog_15_method_9_code 180 = .ok (.iconst 1, 1) := by decide +kernel
theorem d10_181 : decode prog_15_method_9_code 181 = .ok (.iadd, 1) := by decide +kernel
theorem d10_182 : decode prog_15_method_9_code 182 = .ok (.iaload, 1) := by decide +kernel
theorem d10_199 : decode prog_15_method_9_code 199 = .ok (.return_, 1) := by decide +kernel
theorem d10_200 : decode prog_15_method_9_code 200 = .ok (.goto (-200), 3) := by decide +kernel
theorem d10_203 : decode prog_15_method_9_code 203 = .ok (.return_, 1) := by decide +kernel
theorem q10_0 : Sem1 tables_1 KT μ10 0 (o_ldA 0 1) := Sem1.ldA_n d10_0 rfl
theorem q10_1 : Sem1 tables_1 KT μ10 1 (o_gF 2 1 4) := Sem1.gF d10_1 (host := "") (Or.inl (List.mem_of_getElem? (i := 87) rfl)) (Or.inl rfl) rfl rfl
theorem q10_4 : Sem1 tables_1 KT μ10 4 (o_ldA 0 5) := Sem1.ldA_n d10_4 rfl
theorem q10_5 : Sem1 tables_1 KT μ10 5 (o_gF 2 0 8) := Sem1.gF d10_5 (host := "") (Or.inl (List.mem_of_getElem? (i := 53) rfl)) (Or.inl rfl) rfl rfl
theorem q10_8 : Sem1 tables_1 KT μ10 8 (o_gF 1 0 11) := Sem1.gF d10_8 (host := "") (Or.inl (List.mem_of_getElem? (i := 97) rfl)) (Or.inl rfl) rfl rfl
theorem q10_11 : Sem1 tables_1 KT μ10 11 (o_gF 0 3 14) := Sem1.gF d10_11 (Or.inr (List.mem_of_getElem? (i := 98) rfl)) (Or.inl rfl) rfl rfl
theorem q10_14 : Sem1 tables_1 KT μ10 14 (o_icmp .ge 203 17) := Sem1.icmp d10_14 (by decide) (by decide)
theorem q10_17 : Sem1 tables_1 KT μ10 17 (o_ldA 0 18) := Sem1.ldA_n d10_17 rfl
theorem q10_18 : Sem1 tables_1 KT μ10 18 (o_gF 2 2 21) := Sem1.gF d10_18 (host := "") (Or.inl (List.mem_of_getElem? (i := 89) rfl)) (Or.inl rfl) rfl rfl
theorem q10_21 : Sem1 tables_1 KT μ10 21 (o_ldA 0 22) := Sem1.ldA_n d10_21 rfl
theorem q10_22 : Sem1 tables_1 KT μ10 22 (o_gF 2 3 25) := Sem1.gF d10_22 (host := "") (Or.inl (List.mem_of_getElem? (i := 91) rfl)) (Or.inl rfl) rfl rfl
theorem q10_25 : Sem1 tables_1 KT μ10 25 (o_icmp .gt 203 28) := Sem1.icmp d10_25 (by decide) (by decide)
theorem q10_28 : Sem1 tables_1 KT μ10 28 (o_cI 2 29) := Sem1.cI (fun h => W.iconst' d10_28 (by decide) h)
theorem q10_29 : Sem1 tables_1 KT μ10 29 (o_ldA 0 30) := Sem1.ldA_n d10_29 rfl
theorem q10_30 : Sem1 tables_1 KT μ10 30 (o_gF 2 1 33) := Sem1.gF d10_30 (host := "") (Or.inl (List.mem_of_getElem? (i := 87) rfl)) (Or.inl rfl) rfl rfl
theorem q10_33 : Sem1 tables_1 KT μ10 33 (o_bi 2 34) := Sem1.imul d10_33
theorem q10_34 : Sem1 tables_1 KT μ10 34 (o_stI 1 35) := Sem1.stI_n d10_34 rfl
theorem q10_35 : Sem1 tables_1 KT μ10 35 (o_ldA 0 36) := Sem1.ldA_n d10_35 rfl
theorem q10_36 : Sem1 tables_1 KT μ10 36 (o_gF 2 0 39) := Sem1.gF d10_36 (host := "") (Or.inl (List.mem_of_getElem? (i := 53) rfl)) (Or.inl rfl) rfl rfl
theorem q10_39 : Sem1 tables_1 KT μ10 39 (o_gF 1 0 42) := Sem1.gF d10_39 (host := "") (Or.inl (List.mem_of_getElem? (i := 97) rfl)) (Or.inl rfl) rfl rfl
theorem q10_42 : Sem1 tables_1 KT μ10 42 (o_gF 0 4 45) := Sem1.gF d10_42 (Or.inr (List.mem_of_getElem? (i := 111) rfl)) (Or.inl rfl) rfl rfl
theorem q10_45 : Sem1 tables_1 KT μ10 45 (o_ldI 1 46) := Sem1.ldI_n d10_45 rfl
theorem q10_46 : Sem1 tables_1 KT μ10 46 (o_iald 47) := Sem1.iald d10_46
theorem q10_47 : Sem1 tables_1 KT μ10 47 (o_ifc .ge 60 50) := Sem1.ifc d10_47 (by decide) (by decide)
theorem q10_50 : Sem1 tables_1 KT μ10 50 (o_ldA 0 51) := Sem1.ldA_n d10_50 rfl
theorem q10_51 : Sem1 tables_1 KT μ10 51 (o_ldI 1 52) := Sem1.ldI_n d10_51 rfl
theorem q10_52 : Sem1 tables_1 KT μ10 52 (o_cI 1 53) := Sem1.cI (fun h => W.iconst' d10_52 (by decide) h)
theorem q10_53 : Sem1 tables_1 KT μ10 53 (o_bi 0 54) := Sem1.iadd d10_53
theorem q10_54 : Sem1 tables_1 KT μ10 54 (o_pF 2 1 0 57) := Sem1.pF kt d10_54 (host := "") (Or.inl (List.mem_of_getElem? (i := 87) rfl)) (Or.inl rfl) rfl rfl (Or.inl (List.mem_of_getElem? (i := 88) rfl)) (Or.inl ⟨rfl, rfl⟩)
theorem q10_57 : Sem1 tables_1 KT μ10 57 (o_jmp 200) := Sem1.jmp d10_57 (by decide) (by decide)
theorem q10_60 : Sem1 tables_1 KT μ10 60 (o_ldA 0 61) := Sem1.ldA_n d10_60 rfl
theorem q10_61 : Sem1 tables_1 KT μ10 61 (o_gF 2 0 64) := Sem1.gF d10_61 (host := "") (Or.inl (List.mem_of_getElem? (i := 53) rfl)) (Or.inl rfl) rfl rfl
theorem q10_64 : Sem1 tables_1 KT μ10 64 (o_gF 1 0 67) := Sem1.gF d10_64 (host := "") (Or.inl (List.mem_of_getElem? (i := 97) rfl)) (Or.inl rfl) rfl rfl
theorem q10_67 : Sem1 tables_1 KT μ10 67 (o_gF 0 4 70) := Sem1.gF d10_67 (Or.inr (List.mem_of_getElem? (i := 111) rfl)) (Or.inl rfl) rfl rfl
theorem q10_70 : Sem1 tables_1 KT μ10 70 (o_ldI 1 71) := Sem1.ldI_n d10_70 rfl
theorem q10_71 : Sem1 tables_1 KT μ10 71 (o_cI 1 72) := Sem1.cI (fun h => W.iconst' d10_71 (by decide) h)
theorem q10_72 : Sem1 tables_1 KT μ10 72 (o_bi 0 73) := Sem1.iadd d10_72
theorem q10_73 : Sem1 tables_1 KT μ10 73 (o_iald 74) := Sem1.iald d10_73
theorem q10_74 : Sem1 tables_1 KT μ10 74 (o_ifc .ge 85 77) := Sem1.ifc d10_74 (by decide) (by decide)
theorem q10_77 : Sem1 tables_1 KT μ10 77 (o_ldA 0 78) := Sem1.ldA_n d10_77 rfl
theorem q10_78 : Sem1 tables_1 KT μ10 78 (o_ldI 1 79) := Sem1.ldI_n d10_78 rfl
theorem q10_79 : Sem1 tables_1 KT μ10 79 (o_pF 2 1 0 82) := Sem1.pF kt d10_79 (host := "") (Or.inl (List.mem_of_getElem? (i := 87) rfl)) (Or.inl rfl) rfl rfl (Or.inl (List.mem_of_getElem? (i := 88) rfl)) (Or.inl ⟨rfl, rfl⟩)
theorem q10_82 : Sem1 tables_1 KT μ10 82 (o_jmp 200) := Sem1.jmp d10_82 (by decide) (by decide)
theorem q10_85 : Sem1 tables_1 KT μ10 85 (o_ldA 0 86) := Sem1.ldA_n d10_85 rfl
theorem q10_86 : Sem1 tables_1 KT μ10 86 (o_gF 2 3 89) := Sem1.gF d10_86 (host := "") (Or.inl (List.mem_of_getElem? (i := 91) rfl)) (Or.inl rfl) rfl rfl
theorem q10_89 : Sem1 tables_1 KT μ10 89 (o_ldA 0 90) := Sem1.ldA_n d10_89 rfl
theorem q10_90 : Sem1 tables_1 KT μ10 90 (o_gF 2 0 93) := Sem1.gF d10_90 (host := "") (Or.inl (List.mem_of_getElem? (i := 53) rfl)) (Or.inl rfl) rfl rfl
theorem q10_93 : Sem1 tables_1 KT μ10 93 (o_gF 1 4 96) := Sem1.gF d10_93 (Or.inr (List.mem_of_getElem? (i := 112) rfl)) (Or.inl rfl) rfl rfl
theorem q10_96 : Sem1 tables_1 KT μ10 96 (o_cI 2 97) := Sem1.cI (fun h => W.iconst' d10_96 (by decide) h)
theorem q10_97 : Sem1 tables_1 KT μ10 97 (o_ldA 0 98) := Sem1.ldA_n d10_97 rfl
theorem q10_98 : Sem1 tables_1 KT μ10 98 (o_gF 2 1 101) := Sem1.gF d10_98 (host := "") (Or.inl (List.mem_of_getElem? (i := 87) rfl)) (Or.inl rfl) rfl rfl
theorem q10_101 : Sem1 tables_1 KT μ10 101 (o_bi 2 102) := Sem1.imul d10_101
theorem q10_102 : Sem1 tables_1 KT μ10 102 (o_cI 1 103) := Sem1.cI (fun h => W.iconst' d10_102 (by decide) h)
theorem q10_103 : Sem1 tables_1 KT μ10 103 (o_bi 0 104) := Sem1.iadd d10_103
theorem q10_104 : Sem1 tables_1 KT μ10 104 (o_iald 105) := Sem1.iald d10_104
theorem q10_105 : Sem1 tables_1 KT μ10 105 (o_icmp .ge 141 108) := Sem1.icmp d10_105 (by decide) (by decide)
theorem q10_108 : Sem1 tables_1 KT μ10 108 (o_ldA 0 109) := Sem1.ldA_n d10_108 rfl
theorem q10_109 : Sem1 tables_1 KT μ10 109 (o_ldA 0 110) := Sem1.ldA_n d10_109 rfl
theorem q10_110 : Sem1 tables_1 KT μ10 110 (o_gF 2 3 113) := Sem1.gF d10_110 (host := "") (Or.inl (List.mem_of_getElem? (i := 91) rfl)) (Or.inl rfl) rfl rfl
theorem q10_113 : Sem1 tables_1 KT μ10 113 (o_ldA 0 114) := Sem1.ldA_n d10_113 rfl
theorem q10_114 : Sem1 tables_1 KT μ10 114 (o_gF 2 0 117) := Sem1.gF d10_114 (host := "") (Or.inl (List.mem_of_getElem? (i := 53) rfl)) (Or.inl rfl) rfl rfl
theorem q10_117 : Sem1 tables_1 KT μ10 117 (o_gF 1 4 120) := Sem1.gF d10_117 (Or.inr (List.mem_of_getElem? (i := 112) rfl)) (Or.inl rfl) rfl rfl
theorem q10_120 : Sem1 tables_1 KT μ10 120 (o_cI 2 121) := Sem1.cI (fun h => W.iconst' d10_120 (by decide) h)
theorem q10_121 : Sem1 tables_1 KT μ10 121 (o_ldA 0 122) := Sem1.ldA_n d10_121 rfl
theorem q10_122 : Sem1 tables_1 KT μ10 122 (o_gF 2 1 125) := Sem1.gF d10_122 (host := "") (Or.inl (List.mem_of_getElem? (i := 87) rfl)) (Or.inl rfl) rfl rfl
theorem q10_125 : Sem1 tables_1 KT μ10 125 (o_bi 2 126) := Sem1.imul d10_125
theorem q10_126 : Sem1 tables_1 KT μ10 126 (o_iald 127) := Sem1.iald d10_126
theorem q10_141 : Sem1 tables_1 KT μ10 141 (o_ldA 0 142) := Sem1.ldA_n d10_141 rfl
theorem q10_142 : Sem1 tables_1 KT μ10 142 (o_gF 2 2 145) := Sem1.gF d10_142 (host := "") (Or.inl (List.mem_of_getElem? (i := 89) rfl)) (Or.inl rfl) rfl rfl
theorem q10_145 : Sem1 tables_1 KT μ10 145 (o_ldA 0 146) := Sem1.ldA_n d10_145 rfl
theorem q10_146 : Sem1 tables_1 KT μ10 146 (o_gF 2 0 149) := Sem1.gF d10_146 (host := "") (Or.inl (List.mem_of_getElem? (i := 53) rfl)) (Or.inl rfl) rfl rfl
theorem q10_149 : Sem1 tables_1 KT μ10 149 (o_gF 1 4 152) := Sem1.gF d10_149 (Or.inr (List.mem_of_getElem? (i := 112) rfl)) (Or.inl rfl) rfl rfl
theorem q10_152 : Sem1 tables_1 KT μ10 152 (o_cI 2 153) := Sem1.cI (fun h => W.iconst' d10_152 (by decide) h)
theorem q10_153 : Sem1 tables_1 KT μ10 153 (o_ldA 0 154) := Sem1.ldA_n d10_153 rfl
theorem q10_154 : Sem1 tables_1 KT μ10 154 (o_gF 2 1 157) := Sem1.gF d10_154 (host := "") (Or.inl (List.mem_of_getElem? (i := 87) rfl)) (Or.inl rfl) rfl rfl
theorem q10_157 : Sem1 tables_1 KT μ10 157 (o_bi 2 158) := Sem1.imul d10_157
theorem q10_158 : Sem1 tables_1 KT μ10 158 (o_iald 159) := Sem1.iald d10_158
theorem q10_159 : Sem1 tables_1 KT μ10 159 (o_icmp .le 199 162) := Sem1.icmp d10_159 (by decide) (by decide)
theorem q10_162 : Sem1 tables_1 KT μ10 162 (o_ldA 0 163) := Sem1.ldA_n d10_162 rfl
theorem q10_163 : Sem1 tables_1 KT μ10 163 (o_ldA 0 164) := Sem1.ldA_n d10_163 rfl
theorem q10_164 : Sem1 tables_1 KT μ10 164 (o_gF 2 2 167) := Sem1.gF d10_164 (host := "") (Or.inl (List.mem_of_getElem? (i := 89) rfl)) (Or.inl rfl) rfl rfl
theorem q10_167 : Sem1 tables_1 KT μ10 167 (o_ldA 0 168) := Sem1.ldA_n d10_167 rfl
theorem q10_168 : Sem1 tables_1 KT μ10 168 (o_gF 2 0 171) := Sem1.gF d10_168 (host := "") (Or.inl (List.mem_of_getElem? (i := 53) rfl)) (Or.inl rfl) rfl rfl
theorem q10_171 : Sem1 tables_1 KT μ10 171 (o_gF 1 4 174) := Sem1.gF d10_171 (Or.inr (List.mem_of_getElem? (i := 112) rfl)) (Or.inl rfl) rfl rfl
theorem q10_174 : Sem1 tables_1 KT μ10 174 (o_cI 2 175) := Sem1.cI (fun h => W.iconst' d10_174 (by decide) h)
theorem q10_175 : Sem1 tables_1 KT μ10 175 (o_ldA 0 176) := Sem1.ldA_n d10_175 rfl
theorem q10_176 : Sem1 tables_1 KT μ10 176 (o_gF 2 1 179) := Sem1.gF d10_176 (host := "") (Or.inl (List.mem_of_getElem? (i := 87) rfl)) (Or.inl rfl) rfl rfl
theorem q10_179 : Sem1 tables_1 KT μ10 179 (o_bi 2 180) := Sem1.imul d10_179
theorem q10_180 : Sem1 tables_1 KT μ10 180 (o_cI 1 181) := Sem1.cI (fun h => W.iconst' d10_180 (by decide) h)
theorem q10_181 : Sem1 tables_1 KT μ10 181 (o_bi 0 182) := Sem1.iadd d10_181
theorem q10_182 : Sem1 tables_1 KT μ10 182 (o_iald 183) := Sem1.iald d10_182
theorem q10_199 : SemR tables_1 KT μ10 199 0 := SemR.v d10_199 rfl
theorem q10_200 : Sem1 tables_1 KT μ10 200 (o_jmp 0) := Sem1.jmp d10_200 (by decide) (by decide)
theorem q10_203 : SemR tables_1 KT μ10 203 0 := SemR.v d10_203 rfl
def T10 : Tr := (tr1 (tr1 (tr1 (tr1 (tr1 (tr1 (tr1 tr0 0 (.inl (o_ldA 0 1)) tr0) 1 (.inl (o_gF 2 1 4)) tr0) 4 (.inl (o_ldA 0 5)) (tr1 (tr1 tr0 5 (.inl (o_gF 2 0 8)) tr0) 8 (.inl (o_gF 1 0 11)) tr0)) 11 (.inl (o_gF 0 3 14)) (tr1 (tr1 (tr1 tr0 14 (.inl (o_icmp .ge 203 17)) tr0) 17 (.inl (o_ldA 0 18)) tr0) 18 (.inl (o_gF 2 2 21)) (tr1 (tr1 tr0 21 (.inl (o_ldA 0 22)) tr0) 22 (.inl (o_gF 2 3 25)) tr0))) 25 (.inl (o_icmp .gt 203 28)) (tr1 (tr1 (tr1 (tr1 tr0 28 (.inl (o_cI 2 29)) tr0) 29 (.inl (o_ldA 0 30)) tr0) 30 (.inl (o_gF 2 1 33)) (tr1 (tr1 tr0 33 (.inl (o_bi 2 34)) tr0) 34 (.inl (o_stI 1 35)) tr0)) 35 (.inl (o_ldA 0 36)) (tr1 (tr1 (tr1 tr0 36 (.inl (o_gF 2 0 39)) tr0) 39 (.inl (o_gF 1 0 42)) tr0) 42 (.inl (o_gF 0 4 45)) (tr1 (tr1 tr0 45 (.inl (o_ldI 1 46)) tr0) 46 (.inl (o_iald 47)) tr0)))) 47 (.inl (o_ifc .ge 60 50)) (tr1 (tr1 (tr1 (tr1 (tr1 tr0 50 (.inl (o_ldA 0 51)) tr0) 51 (.inl (o_ldI 1 52)) tr0) 52 (.inl (o_cI 1 53)) (tr1 (tr1 tr0 53 (.inl (o_bi 0 54)) tr0) 54 (.inl (o_pF 2 1 0 57)) tr0)) 57 (.inl (o_jmp 200)) (tr1 (tr1 (tr1 tr0 60 (.inl (o_ldA 0 61)) tr0) 61 (.inl (o_gF 2 0 64)) tr0) 64 (.inl (o_gF 1 0 67)) (tr1 (tr1 tr0 67 (.inl (o_gF 0 4 70)) tr0) 70 (.inl (o_ldI 1 71)) tr0))) 71 (.inl (o_cI 1 72)) (tr1 (tr1 (tr1 (tr1 tr0 72 (.inl (o_bi 0 73)) tr0) 73 (.inl (o_iald 74)) tr0) 74 (.inl (o_ifc .ge 85 77)) (tr1 (tr1 tr0 77 (.inl (o_ldA 0 78)) tr0) 78 (.inl (o_ldI 1 79)) tr0)) 79 (.inl (o_pF 2 1 0 82)) (tr1 (tr1 (tr1 tr0 82 (.inl (o_jmp 200)) tr0) 85 (.inl (o_ldA 0 86)) tr0) 86 (.inl (o_gF 2 3 89)) (tr1 (tr1 tr0 89 (.inl (o_ldA 0 90)) tr0) 90 (.inl (o_gF 2 0 93)) tr0))))) 93 (.inl (o_gF 1 4 96)) (tr1 (tr1 (tr1 (tr1 (tr1 (tr1 tr0 96 (.inl (o_cI 2 97)) tr0) 97 (.inl (o_ldA 0 98)) tr0) 98 (.inl (o_gF 2 1 101)) (tr1 (tr1 tr0 101 (.inl (o_bi 2 102)) tr0) 102 (.inl (o_cI 1 103)) tr0)) 103 (.inl (o_bi 0 104)) (tr1 (tr1 (tr1 tr0 104 (.inl (o_iald 105)) tr0) 105 (.inl (o_icmp .ge 141 108)) tr0) 108 (.inl (o_ldA 0 109)) (tr1 (tr1 tr0 109 (.inl (o_ldA 0 110)) tr0) 110 (.inl (o_gF 2 3 113)) tr0))) 113 (.inl (o_ldA 0 114)) (tr1 (tr1 (tr1 (tr1 tr0 114 (.inl (o_gF 2 0 117)) tr0) 117 (.inl (o_gF 1 4 120)) tr0) 120 (.inl (o_cI 2 121)) (tr1 (tr1 tr0 121 (.inl (o_ldA 0 122)) tr0) 122 (.inl (o_gF 2 1 125)) tr0)) 125 (.inl (o_bi 2 126)) (tr1 (tr1 (tr1 tr0 126 (.inl (o_iald 127)) tr0) 141 (.inl (o_ldA 0 142)) tr0) 142 (.inl (o_gF 2 2 145)) (tr1 (tr1 tr0 145 (.inl (o_ldA 0 146)) tr0) 146 (.inl (o_gF 2 0 149)) tr0)))) 149 (.inl (o_gF 1 4 152)) (tr1 (tr1 (tr1 (tr1 (tr1 tr0 152 (.inl (o_cI 2 153)) tr0) 153 (.inl (o_ldA 0 154)) tr0) 154 (.inl (o_gF 2 1 157)) (tr1 (tr1 tr0 157 (.inl (o_bi 2 158)) tr0) 158 (.inl (o_iald 159)) tr0)) 159 (.inl (o_icmp .le 199 162)) (tr1 (tr1 (tr1 tr0 162 (.inl (o_ldA 0 163)) tr0) 163 (.inl (o_ldA 0 164)) tr0) 164 (.inl (o_gF 2 2 167)) (tr1 (tr1 tr0 167 (.inl (o_ldA 0 168)) tr0) 168 (.inl (o_gF 2 0 171)) tr0))) 171 (.inl (o_gF 1 4 174)) (tr1 (tr1 (tr1 (tr1 tr0 174 (.inl (o_cI 2 175)) tr0) 175 (.inl (o_ldA 0 176)) tr0) 176 (.inl (o_gF 2 1 179)) (tr1 (tr1 tr0 179 (.inl (o_bi 2 180)) tr0) 180 (.inl (o_cI 1 181)) tr0)) 181 (.inl (o_bi 0 182)) (tr1 (tr1 (tr1 tr0 182 (.inl (o_iald 183)) tr0) 199 (.inr (.inr 0)) tr0) 200 (.inl (o_jmp 0)) (tr1 tr0 203 (.inr (.inr 0)) tr0))))))
theorem a10 : TrAll (SemO tables_1 KT MS μ10) T10 := (all_n (all_n (all_n (all_n (all_n (all_n (all_n all_e q10_0 all_e) q10_1 all_e) q10_4 (all_n (all_n all_e q10_5 all_e) q10_8 all_e)) q10_11 (all_n (all_n (all_n all_e q10_14 all_e) q10_17 all_e) q10_18 (all_n (all_n all_e q10_21 all_e) q10_22 all_e))) q10_25 (all_n (all_n (all_n (all_n all_e q10_28 all_e) q10_29 all_e) q10_30 (all_n (all_n all_e q10_33 all_e) q10_34 all_e)) q10_35 (all_n (all_n (all_n all_e q10_36 all_e) q10_39 all_e) q10_42 (all_n (all_n all_e q10_45 all_e) q10_46 all_e)))) q10_47 (all_n (all_n (all_n (all_n (all_n all_e q10_50 all_e) q10_51 all_e) q10_52 (all_n (all_n all_e q10_53 all_e) q10_54 all_e)) q10_57 (all_n (all_n (all_n all_e q10_60 all_e) q10_61 all_e) q10_64 (all_n (all_n all_e q10_67 all_e) q10_70 all_e))) q10_71 (all_n (all_n (all_n (all_n all_e q10_72 all_e) q10_73 all_e) q10_74 (all_n (all_n all_e q10_77 all_e) q10_78 all_e)) q10_79 (all_n (all_n (all_n all_e q10_82 all_e) q10_85 all_e) q10_86 (all_n (all_n all_e q10_89 all_e) q10_90 all_e))))) q10_93 (all_n (all_n (all_n (all_n (all_n (all_n all_e q10_96 all_e) q10_97 all_e) q10_98 (all_n (all_n all_e q10_101 all_e) q10_102 all_e)) q10_103 (all_n (all_n (all_n all_e q10_104 all_e) q10_105 all_e) q10_108 (all_n (all_n all_e q10_109 all_e) q10_110 all_e))) q10_113 (all_n (all_n (all_n (all_n all_e q10_114 all_e) q10_117 all_e) q10_120 (all_n (all_n all_e q10_121 all_e) q10_122 all_e)) q10_125 (all_n (all_n (all_n all_e q10_126 all_e) q10_141 all_e) q10_142 (all_n (all_n all_e q10_145 all_e) q10_146 all_e)))) q10_149 (all_n (all_n (all_n (all_n (all_n all_e q10_152 all_e) q10_153 all_e) q10_154 (all_n (all_n all_e q10_157 all_e) q10_158 all_e)) q10_159 (all_n (all_n (all_n all_e q10_162 all_e) q10_163 all_e) q10_164 (all_n (all_n all_e q10_167 all_e) q10_168 all_e))) q10_171 (all_n (all_n (all_n (all_n all_e q10_174 all_e) q10_175 all_e) q10_176 (all_n (all_n all_e q10_179 all_e) q10_180 all_e)) q10_181 (all_n (all_n (all_n all_e q10_182 all_e) q10_199 all_e) q10_200 (all_n all_e q10_203 all_e))))))
abbrev R10 : Room := ⟨0, 0, 0, 0⟩
theorem d11_0 : decode prog_15_method_3_code 0 = .ok (.aload_n 0, 1) := by decide +kernel
theorem d11_1 : decode prog_15_method_3_code 1 = .ok (.getfield 13, 3) := by decide +kernel
theorem d11_4 : decode prog_15_method_3_code 4 = .ok (.aload_n 0, 1) := by decide +kernel
theorem d11_5 : decode prog_15_method_3_code 5 = .ok (.getfield 1, 3) := by decide +kernel
theorem d11_8 : decode prog_15_method_3_code 8 = .ok (.getfield 26, 3) := by decide +kernel
theorem d11_11 : decode prog_15_method_3_code 11 = .ok (.getfield 32, 3) := by decide +kernel
theorem d11_14 : decode prog_15_method_3_code 14 = .ok (.if_icmp .lt 7, 3) := by decide +kernel
theorem d11_17 : decode prog_15_method_3_code 17 = .ok (.iconst 1, 1) := by decide +kernel
theorem d11_18 : decode prog_15_method_3_code 18 = .ok (.goto 4, 3) := by decide +kernel
theorem d11_21 : decode prog_15_method_3_code 21 = .ok (.iconst 0, 1) := by decide +kernel
theorem d11_22 : decode prog_15_method_3_code 22 = .ok (.ireturn, 1) := by decide +kernel
theorem q11_0 : Sem1 tables_1 KT μ11 0 (o_ldA 0 1) := Sem1.ldA_n d11_0 rfl
theorem q11_1 : Sem1 tables_1 KT μ11 1 (o_gF 2 1 4) := Sem1.gF d11_1 (host := "") (Or.inl (List.mem_of_getElem? (i := 87) rfl)) (Or.inl rfl) rfl rfl
theorem q11_4 : Sem1 tables_1 KT μ11 4 (o_ldA 0 5) := Sem1.ldA_n d11_4 rfl
theorem q11_5 : Sem1 tables_1 KT μ11 5 (o_gF 2 0 8) := Sem1.gF d11_5 (host := "") (Or.inl (List.mem_of_getElem? (i := 53) rfl)) (Or.inl rfl) rfl rfl
theorem q11_8 : Sem1 tables_1 KT μ11 8 (o_gF 1 0 11) := Sem1.gF d11_8 (host := "") (Or.inl (List.mem_of_getElem? (i := 97) rfl)) (Or.inl rfl) rfl rfl
theorem q11_11 : Sem1 tables_1 KT μ11 11 (o_gF 0 3 14) := Sem1.gF d11_11 (Or.inr (List.mem_of_getElem? (i := 98) rfl)) (Or.inl rfl) rfl rfl
theorem q11_14 : Sem1 tables_1 KT μ11 14 (o_icmp .lt 21 17) := Sem1.icmp d11_14 (by decide) (by decide)
theorem q11_17 : Sem1 tables_1 KT μ11 17 (o_cI 1 18) := Sem1.cI (fun h => W.iconst' d11_17 (by decide) h)
theorem q11_18 : Sem1 tables_1 KT μ11 18 (o_jmp 22) := Sem1.jmp d11_18 (by decide) (by decide)
theorem q11_21 : Sem1 tables_1 KT μ11 21 (o_cI 0 22) := Sem1.cI (fun h => W.iconst' d11_21 (by decide) h)
theorem q11_22 : SemR tables_1 KT μ11 22 2 := SemR.z d11_22 rfl
def T11 : Tr := (tr1 (tr1 (tr1 (tr1 tr0 0 (.inl (o_ldA 0 1)) tr0) 1 (.inl (o_gF 2 1 4)) tr0) 4 (.inl (o_ldA 0 5)) (tr1 (tr1 tr0 5 (.inl (o_gF 2 0 8)) tr0) 8 (.inl (o_gF 1 0 11)) tr0)) 11 (.inl (o_gF 0 3 14)) (tr1 (tr1 (tr1 tr0 14 (.inl (o_icmp .lt 21 17)) tr0) 17 (.inl (o_cI 1 18)) tr0) 18 (.inl (o_jmp 22)) (tr1 (tr1 tr0 21 (.inl (o_cI 0 22)) tr0) 22 (.inr (.inr 2)) tr0)))
theorem a11 : TrAll (SemO tables_1 KT MS μ11) T11 := (all_n (all_n (all_n (all_n all_e q11_0 all_e) q11_1 all_e) q11_4 (all_n (all_n all_e q11_5 all_e) q11_8 all_e)) q11_11 (all_n (all_n (all_n all_e q11_14 all_e) q11_17 all_e) q11_18 (all_n (all_n all_e q11_21 all_e) q11_22 all_e)))
abbrev R11 : Room := ⟨0, 0, 0, 0⟩
theorem d12_0 : decode prog_15_method_4_code 0 = .ok (.aload_n 0, 1) := by decide +kernel
theorem d12_1 : decode prog_15_method_4_code 1 = .ok (.getfield 13, 3) := by decide +kernel
theorem d12_4 : decode prog_15_method_4_code 4 = .ok (.aload_n 0, 1) := by decide +kernel
theorem d12_5 : decode prog_15_method_4_code 5 = .ok (.getfield 1, 3) := by decide +kernel
theorem d12_8 : decode prog_15_method_4_code 8 = .ok (.getfield 26, 3) := by decide +kernel
theorem d12_11 : decode prog_15_method_4_code 11 = .ok (.getfield 32, 3) := by decide +kernel
theorem d12_14 : decode prog_15_method_4_code 14 = .ok (.isub, 1) := by decide +kernel
theorem d12_15 : decode prog_15_method_4_code 15 = .ok (.ireturn, 1) := by decide +kernel
theorem q12_0 : Sem1 tables_1 KT μ12 0 (o_ldA 0 1) := Sem1.ldA_n d12_0 rfl
theorem q12_1 : Sem1 tables_1 KT μ12 1 (o_gF 2 1 4) := Sem1.gF d12_1 (host := "") (Or.inl (List.mem_of_getElem? (i := 87) rfl)) (Or.inl rfl) rfl rfl
theorem q12_4 : Sem1 tables_1 KT μ12 4 (o_ldA 0 5) := Sem1.ldA_n d12_4 rfl
theorem q12_5 : Sem1 tables_1 KT μ12 5 (o_gF 2 0 8) := Sem1.gF d12_5 (host := "") (Or.inl (List.mem_of_getElem? (i := 53) rfl)) (Or.inl rfl) rfl rfl
theorem q12_8 : Sem1 tables_1 KT μ12 8 (o_gF 1 0 11) := Sem1.gF d12_8 (host := "") (Or.inl (List.mem_of_getElem? (i := 97) rfl)) (Or.inl rfl) rfl rfl
theorem q12_11 : Sem1 tables_1 KT μ12 11 (o_gF 0 3 14) := Sem1.gF d12_11 (Or.inr (List.mem_of_getElem? (i := 98) rfl)) (Or.inl rfl) rfl rfl
theorem q12_14 : Sem1 tables_1 KT μ12 14 (o_bi 1 15) := Sem1.isub d12_14
theorem q12_15 : SemR tables_1 KT μ12 15 1 := SemR.i d12_15 rfl
def T12 : Tr := (tr1 (tr1 (tr1 (tr1 tr0 0 (.inl (o_ldA 0 1)) tr0) 1 (.inl (o_gF 2 1 4)) tr0) 4 (.inl (o_ldA 0 5)) (tr1 tr0 5 (.inl (o_gF 2 0 8)) tr0)) 8 (.inl (o_gF 1 0 11)) (tr1 (tr1 tr0 11 (.inl (o_gF 0 3 14)) tr0) 14 (.inl (o_bi 1 15)) (tr1 tr0 15 (.inr (.inr 1)) tr0)))
theorem a12 : TrAll (SemO tables_1 KT MS μ12) T12 := (all_n (all_n (all_n (all_n all_e q12_0 all_e) q12_1 all_e) q12_4 (all_n all_e q12_5 all_e)) q12_8 (all_n (all_n all_e q12_11 all_e) q12_14 (all_n all_e q12_15 all_e)))
abbrev R12 : Room := ⟨0, 0, 0, 0⟩
theorem d13_0 : decode prog_15_method_5_code 0 = .ok (.aload_n 0, 1) := by decide +kernel
theorem d13_1 : decode prog_15_method_5_code 1 = .ok (.getfield 1, 3) := by decide +kernel
theorem d13_4 : decode prog_15_method_5_code 4 = .ok (.getfield 37, 3) := by decide +kernel
theorem d13_7 : decode prog_15_method_5_code 7 = .ok (.iconst 2, 1) := by decide +kernel
theorem d13_8 : decode prog_15_method_5_code 8 = .ok (.aload_n 0, 1) := by decide +kernel
theorem d13_9 : decode prog_15_method_5_code 9 = .ok (.getfield 13, 3) := by decide +kernel
theorem d13_12 : decode prog_15_method_5_code 12 = .ok (.imul, 1) := by decide +kernel
theorem d13_13 : decode prog_15_method_5_code 13 = .ok (.iaload, 1) := by decide +kernel
theorem d13_14 : decode prog_15_method_5_code 14 = .ok (.ireturn, 1) := by decide +kernel
theorem q13_0 : Sem1 tables_1 KT μ13 0 (o_ldA 0 1) := Sem1.ldA_n d13_0 rfl
theorem q13_1 : Sem1 tables_1 KT μ13 1 (o_gF 2 0 4) := Sem1.gF d13_1 (host := "") (Or.inl (List.mem_of_getElem? (i := 53) rfl)) (Or.inl rfl) rfl rfl
theorem q13_4 : Sem1 tables_1 KT μ13 4 (o_gF 1 4 7) := Sem1.gF d13_4 (Or.inr (List.mem_of_getElem? (i := 112) rfl)) (Or.inl rfl) rfl rfl
theorem q13_7 : Sem1 tables_1 KT μ13 7 (o_cI 2 8) := Sem1.cI (fun h => W.iconst' d13_7 (by decide) h)
theorem q13_8 : Sem1 tables_1 KT μ13 8 (o_ldA 0 9) := Sem1.ldA_n d13_8 rfl
theorem q13_9 : Sem1 tables_1 KT μ13 9 (o_gF 2 1 12) := Sem1.gF d13_9 (host := "") (Or.inl (List.mem_of_getElem? (i := 87) rfl)) (Or.inl rfl) rfl rfl
theorem q13_12 : Sem1 tables_1 KT μ13 12 (o_bi 2 13) := Sem1.imul d13_12
theorem q13_13 : Sem1 tables_1 KT μ13 13 (o_iald 14) := Sem1.iald d13_13
theorem q13_14 : SemR tables_1 KT μ13 14 1 := SemR.i d13_14 rfl
def T13 : Tr := (tr1 (tr1 (tr1 (tr1 tr0 0 (.inl (o_ldA 0 1)) tr0) 1 (.inl (o_gF 2 0 4)) tr0) 4 (.inl (o_gF 1 4 7)) (tr1 tr0 7 (.inl (o_cI 2 8)) tr0)) 8 (.inl (o_ldA 0 9)) (tr1 (tr1 (tr1 tr0 9 (.inl (o_gF 2 1 12)) tr0) 12 (.inl (o_bi 2 13)) tr0) 13 (.inl (o_iald 14)) (tr1 tr0 14 (.inr (.inr 1)) tr0)))
theorem a13 : TrAll (SemO tables_1 KT MS μ13) T13 := (all_n (all_n (all_n (all_n all_e q13_0 all_e) q13_1 all_e) q13_4 (all_n all_e q13_7 all_e)) q13_8 (all_n (all_n (all_n all_e q13_9 all_e) q13_12 all_e) q13_13 (all_n all_e q13_14 all_e)))
abbrev R13 : Room := ⟨0, 0, 0, 0⟩
theorem d14_0 : decode prog_15_method_6_code 0 = .ok (.aload_n 0, 1) := by decide +kernel
theorem d14_1 : decode prog_15_method_6_code 1 = .ok (.getfield 1, 3) := by decide +kernel
theorem d14_4 : decode prog_15_method_6_code 4 = .ok (.getfield 37, 3) := by decide +kernel
theorem d14_7 : decode prog_15_method_6_code 7 = .ok (.iconst 2, 1) := by decide +kernel
theorem d14_8 : decode prog_15_method_6_code 8 = .ok (.aload_n 0, 1) := by decide +kernel
theorem d14_9 : decode prog_15_method_6_code 9 = .ok (.getfield 13, 3) := by decide +kernel
theorem d14_12 : decode prog_15_method_6_code 12 = .ok (.imul, 1) := by decide +kernel
theorem d14_13 : decode prog_15_method_6_code 13 = .ok (.iconst 1, 1) := by decide +kernel
theorem d14_14 : decode prog_15_method_6_code 14 = .ok (.iadd, 1) := by decide +kernel
theorem d14_15 : decode prog_15_method_6_code 15 = .ok (.iaload, 1) := by decide +kernel
theorem d14_16 : decode prog_15_method_6_code 16 = .ok (.ireturn, 1) := by decide +kernel
theorem q14_0 : Sem1 tables_1 KT μ14 0 (o_ldA 0 1) := Sem1.ldA_n d14_0 rfl
theorem q14_1 : Sem1 tables_1 KT μ14 1 (o_gF 2 0 4) := Sem1.gF d14_1 (host := "") (Or.inl (List.mem_of_getElem? (i := 53) rfl)) (Or.inl rfl) rfl rfl
theorem q14_4 : Sem1 tables_1 KT μ14 4 (o_gF 1 4 7) := Sem1.gF d14_4 (Or.inr (List.mem_of_getElem? (i := 112) rfl)) (Or.inl rfl) rfl rfl
theorem q14_7 : Sem1 tables_1 KT μ14 7 (o_cI 2 8) := Sem1.cI (fun h => W.iconst' d14_7 (by decide) h)
theorem q14_8 : Sem1 tables_1 KT μ14 8 (o_ldA 0 9) := Sem1.ldA_n d14_8 rfl
theorem q14_9 : Sem1 tables_1 KT μ14 9 (o_gF 2 1 12) := Sem1.gF d14_9 (host := "") (Or.inl (List.mem_of_getElem? (i := 87) rfl)) (Or.inl rfl) rfl rfl
theorem q14_12 : Sem1 tables_1 KT μ14 12 (o_bi 2 13) := Sem1.imul d14_12
theorem q14_13 : Sem1 tables_1 KT μ14 13 (o_cI 1 14) := Sem1.cI (fun h => W.iconst' d14_13 (by decide) h)
theorem q14_14 : Sem1 tables_1 KT μ14 14 (o_bi 0 15) := Sem1.iadd d14_14
theorem q14_15 : Sem1 tables_1 KT μ14 15 (o_iald 16) := Sem1.iald d14_15
theorem q14_16 : SemR tables_1 KT μ14 16 1 := SemR.i d14_16 rfl
def T14 : Tr := (tr1 (tr1 (tr1 (tr1 tr0 0 (.inl (o_ldA 0 1)) tr0) 1 (.inl (o_gF 2 0 4)) tr0) 4 (.inl (o_gF 1 4 7)) (tr1 (tr1 tr0 7 (.inl (o_cI 2 8)) tr0) 8 (.inl (o_ldA 0 9)) tr0)) 9 (.inl (o_gF 2 1 12)) (tr1 (tr1 (tr1 tr0 12 (.inl (o_bi 2 13)) tr0) 13 (.inl (o_cI 1 14)) tr0) 14 (.inl (o_bi 0 15)) (tr1 (tr1 tr0 15 (.inl (o_iald 16)) tr0) 16 (.inr (.inr 1)) tr0)))
theorem a14 : TrAll (SemO tables_1 KT MS μ14) T14 := (all_n (all_n (all_n (all_n all_e q14_0 all_e) q14_1 all_e) q14_4 (all_n (all_n all_e q14_7 all_e) q14_8 all_e)) q14_9 (all_n (all_n (all_n all_e q14_12 all_e) q14_13 all_e) q14_14 (all_n (all_n all_e q14_15 all_e) q14_16 all_e)))
abbrev R14 : Room := ⟨0, 0, 0, 0⟩
theorem d15_0 : decode prog_14_method_7_code 0 = .ok (.aload_n 0, 1) := by decide +kernel
theorem d15_1 : decode prog_14_method_7_code 1 = .ok (.iload_n 3, 1) := by decide +kernel
theorem d15_2 : decode prog_14_method_7_code 2 = .ok (.invokevirtual 105, 3) := by decide +kernel
theorem d15_5 : decode prog_14_method_7_code 5 = .ok (.aload_n 0, 1) := by decide +kernel
theorem d15_6 : decode prog_14_method_7_code 6 = .ok (.iload_n 2, 1) := by decide +kernel
theorem d15_7 : decode prog_14_method_7_code 7 = .ok (.invokevirtual 105, 3) := by decide +kernel
theorem d15_10 : decode prog_14_method_7_code 10 = .ok (.lsub, 1) := by decide +kernel
theorem d15_11 : decode prog_14_method_7_code 11 = .ok (.aload_n 0, 1) := by decide +kernel
theorem d15_12 : decode prog_14_method_7_code 12 = .ok (.iload_n 1, 1) := by decide +kernel
theorem d15_13 : decode prog_14_method_7_code 13 = .ok (.invokevirtual 109, 3) := by decide +kernel
theorem d15_16 : decode prog_14_method_7_code 16 = .ok (.aload_n 0, 1) := by decide +kernel
theorem d15_17 : decode prog_14_method_7_code 17 = .ok (.iload_n 2, 1) := by decide +kernel
theorem d15_18 : decode prog_14_method_7_code 18 = .ok (.invokevirtual 109, 3) := by decide +kernel
theorem d15_21 : decode prog_14_method_7_code 21 = .ok (.lsub, 1) := by decide +kernel
theorem d15_22 : decode prog_14_method_7_code 22 = .ok (.lmul, 1) := by decide +kernel
theorem d15_23 : decode prog_14_method_7_code 23 = .ok (.aload_n 0, 1) := by decide +kernel
theorem d15_24 : decode prog_14_method_7_code 24 = .ok (.iload_n 3, 1) := by decide +kernel
theorem d15_25 : decode prog_14_method_7_code 25 = .ok (.invokevirtual 109, 3) := by decide +kernel
theorem d15_28 : decode prog_14_method_7_code 28 = .ok (.aload_n 0, 1) := by decide +kernel
theorem d15_29 : decode prog_14_method_7_code 29 = .ok (.iload_n 2, 1) := by decide +kernel
theorem d15_30 : decode prog_14_method_7_code 30 = .ok (.invokevirtual 109, 3) := by decide +kernel
theorem d15_33 : decode prog_14_method_7_code 33 = .ok (.lsub, 1) := by decide +kernel
theorem d15_34 : decode prog_14_method_7_code 34 = .ok (.aload_n 0, 1) := by decide +kernel
theorem d15_35 : decode prog_14_method_7_code 35 = .ok (.iload_n 1, 1) := by decide +kernel
theorem d15_36 : decode prog_14_method_7_code 36 = .ok (.invokevirtual 105, 3) := by decide +kernel
theorem d15_39 : decode prog_14_method_7_code 39 = .ok (.aload_n 0, 1) := by decide +kernel
theorem d15_40 : decode prog_14_method_7_code 40 = .ok (.iload_n 2, 1) := by decide +kernel
theorem d15_41 : decode prog_14_method_7_code 41 = .ok (.invokevirtual 105, 3) := by decide +kernel
theorem d15_44 : decode prog_14_method_7_code 44 = .ok (.lsub, 1) := by decide +kernel
theorem d15_45 : decode prog_14_method_7_code 45 = .ok (.lmul, 1) := by decide +kernel
theorem d15_46 : decode prog_14_method_7_code 46 = .ok (.lsub, 1) := by decide +kernel
theorem d15_47 : decode prog_14_method_7_code 47 = .ok (.lconst 0, 1) := by decide +kernel
theorem d15_48 : decode prog_14_method_7_code 48 = .ok (.lcmp, 1) := by decide +kernel
theorem d15_49 : decode prog_14_method_7_code 49 = .ok (.ifCond .le 7, 3) := by decide +kernel
theorem d15_52 : decode prog_14_method_7_code 52 = .ok (.iconst 1, 1) := by decide +kernel
theorem d15_53 : decode prog_14_method_7_code 53 = .ok (.goto 4, 3) := by decide +kernel
theorem d15_56 : decode prog_14_method_7_code 56 = .ok (.iconst 0, 1) := by decide +kernel
theorem d15_57 : decode prog_14_method_7_code 57 = .ok (.ireturn, 1) := by decide +kernel
theorem q15_0 : Sem1 tables_1 KT μ15 0 (o_ldA 0 1) := Sem1.ldA_n d15_0 rfl
theorem q15_1 : Sem1 tables_1 KT μ15 1 (o_ldI 3 2) := Sem1.ldI_n d15_1 rfl
theorem q15_2 : SemC tables_1 KT μ15 μ16 2 2 3 5 := SemC.P (c := 1) d15_2 (List.mem_of_getElem? (i := 127) rfl) (List.mem_of_getElem? (i := 129) rfl) kt (List.mem_of_getElem? (i := 128) rfl) (List.mem_of_getElem? (i := 40) rfl) (List.mem_of_getElem? (i := 130) rfl) (by decide) rfl rfl pd13 rfl
theorem q15_5 : Sem1 tables_1 KT μ15 5 (o_ldA 0 6) := Sem1.ldA_n d15_5 rfl
theorem q15_6 : Sem1 tables_1 KT μ15 6 (o_ldI 2 7) := Sem1.ldI_n d15_6 rfl
theorem q15_7 : SemC tables_1 KT μ15 μ16 7 2 3 10 := SemC.P (c := 1) d15_7 (List.mem_of_getElem? (i := 127) rfl) (List.mem_of_getElem? (i := 129) rfl) kt (List.mem_of_getElem? (i := 128) rfl) (List.mem_of_getElem? (i := 40) rfl) (List.mem_of_getElem? (i := 130) rfl) (by decide) rfl rfl pd13 rfl
theorem q15_10 : Sem1 tables_1 KT μ15 10 (o_bl 1 11) := Sem1.lsub d15_10
theorem q15_11 : Sem1 tables_1 KT μ15 11 (o_ldA 0 12) := Sem1.ldA_n d15_11 rfl
theorem q15_12 : Sem1 tables_1 KT μ15 12 (o_ldI 1 13) := Sem1.ldI_n d15_12 rfl
theorem q15_13 : SemC tables_1 KT μ15 μ17 13 2 3 16 := SemC.P (c := 1) d15_13 (List.mem_of_getElem? (i := 131) rfl) (List.mem_of_getElem? (i := 133) rfl) kt (List.mem_of_getElem? (i := 132) rfl) (List.mem_of_getElem? (i := 40) rfl) (List.mem_of_getElem? (i := 134) rfl) (by decide) rfl rfl pd13 rfl
theorem q15_16 : Sem1 tables_1 KT μ15 16 (o_ldA 0 17) := Sem1.ldA_n d15_16 rfl
theorem q15_17 : Sem1 tables_1 KT μ15 17 (o_ldI 2 18) := Sem1.ldI_n d15_17 rfl
theorem q15_18 : SemC tables_1 KT μ15 μ17 18 2 3 21 := SemC.P (c := 1) d15_18 (List.mem_of_getElem? (i := 131) rfl) (List.mem_of_getElem? (i := 133) rfl) kt (List.mem_of_getElem? (i := 132) rfl) (List.mem_of_getElem? (i := 40) rfl) (List.mem_of_getElem? (i := 134) rfl) (by decide) rfl rfl pd13 rfl
theorem q15_21 : Sem1 tables_1 KT μ15 21 (o_bl 1 22) := Sem1.lsub d15_21
theorem q15_22 : Sem1 tables_1 KT μ15 22 (o_bl 2 23) := Sem1.lmul d15_22
theorem q15_23 : Sem1 tables_1 KT μ15 23 (o_ldA 0 24) := Sem1.ldA_n d15_23 rfl
theorem q15_24 : Sem1 tables_1 KT μ15 24 (o_ldI 3 25) := Sem1.ldI_n d15_24 rfl
theorem q15_25 : SemC tables_1 KT μ15 μ17 25 2 3 28 := SemC.P (c := 1) d15_25 (List.mem_of_getElem? (i := 131) rfl) (List.mem_of_getElem? (i := 133) rfl) kt (List.mem_of_getElem? (i := 132) rfl) (List.mem_of_getElem? (i := 40) rfl) (List.mem_of_getElem? (i := 134) rfl) (by decide) rfl rfl pd13 rfl
theorem q15_28 : Sem1 tables_1 KT μ15 28 (o_ldA 0 29) := Sem1.ldA_n d15_28 rfl
theorem q15_29 : Sem1 tables_1 KT μ15 29 (o_ldI 2 30) := Sem1.ldI_n d15_29 rfl
theorem q15_30 : SemC tables_1 KT μ15 μ17 30 2 3 33 := SemC.P (c := 1) d15_30 (List.mem_of_getElem? (i := 131) rfl) (List.mem_of_getElem? (i := 133) rfl) kt (List.mem_of_getElem? (i := 132) rfl) (List.mem_of_getElem? (i := 40) rfl) (List.mem_of_getElem? (i := 134) rfl) (by decide) rfl rfl pd13 rfl
theorem q15_33 : Sem1 tables_1 KT μ15 33 (o_bl 1 34) := Sem1.lsub d15_33
theorem q15_34 : Sem1 tables_1 KT μ15 34 (o_ldA 0 35) := Sem1.ldA_n d15_34 rfl
theorem q15_35 : Sem1 tables_1 KT μ15 35 (o_ldI 1 36) := Sem1.ldI_n d15_35 rfl
theorem q15_36 : SemC tables_1 KT μ15 μ16 36 2 3 39 := SemC.P (c := 1) d15_36 (List.mem_of_getElem? (i := 127) rfl) (List.mem_of_getElem? (i := 129) rfl) kt (List.mem_of_getElem? (i := 128) rfl) (List.mem_of_getElem? (i := 40) rfl) (List.mem_of_getElem? (i := 130) rfl) (by decide) rfl rfl pd13 rfl
theorem q15_39 : Sem1 tables_1 KT μ15 39 (o_ldA 0 40) := Sem1.ldA_n d15_39 rfl
theorem q15_40 : Sem1 tables_1 KT μ15 40 (o_ldI 2 41) := Sem1.ldI_n d15_40 rfl
theorem q15_41 : SemC tables_1 KT μ15 μ16 41 2 3 44 := SemC.P (c := 1) d15_41 (List.mem_of_getElem? (i := 127) rfl) (List.mem_of_getElem? (i := 129) rfl) kt (List.mem_of_getElem? (i := 128) rfl) (List.mem_of_getElem? (i := 40) rfl) (List.mem_of_getElem? (i := 130) rfl) (by decide) rfl rfl pd13 rfl
theorem q15_44 : Sem1 tables_1 KT μ15 44 (o_bl 1 45) := Sem1.lsub d15_44
theorem q15_45 : Sem1 tables_1 KT μ15 45 (o_bl 2 46) := Sem1.lmul d15_45
theorem q15_46 : Sem1 tables_1 KT μ15 46 (o_bl 1 47) := Sem1.lsub d15_46
theorem q15_47 : Sem1 tables_1 KT μ15 47 (o_cL 0 48) := Sem1.cL (x := 0) (by decide) (fun h => W.lconst' d15_47 (by decide) h)
theorem q15_48 : Sem1 tables_1 KT μ15 48 (o_lcif .le 56 52) := Sem1.lcif d15_48 rfl d15_49 (by decide) (by decide)
theorem q15_52 : Sem1 tables_1 KT μ15 52 (o_cI 1 53) := Sem1.cI (fun h => W.iconst' d15_52 (by decide) h)
theorem q15_53 : Sem1 tables_1 KT μ15 53 (o_jmp 57) := Sem1.jmp d15_53 (by decide) (by decide)
theorem q15_56 : Sem1 tables_1 KT μ15 56 (o_cI 0 57) := Sem1.cI (fun h => W.iconst' d15_56 (by decide) h)
theorem q15_57 : SemR tables_1 KT μ15 57 2 := SemR.z d15_57 rfl
def T15 : Tr := (tr1 (tr1 (tr1 (tr1 (tr1 (tr1 tr0 0 (.inl (o_ldA 0 1)) tr0) 1 (.inl (o_ldI 3 2)) tr0) 2 (.inr (.inl (16, 2, 3, 5))) (tr1 tr0 5 (.inl (o_ldA 0 6)) tr0)) 6 (.inl (o_ldI 2 7)) (tr1 (tr1 (tr1 tr0 7 (.inr (.inl (16, 2, 3, 10))) tr0) 10 (.inl (o_bl 1 11)) tr0) 11 (.inl (o_ldA 0 12)) (tr1 tr0 12 (.inl (o_ldI 1 13)) tr0))) 13 (.inr (.inl (17, 2, 3, 16))) (tr1 (tr1 (tr1 (tr1 tr0 16 (.inl (o_ldA 0 17)) tr0) 17 (.inl (o_ldI 2 18)) tr0) 18 (.inr (.inl (17, 2, 3, 21))) (tr1 tr0 21 (.inl (o_bl 1 22)) tr0)) 22 (.inl (o_bl 2 23)) (tr1 (tr1 tr0 23 (.inl (o_ldA 0 24)) tr0) 24 (.inl (o_ldI 3 25)) (tr1 tr0 25 (.inr (.inl (17, 2, 3, 28))) tr0)))) 28 (.inl (o_ldA 0 29)) (tr1 (tr1 (tr1 (tr1 (tr1 tr0 29 (.inl (o_ldI 2 30)) tr0) 30 (.inr (.inl (17, 2, 3, 33))) tr0) 33 (.inl (o_bl 1 34)) (tr1 tr0 34 (.inl (o_ldA 0 35)) tr0)) 35 (.inl (o_ldI 1 36)) (tr1 (tr1 (tr1 tr0 36 (.inr (.inl (16, 2, 3, 39))) tr0) 39 (.inl (o_ldA 0 40)) tr0) 40 (.inl (o_ldI 2 41)) (tr1 tr0 41 (.inr (.inl (16, 2, 3, 44))) tr0))) 44 (.inl (o_bl 1 45)) (tr1 (tr1 (tr1 (tr1 tr0 45 (.inl (o_bl 2 46)) tr0) 46 (.inl (o_bl 1 47)) tr0) 47 (.inl (o_cL 0 48)) (tr1 tr0 48 (.inl (o_lcif .le 56 52)) tr0)) 52 (.inl (o_cI 1 53)) (tr1 (tr1 tr0 53 (.inl (o_jmp 57)) tr0) 56 (.inl (o_cI 0 57)) (tr1 tr0 57 (.inr (.inr 2)) tr0)))))
theorem a15 : TrAll (SemO tables_1 KT MS μ15) T15 := (all_n (all_n (all_n (all_n (all_n (all_n all_e q15_0 all_e) q15_1 all_e) (SemO.call ms16 q15_2) (all_n all_e q15_5 all_e)) q15_6 (all_n (all_n (all_n all_e (SemO.call ms16 q15_7) all_e) q15_10 all_e) q15_11 (all_n all_e q15_12 all_e))) (SemO.call ms17 q15_13) (all_n (all_n (all_n (all_n all_e q15_16 all_e) q15_17 all_e) (SemO.call ms17 q15_18) (all_n all_e q15_21 all_e)) q15_22 (all_n (all_n all_e q15_23 all_e) q15_24 (all_n all_e (SemO.call ms17 q15_25) all_e)))) q15_28 (all_n (all_n (all_n (all_n (all_n all_e q15_29 all_e) (SemO.call ms17 q15_30) all_e) q15_33 (all_n all_e q15_34 all_e)) q15_35 (all_n (all_n (all_n all_e (SemO.call ms16 q15_36) all_e) q15_39 all_e) q15_40 (all_n all_e (SemO.call ms16 q15_41) all_e))) q15_44 (all_n (all_n (all_n (all_n all_e q15_45 all_e) q15_46 all_e) q15_47 (all_n all_e q15_48 all_e)) q15_52 (all_n (all_n all_e q15_53 all_e) q15_56 (all_n all_e q15_57 all_e)))))
abbrev R15 : Room := ⟨1, 0, 0, 19⟩
theorem d16_0 : decode prog_14_method_9_code 0 = .ok (.aload_n 0, 1) := by decide +kernel
theorem d16_1 : decode prog_14_method_9_code 1 = .ok (.getfield 1, 3) := by decide +kernel
theorem d16_4 : decode prog_14_method_9_code 4 = .ok (.getfield 89, 3) := by decide +kernel
theorem d16_7 : decode prog_14_method_9_code 7 = .ok (.iconst 2, 1) := by decide +kernel
theorem d16_8 : decode prog_14_method_9_code 8 = .ok (.iload_n 1, 1) := by decide +kernel
theorem d16_9 : decode prog_14_method_9_code 9 = .ok (.imul, 1) := by decide +kernel
theorem d16_10 : decode prog_14_method_9_code 10 = .ok (.laload, 1) := by decide +kernel
theorem d16_11 : decode prog_14_method_9_code 11 = .ok (.lreturn, 1) := by decide +kernel
theorem q16_0 : Sem1 tables_1 KT μ16 0 (o_ldA 0 1) := Sem1.ldA_n d16_0 rfl
theorem q16_1 : Sem1 tables_1 KT μ16 1 (o_gF 1 0 4) := Sem1.gF d16_1 (host := "") (Or.inl (List.mem_of_getElem? (i := 44) rfl)) (Or.inl rfl) rfl rfl
theorem q16_4 : Sem1 tables_1 KT μ16 4 (o_gF 0 2 7) := Sem1.gF d16_4 (Or.inr (List.mem_of_getElem? (i := 99) rfl)) (Or.inl rfl) rfl rfl
theorem q16_7 : Sem1 tables_1 KT μ16 7 (o_cI 2 8) := Sem1.cI (fun h => W.iconst' d16_7 (by decide) h)
theorem q16_8 : Sem1 tables_1 KT μ16 8 (o_ldI 1 9) := Sem1.ldI_n d16_8 rfl
theorem q16_9 : Sem1 tables_1 KT μ16 9 (o_bi 2 10) := Sem1.imul d16_9
theorem q16_10 : Sem1 tables_1 KT μ16 10 (o_lald 11) := Sem1.lald d16_10
theorem q16_11 : SemR tables_1 KT μ16 11 3 := SemR.l d16_11 rfl
def T16 : Tr := (tr1 (tr1 (tr1 (tr1 tr0 0 (.inl (o_ldA 0 1)) tr0) 1 (.inl (o_gF 1 0 4)) tr0) 4 (.inl (o_gF 0 2 7)) (tr1 tr0 7 (.inl (o_cI 2 8)) tr0)) 8 (.inl (o_ldI 1 9)) (tr1 (tr1 tr0 9 (.inl (o_bi 2 10)) tr0) 10 (.inl (o_lald 11)) (tr1 tr0 11 (.inr (.inr 3)) tr0)))
theorem a16 : TrAll (SemO tables_1 KT MS μ16) T16 := (all_n (all_n (all_n (all_n all_e q16_0 all_e) q16_1 all_e) q16_4 (all_n all_e q16_7 all_e)) q16_8 (all_n (all_n all_e q16_9 all_e) q16_10 (all_n all_e q16_11 all_e)))
abbrev R16 : Room := ⟨0, 0, 0, 0⟩
theorem d17_0 : decode prog_14_method_10_code 0 = .ok (.aload_n 0, 1) := by decide +kernel
theorem d17_1 : decode prog_14_method_10_code 1 = .ok (.getfield 25, 3) := by decide +kernel
theorem d17_4 : decode prog_14_method_10_code 4 = .ok (.i2l, 1) := by decide +kernel
theorem d17_5 : decode prog_14_method_10_code 5 = .ok (.aload_n 0, 1) := by decide +kernel
theorem d17_6 : decode prog_14_method_10_code 6 = .ok (.getfield 1, 3) := by decide +kernel
theorem d17_9 : decode prog_14_method_10_code 9 = .ok (.getfield 89, 3) := by decide +kernel
theorem d17_12 : decode prog_14_method_10_code 12 = .ok (.iconst 2, 1) := by decide +kernel
theorem d17_13 : decode prog_14_method_10_code 13 = .ok (.iload_n 1, 1) := by decide +kernel
theorem d17_14 : decode prog_14_method_10_code 14 = .ok (.imul, 1) := by decide +kernel
theorem d17_15 : decode prog_14_method_10_code 15 = .ok (.iconst 1, 1) := by decide +kernel
theorem d17_16 : decode prog_14_method_10_code 16 = .ok (.iadd, 1) := by decide +kernel
theorem d17_17 : decode prog_14_method_10_code 17 = .ok (.laload, 1) := by decide +kernel
theorem d17_18 : decode prog_14_method_10_code 18 = .ok (.lmul, 1) := by decide +kernel
theorem d17_19 : decode prog_14_method_10_code 19 = .ok (.lreturn, 1) := by decide +kernel
theorem q17_0 : Sem1 tables_1 KT μ17 0 (o_ldA 0 1) := Sem1.ldA_n d17_0 rfl
theorem q17_1 : Sem1 tables_1 KT μ17 1 (o_gF 1 3 4) := Sem1.gF d17_1 (host := "") (Or.inl (List.mem_of_getElem? (i := 60) rfl)) (Or.inl rfl) rfl rfl
theorem q17_4 : Sem1 tables_1 KT μ17 4 (o_i2l 5) := Sem1.i2l d17_4
theorem q17_5 : Sem1 tables_1 KT μ17 5 (o_ldA 0 6) := Sem1.ldA_n d17_5 rfl
theorem q17_6 : Sem1 tables_1 KT μ17 6 (o_gF 1 0 9) := Sem1.gF d17_6 (host := "") (Or.inl (List.mem_of_getElem? (i := 44) rfl)) (Or.inl rfl) rfl rfl
theorem q17_9 : Sem1 tables_1 KT μ17 9 (o_gF 0 2 12) := Sem1.gF d17_9 (Or.inr (List.mem_of_getElem? (i := 99) rfl)) (Or.inl rfl) rfl rfl
theorem q17_12 : Sem1 tables_1 KT μ17 12 (o_cI 2 13) := Sem1.cI (fun h => W.iconst' d17_12 (by decide) h)
theorem q17_13 : Sem1 tables_1 KT μ17 13 (o_ldI 1 14) := Sem1.ldI_n d17_13 rfl
theorem q17_14 : Sem1 tables_1 KT μ17 14 (o_bi 2 15) := Sem1.imul d17_14
theorem q17_15 : Sem1 tables_1 KT μ17 15 (o_cI 1 16) := Sem1.cI (fun h => W.iconst' d17_15 (by decide) h)
theorem q17_16 : Sem1 tables_1 KT μ17 16 (o_bi 0 17) := Sem1.iadd d17_16
theorem q17_17 : Sem1 tables_1 KT μ17 17 (o_lald 18) := Sem1.lald d17_17
theorem q17_18 : Sem1 tables_1 KT μ17 18 (o_bl 2 19) := Sem1.lmul d17_18
theorem q17_19 : SemR tables_1 KT μ17 19 3 := SemR.l d17_19 rfl
def T17 : Tr := (tr1 (tr1 (tr1 (tr1 tr0 0 (.inl (o_ldA 0 1)) tr0) 1 (.inl (o_gF 1 3 4)) (tr1 tr0 4 (.inl (o_i2l 5)) tr0)) 5 (.inl (o_ldA 0 6)) (tr1 (tr1 tr0 6 (.inl (o_gF 1 0 9)) tr0) 9 (.inl (o_gF 0 2 12)) (tr1 tr0 12 (.inl (o_cI 2 13)) tr0))) 13 (.inl (o_ldI 1 14)) (tr1 (tr1 (tr1 tr0 14 (.inl (o_bi 2 15)) tr0) 15 (.inl (o_cI 1 16)) (tr1 tr0 16 (.inl (o_bi 0 17)) tr0)) 17 (.inl (o_lald 18)) (tr1 (tr1 tr0 18 (.inl (o_bl 2 19)) tr0) 19 (.inr (.inr 3)) tr0)))
theorem a17 : TrAll (SemO tables_1 KT MS μ17) T17 := (all_n (all_n (all_n (all_n all_e q17_0 all_e) q17_1 (all_n all_e q17_4 all_e)) q17_5 (all_n (all_n all_e q17_6 all_e) q17_9 (all_n all_e q17_12 all_e))) q17_13 (all_n (all_n (all_n all_e q17_14 all_e) q17_15 (all_n all_e q17_16 all_e)) q17_17 (all_n (all_n all_e q17_18 all_e) q17_19 all_e)))
abbrev R17 : Room := ⟨0, 0, 0, 0⟩
theorem d18_0 : decode prog_14_method_5_code 0 = .ok (.iload_n 2, 1) := by decide +kernel
theorem d18_1 : decode prog_14_method_5_code 1 = .ok (.ifCond .eq 10, 3) := by decide +kernel
theorem d18_4 : decode prog_14_method_5_code 4 = .ok (.aload_n 1, 1) := by decide +kernel
theorem d18_5 : decode prog_14_method_5_code 5 = .ok (.invokevirtual 68, 3) := by decide +kernel
theorem d18_8 : decode prog_14_method_5_code 8 = .ok (.goto 7, 3) := by decide +kernel
theorem d18_11 : decode prog_14_method_5_code 11 = .ok (.aload_n 1, 1) := by decide +kernel
theorem d18_12 : decode prog_14_method_5_code 12 = .ok (.invokevirtual 71, 3) := by decide +kernel
theorem d18_15 : decode prog_14_method_5_code 15 = .ok (.return_, 1) := by decide +kernel
theorem q18_0 : Sem1 tables_1 KT μ18 0 (o_ldI 2 1) := Sem1.ldI_n d18_0 rfl
theorem q18_1 : Sem1 tables_1 KT μ18 1 (o_ifc .eq 11 4) := Sem1.ifc d18_1 (by decide) (by decide)
theorem q18_4 : Sem1 tables_1 KT μ18 4 (o_ldA 1 5) := Sem1.ldA_n d18_4 rfl
theorem q18_5 : SemC tables_1 KT μ18 μ19 5 1 4 8 := SemC.V (c := 2) d18_5 (List.mem_of_getElem? (i := 139) rfl) (List.mem_of_getElem? (i := 140) rfl) (List.mem_of_getElem? (i := 142) rfl) (Or.inl rfl) kt (List.mem_of_getElem? (i := 141) rfl) (List.mem_of_getElem? (i := 49) rfl) (List.mem_of_getElem? (i := 143) rfl) (by decide) rfl pd9 rfl
theorem q18_8 : Sem1 tables_1 KT μ18 8 (o_jmp 15) := Sem1.jmp d18_8 (by decide) (by decide)
theorem q18_11 : Sem1 tables_1 KT μ18 11 (o_ldA 1 12) := Sem1.ldA_n d18_11 rfl
theorem q18_12 : SemC tables_1 KT μ18 μ20 12 1 4 15 := SemC.V (c := 2) d18_12 (List.mem_of_getElem? (i := 144) rfl) (List.mem_of_getElem? (i := 145) rfl) (List.mem_of_getElem? (i := 147) rfl) (Or.inl rfl) kt (List.mem_of_getElem? (i := 146) rfl) (List.mem_of_getElem? (i := 49) rfl) (List.mem_of_getElem? (i := 148) rfl) (by decide) rfl pd9 rfl
theorem q18_15 : SemR tables_1 KT μ18 15 0 := SemR.v d18_15 rfl
def T18 : Tr := (tr1 (tr1 (tr1 (tr1 tr0 0 (.inl (o_ldI 2 1)) tr0) 1 (.inl (o_ifc .eq 11 4)) tr0) 4 (.inl (o_ldA 1 5)) (tr1 tr0 5 (.inr (.inl (19, 1, 4, 8))) tr0)) 8 (.inl (o_jmp 15)) (tr1 (tr1 tr0 11 (.inl (o_ldA 1 12)) tr0) 12 (.inr (.inl (20, 1, 4, 15))) (tr1 tr0 15 (.inr (.inr 0)) tr0)))
theorem a18 : TrAll (SemO tables_1 KT MS μ18) T18 := (all_n (all_n (all_n (all_n all_e q18_0 all_e) q18_1 all_e) q18_4 (all_n all_e (SemO.call ms19 q18_5) all_e)) q18_8 (all_n (all_n all_e q18_11 all_e) (SemO.call ms20 q18_12) (all_n all_e q18_15 all_e)))
abbrev R18 : Room := ⟨2, 0, 0, 25⟩
theorem d19_0 : decode prog_15_method_7_code 0 = .ok (.aload_n 0, 1) := by decide +kernel
theorem d19_1 : decode prog_15_method_7_code 1 = .ok (.aload_n 0, 1) := by decide +kernel
theorem d19_2 : decode prog_15_method_7_code 2 = .ok (.getfield 1, 3) := by decide +kernel
theorem d19_5 : decode prog_15_method_7_code 5 = .ok (.getfield 37, 3) := by decide +kernel
theorem d19_8 : decode prog_15_method_7_code 8 = .ok (.iconst 2, 1) := by decide +kernel
theorem d19_9 : decode prog_15_method_7_code 9 = .ok (.aload_n 0, 1) := by decide +kernel
theorem d19_10 : decode prog_15_method_7_code 10 = .ok (.getfield 13, 3) := by decide +kernel
theorem d19_13 : decode prog_15_method_7_code 13 = .ok (.imul, 1) := by decide +kernel
theorem d19_14 : decode prog_15_method_7_code 14 = .ok (.iaload, 1) := by decide +kernel
theorem d19_15 : decode prog_15_method_7_code 15 = .ok (.putfield 20, 3) := by decide +kernel
theorem d19_18 : decode prog_15_method_7_code 18 = .ok (.aload_n 0, 1) := by decide +kernel
theorem d19_19 : decode prog_15_method_7_code 19 = .ok (.iconst 2, 1) := by decide +kernel
theorem d19_20 : decode prog_15_method_7_code 20 = .ok (.aload_n 0, 1) := by decide +kernel
theorem d19_21 : decode prog_15_method_7_code 21 = .ok (.getfield 13, 3) := by decide +kernel
theorem d19_24 : decode prog_15_method_7_code 24 = .ok (.imul, 1) := by decide +kernel
theorem d19_25 : decode prog_15_method_7_code 25 = .ok (.putfield 13, 3) := by decide +kernel
theorem d19_28 : decode prog_15_method_7_code 28 = .ok (.aload_n 0, 1) := by decide +kernel
theorem d19_29 : decode prog_15_method_7_code 29 = .ok (.invokevirtual 23, 3) := by decide +kernel
theorem d19_32 : decode prog_15_method_7_code 32 = .ok (.return_, 1) := by decide +kernel
theorem q19_0 : Sem1 tables_1 KT μ19 0 (o_ldA 0 1) := Sem1.ldA_n d19_0 rfl
theorem q19_1 : Sem1 tables_1 KT μ19 1 (o_ldA 0 2) := Sem1.ldA_n d19_1 rfl
theorem q19_2 : Sem1 tables_1 KT μ19 2 (o_gF 2 0 5) := Sem1.gF d19_2 (host := "") (Or.inl (List.mem_of_getElem? (i := 53) rfl)) (Or.inl rfl) rfl rfl
theorem q19_5 : Sem1 tables_1 KT μ19 5 (o_gF 1 4 8) := Sem1.gF d19_5 (Or.inr (List.mem_of_getElem? (i := 112) rfl)) (Or.inl rfl) rfl rfl
theorem q19_8 : Sem1 tables_1 KT μ19 8 (o_cI 2 9) := Sem1.cI (fun h => W.iconst' d19_8 (by decide) h)
theorem q19_9 : Sem1 tables_1 KT μ19 9 (o_ldA 0 10) := Sem1.ldA_n d19_9 rfl
theorem q19_10 : Sem1 tables_1 KT μ19 10 (o_gF 2 1 13) := Sem1.gF d19_10 (host := "") (Or.inl (List.mem_of_getElem? (i := 87) rfl)) (Or.inl rfl) rfl rfl
theorem q19_13 : Sem1 tables_1 KT μ19 13 (o_bi 2 14) := Sem1.imul d19_13
theorem q19_14 : Sem1 tables_1 KT μ19 14 (o_iald 15) := Sem1.iald d19_14
theorem q19_15 : Sem1 tables_1 KT μ19 15 (o_pF 2 3 0 18) := Sem1.pF kt d19_15 (host := "") (Or.inl (List.mem_of_getElem? (i := 91) rfl)) (Or.inl rfl) rfl rfl (Or.inl (List.mem_of_getElem? (i := 92) rfl)) (Or.inl ⟨rfl, rfl⟩)
theorem q19_18 : Sem1 tables_1 KT μ19 18 (o_ldA 0 19) := Sem1.ldA_n d19_18 rfl
theorem q19_19 : Sem1 tables_1 KT μ19 19 (o_cI 2 20) := Sem1.cI (fun h => W.iconst' d19_19 (by decide) h)
theorem q19_20 : Sem1 tables_1 KT μ19 20 (o_ldA 0 21) := Sem1.ldA_n d19_20 rfl
theorem q19_21 : Sem1 tables_1 KT μ19 21 (o_gF 2 1 24) := Sem1.gF d19_21 (host := "") (Or.inl (List.mem_of_getElem? (i := 87) rfl)) (Or.inl rfl) rfl rfl
theorem q19_24 : Sem1 tables_1 KT μ19 24 (o_bi 2 25) := Sem1.imul d19_24
theorem q19_25 : Sem1 tables_1 KT μ19 25 (o_pF 2 1 0 28) := Sem1.pF kt d19_25 (host := "") (Or.inl (List.mem_of_getElem? (i := 87) rfl)) (Or.inl rfl) rfl rfl (Or.inl (List.mem_of_getElem? (i := 88) rfl)) (Or.inl ⟨rfl, rfl⟩)
theorem q19_28 : Sem1 tables_1 KT μ19 28 (o_ldA 0 29) := Sem1.ldA_n d19_28 rfl
theorem q19_29 : SemC tables_1 KT μ19 μ10 29 1 4 32 := SemC.P (c := 2) d19_29 (List.mem_of_getElem? (i := 93) rfl) (List.mem_of_getElem? (i := 95) rfl) kt (List.mem_of_getElem? (i := 94) rfl) (List.mem_of_getElem? (i := 49) rfl) (List.mem_of_getElem? (i := 96) rfl) (by decide) rfl rfl pd9 rfl
theorem q19_32 : SemR tables_1 KT μ19 32 0 := SemR.v d19_32 rfl
def T19 : Tr := (tr1 (tr1 (tr1 (tr1 (tr1 tr0 0 (.inl (o_ldA 0 1)) tr0) 1 (.inl (o_ldA 0 2)) tr0) 2 (.inl (o_gF 2 0 5)) (tr1 tr0 5 (.inl (o_gF 1 4 8)) tr0)) 8 (.inl (o_cI 2 9)) (tr1 (tr1 (tr1 tr0 9 (.inl (o_ldA 0 10)) tr0) 10 (.inl (o_gF 2 1 13)) tr0) 13 (.inl (o_bi 2 14)) (tr1 tr0 14 (.inl (o_iald 15)) tr0))) 15 (.inl (o_pF 2 3 0 18)) (tr1 (tr1 (tr1 (tr1 tr0 18 (.inl (o_ldA 0 19)) tr0) 19 (.inl (o_cI 2 20)) tr0) 20 (.inl (o_ldA 0 21)) (tr1 tr0 21 (.inl (o_gF 2 1 24)) tr0)) 24 (.inl (o_bi 2 25)) (tr1 (tr1 (tr1 tr0 25 (.inl (o_pF 2 1 0 28)) tr0) 28 (.inl (o_ldA 0 29)) tr0) 29 (.inr (.inl (10, 1, 4, 32))) (tr1 tr0 32 (.inr (.inr 0)) tr0))))
theorem a19 : TrAll (SemO tables_1 KT MS μ19) T19 := (all_n (all_n (all_n (all_n (all_n all_e q19_0 all_e) q19_1 all_e) q19_2 (all_n all_e q19_5 all_e)) q19_8 (all_n (all_n (all_n all_e q19_9 all_e) q19_10 all_e) q19_13 (all_n all_e q19_14 all_e))) q19_15 (all_n (all_n (all_n (all_n all_e q19_18 all_e) q19_19 all_e) q19_20 (all_n all_e q19_21 all_e)) q19_24 (all_n (all_n (all_n all_e q19_25 all_e) q19_28 all_e) (SemO.call ms10 q19_29) (all_n all_e q19_32 all_e))))
abbrev R19 : Room := ⟨1, 0, 0, 13⟩
theorem d20_0 : decode prog_15_method_8_code 0 = .ok (.aload_n 0, 1) := by decide +kernel
theorem d20_1 : decode prog_15_method_8_code 1 = .ok (.aload_n 0, 1) := by decide +kernel
theorem d20_2 : decode prog_15_method_8_code 2 = .ok (.getfield 1, 3) := by decide +kernel
theorem d20_5 : decode prog_15_method_8_code 5 = .ok (.getfield 37, 3) := by decide +kernel
theorem d20_8 : decode prog_15_method_8_code 8 = .ok (.iconst 2, 1) := by decide +kernel
theorem d20_9 : decode prog_15_method_8_code 9 = .ok (.aload_n 0, 1) := by decide +kernel
theorem d20_10 : decode prog_15_method_8_code 10 = .ok (.getfield 13, 3) := by decide +kernel
theorem d20_13 : decode prog_15_method_8_code 13 = .ok (.imul, 1) := by decide +kernel
theorem d20_14 : decode prog_15_method_8_code 14 = .ok (.iconst 1, 1) := by decide +kernel
theorem d20_15 : decode prog_15_method_8_code 15 = .ok (.iadd, 1) := by decide +kernel
theorem d20_16 : decode prog_15_method_8_code 16 = .ok (.iaload, 1) := by decide +kernel
theorem d20_17 : decode prog_15_method_8_code 17 = .ok (.putfield 17, 3) := by decide +kernel
theorem d20_20 : decode prog_15_method_8_code 20 = .ok (.aload_n 0, 1) := by decide +kernel
theorem d20_21 : decode prog_15_method_8_code 21 = .ok (.iconst 2, 1) := by decide +kernel
theorem d20_22 : decode prog_15_method_8_code 22 = .ok (.aload_n 0, 1) := by decide +kernel
theorem d20_23 : decode prog_15_method_8_code 23 = .ok (.getfield 13, 3) := by decide +kernel
theorem d20_26 : decode prog_15_method_8_code 26 = .ok (.imul, 1) := by decide +kernel
theorem d20_27 : decode prog_15_method_8_code 27 = .ok (.iconst 1, 1) := by decide +kernel
theorem d20_28 : decode prog_15_method_8_code 28 = .ok (.iadd, 1) := by decide +kernel
theorem d20_29 : decode prog_15_method_8_code 29 = .ok (.putfield 13, 3) := by decide +kernel
theorem d20_32 : decode prog_15_method_8_code 32 = .ok (.aload_n 0, 1) := by decide +kernel
theorem d20_33 : decode prog_15_method_8_code 33 = .ok (.invokevirtual 23, 3) := by decide +kernel
theorem d20_36 : decode prog_15_method_8_code 36 = .ok (.return_, 1) := by decide +kernel
theorem q20_0 : Sem1 tables_1 KT μ20 0 (o_ldA 0 1) := Sem1.ldA_n d20_0 rfl
theorem q20_1 : Sem1 tables_1 KT μ20 1 (o_ldA 0 2) := Sem1.ldA_n d20_1 rfl
theorem q20_2 : Sem1 tables_1 KT μ20 2 (o_gF 2 0 5) := Sem1.gF d20_2 (host := "") (Or.inl (List.mem_of_getElem? (i := 53) rfl)) (Or.inl rfl) rfl rfl
theorem q20_5 : Sem1 tables_1 KT μ20 5 (o_gF 1 4 8) := Sem1.gF d20_5 (Or.inr (List.mem_of_getElem? (i := 112) rfl)) (Or.inl rfl) rfl rfl
theorem q20_8 : Sem1 tables_1 KT μ20 8 (o_cI 2 9) := Sem1.cI (fun h => W.iconst' d20_8 (by decide) h)
theorem q20_9 : Sem1 tables_1 KT μ20 9 (o_ldA 0 10) := Sem1.ldA_n d20_9 rfl
theorem q20_10 : Sem1 tables_1 KT μ20 10 (o_gF 2 1 13) := Sem1.gF d20_10 (host := "") (Or.inl (List.mem_of_getElem? (i := 87) rfl)) (Or.inl rfl) rfl rfl
theorem q20_13 : Sem1 tables_1 KT μ20 13 (o_bi 2 14) := Sem1.imul d20_13
theorem q20_14 : Sem1 tables_1 KT μ20 14 (o_cI 1 15) := Sem1.cI (fun h => W.iconst' d20_14 (by decide) h)
theorem q20_15 : Sem1 tables_1 KT μ20 15 (o_bi 0 16) := Sem1.iadd d20_15
theorem q20_16 : Sem1 tables_1 KT μ20 16 (o_iald 17) := Sem1.iald d20_16
theorem q20_17 : Sem1 tables_1 KT μ20 17 (o_pF 2 2 0 20) := Sem1.pF kt d20_17 (host := "") (Or.inl (List.mem_of_getElem? (i := 89) rfl)) (Or.inl rfl) rfl rfl (Or.inl (List.mem_of_getElem? (i := 90) rfl)) (Or.inl ⟨rfl, rfl⟩)
theorem q20_20 : Sem1 tables_1 KT μ20 20 (o_ldA 0 21) := Sem1.ldA_n d20_20 rfl
theorem q20_21 : Sem1 tables_1 KT μ20 21 (o_cI 2 22) := Sem1.cI (fun h => W.iconst' d20_21 (by decide) h)
theorem q20_22 : Sem1 tables_1 KT μ20 22 (o_ldA 0 23) := Sem1.ldA_n d20_22 rfl
theorem q20_23 : Sem1 tables_1 KT μ20 23 (o_gF 2 1 26) := Sem1.gF d20_23 (host := "") (Or.inl (List.mem_of_getElem? (i := 87) rfl)) (Or.inl rfl) rfl rfl
theorem q20_26 : Sem1 tables_1 KT μ20 26 (o_bi 2 27) := Sem1.imul d20_26
theorem q20_27 : Sem1 tables_1 KT μ20 27 (o_cI 1 28) := Sem1.cI (fun h => W.iconst' d20_27 (by decide) h)
theorem q20_28 : Sem1 tables_1 KT μ20 28 (o_bi 0 29) := Sem1.iadd d20_28
theorem q20_29 : Sem1 tables_1 KT μ20 29 (o_pF 2 1 0 32) := Sem1.pF kt d20_29 (host := "") (Or.inl (List.mem_of_getElem? (i := 87) rfl)) (Or.inl rfl) rfl rfl (Or.inl (List.mem_of_getElem? (i := 88) rfl)) (Or.inl ⟨rfl, rfl⟩)
theorem q20_32 : Sem1 tables_1 KT μ20 32 (o_ldA 0 33) := Sem1.ldA_n d20_32 rfl
theorem q20_33 : SemC tables_1 KT μ20 μ10 33 1 4 36 := SemC.P (c := 2) d20_33 (List.mem_of_getElem? (i := 93) rfl) (List.mem_of_getElem? (i := 95) rfl) kt (List.mem_of_getElem? (i := 94) rfl) (List.mem_of_getElem? (i := 49) rfl) (List.mem_of_getElem? (i := 96) rfl) (by decide) rfl rfl pd9 rfl
theorem q20_36 : SemR tables_1 KT μ20 36 0 := SemR.v d20_36 rfl
def T20 : Tr := (tr1 (tr1 (tr1 (tr1 (tr1 tr0 0 (.inl (o_ldA 0 1)) tr0) 1 (.inl (o_ldA 0 2)) tr0) 2 (.inl (o_gF 2 0 5)) (tr1 (tr1 tr0 5 (.inl (o_gF 1 4 8)) tr0) 8 (.inl (o_cI 2 9)) tr0)) 9 (.inl (o_ldA 0 10)) (tr1 (tr1 (tr1 tr0 10 (.inl (o_gF 2 1 13)) tr0) 13 (.inl (o_bi 2 14)) tr0) 14 (.inl (o_cI 1 15)) (tr1 (tr1 tr0 15 (.inl (o_bi 0 16)) tr0) 16 (.inl (o_iald 17)) tr0))) 17 (.inl (o_pF 2 2 0 20)) (tr1 (tr1 (tr1 (tr1 tr0 20 (.inl (o_ldA 0 21)) tr0) 21 (.inl (o_cI 2 22)) tr0) 22 (.inl (o_ldA 0 23)) (tr1 (tr1 tr0 23 (.inl (o_gF 2 1 26)) tr0) 26 (.inl (o_bi 2 27)) tr0)) 27 (.inl (o_cI 1 28)) (tr1 (tr1 (tr1 tr0 28 (.inl (o_bi 0 29)) tr0) 29 (.inl (o_pF 2 1 0 32)) tr0) 32 (.inl (o_ldA 0 33)) (tr1 (tr1 tr0 33 (.inr (.inl (10, 1, 4, 36))) tr0) 36 (.inr (.inr 0)) tr0))))
theorem a20 : TrAll (SemO tables_1 KT MS μ20) T20 := (all_n (all_n (all_n (all_n (all_n all_e q20_0 all_e) q20_1 all_e) q20_2 (all_n (all_n all_e q20_5 all_e) q20_8 all_e)) q20_9 (all_n (all_n (all_n all_e q20_10 all_e) q20_13 all_e) q20_14 (all_n (all_n all_e q20_15 all_e) q20_16 all_e))) q20_17 (all_n (all_n (all_n (all_n all_e q20_20 all_e) q20_21 all_e) q20_22 (all_n (all_n all_e q20_23 all_e) q20_26 all_e)) q20_27 (all_n (all_n (all_n all_e q20_28 all_e) q20_29 all_e) q20_32 (all_n (all_n all_e (SemO.call ms10 q20_33) all_e) q20_36 all_e))))
abbrev R20 : Room := ⟨1, 0, 0, 13⟩
theorem d21_0 : decode prog_13_method_5_code 0 = .ok (.aload_n 0, 1) := by decide +kernel
theorem d21_1 : decode prog_13_method_5_code 1 = .ok (.iload_n 1, 1) := by decide +kernel
theorem d21_2 : decode prog_13_method_5_code 2 = .ok (.iconst 0, 1) := by decide +kernel
theorem d21_3 : decode prog_13_method_5_code 3 = .ok (.invokevirtual 59, 3) := by decide +kernel
theorem d21_6 : decode prog_13_method_5_code 6 = .ok (.return_, 1) := by decide +kernel
theorem q21_0 : Sem1 tables_1 KT μ21 0 (o_ldA 0 1) := Sem1.ldA_n d21_0 rfl
theorem q21_1 : Sem1 tables_1 KT μ21 1 (o_ldI 1 2) := Sem1.ldI_n d21_1 rfl
theorem q21_2 : Sem1 tables_1 KT μ21 2 (o_cI 0 3) := Sem1.cI (fun h => W.iconst' d21_2 (by decide) h)
theorem q21_3 : SemC tables_1 KT μ21 μ22 3 3 2 6 := SemC.P (c := 0) d21_3 (List.mem_of_getElem? (i := 156) rfl) (List.mem_of_getElem? (i := 158) rfl) kt (List.mem_of_getElem? (i := 157) rfl) (List.mem_of_getElem? (i := 19) rfl) (List.mem_of_getElem? (i := 159) rfl) (by decide) rfl rfl pd15 rfl
theorem q21_6 : SemR tables_1 KT μ21 6 0 := SemR.v d21_6 rfl
def T21 : Tr := (tr1 (tr1 (tr1 tr0 0 (.inl (o_ldA 0 1)) tr0) 1 (.inl (o_ldI 1 2)) tr0) 2 (.inl (o_cI 0 3)) (tr1 (tr1 tr0 3 (.inr (.inl (22, 3, 2, 6))) tr0) 6 (.inr (.inr 0)) tr0))
theorem a21 : TrAll (SemO tables_1 KT MS μ21) T21 := (all_n (all_n (all_n all_e q21_0 all_e) q21_1 all_e) q21_2 (all_n (all_n all_e (SemO.call ms22 q21_3) all_e) q21_6 all_e))
abbrev R21 : Room := ⟨6, 0, 0, 116⟩
theorem d22_0 : decode prog_13_method_8_code 0 = .ok (.aload_n 0, 1) := by decide +kernel
theorem d22_1 : decode prog_13_method_8_code 1 = .ok (.iload_n 1, 1) := by decide +kernel
theorem d22_2 : decode prog_13_method_8_code 2 = .ok (.invokevirtual 77, 3) := by decide +kernel
theorem d22_5 : decode prog_13_method_8_code 5 = .ok (.istore_n 3, 1) := by decide +kernel
theorem d22_6 : decode prog_13_method_8_code 6 = .ok (.aload_n 0, 1) := by decide +kernel
theorem d22_7 : decode prog_13_method_8_code 7 = .ok (.getfield 20, 3) := by decide +kernel
theorem d22_10 : decode prog_13_method_8_code 10 = .ok (.iload_n 3, 1) := by decide +kernel
theorem d22_11 : decode prog_13_method_8_code 11 = .ok (.iadd, 1) := by decide +kernel
theorem d22_12 : decode prog_13_method_8_code 12 = .ok (.istore 4, 2) := by decide +kernel
theorem d22_14 : decode prog_13_method_8_code 14 = .ok (.aload_n 0, 1) := by decide +kernel
theorem d22_15 : decode prog_13_method_8_code 15 = .ok (.getfield 24, 3) := by decide +kernel
theorem d22_18 : decode prog_13_method_8_code 18 = .ok (.iload 4, 2) := by decide +kernel
theorem d22_20 : decode prog_13_method_8_code 20 = .ok (.iaload, 1) := by decide +kernel
theorem d22_21 : decode prog_13_method_8_code 21 = .ok (.ifCond .lt 7, 3) := by decide +kernel
theorem d22_24 : decode prog_13_method_8_code 24 = .ok (.iconst 1, 1) := by decide +kernel
theorem d22_25 : decode prog_13_method_8_code 25 = .ok (.goto 4, 3) := by decide +kernel
theorem d22_28 : decode prog_13_method_8_code 28 = .ok (.iconst 0, 1) := by decide +kernel
theorem d22_29 : decode prog_13_method_8_code 29 = .ok (.iload_n 2, 1) := by decide +kernel
theorem d22_30 : decode prog_13_method_8_code 30 = .ok (.if_icmp .ne 28, 3) := by decide +kernel
theorem d22_58 : decode prog_13_method_8_code 58 = .ok (.aload_n 0, 1) := by decide +kernel
theorem d22_59 : decode prog_13_method_8_code 59 = .ok (.getfield 24, 3) := by decide +kernel
theorem d22_62 : decode prog_13_method_8_code 62 = .ok (.iload 4, 2) := by decide +kernel
theorem d22_64 : decode prog_13_method_8_code 64 = .ok (.iload_n 2, 1) := by decide +kernel
theorem d22_65 : decode prog_13_method_8_code 65 = .ok (.ifCond .eq 7, 3) := by decide +kernel
theorem d22_68 : decode prog_13_method_8_code 68 = .ok (.iload_n 3, 1) := by decide +kernel
theorem d22_69 : decode prog_13_method_8_code 69 = .ok (.goto 4, 3) := by decide +kernel
theorem d22_72 : decode prog_13_method_8_code 72 = .ok (.iconst (-1), 1) := by decide +kernel
theorem d22_73 : decode prog_13_method_8_code 73 = .ok (.iastore, 1) := by decide +kernel
theorem d22_74 : decode prog_13_method_8_code 74 = .ok (.aload_n 0, 1) := by decide +kernel
theorem d22_75 : decode prog_13_method_8_code 75 = .ok (.getfield 27, 3) := by decide +kernel
theorem d22_78 : decode prog_13_method_8_code 78 = .ok (.iload 4, 2) := by decide +kernel
theorem d22_80 : decode prog_13_method_8_code 80 = .ok (.aload_n 0, 1) := by decide +kernel
theorem d22_81 : decode prog_13_method_8_code 81 = .ok (.getfield 24, 3) := by decide +kernel
theorem d22_84 : decode prog_13_method_8_code 84 = .ok (.iload 4, 2) := by decide +kernel
theorem d22_86 : decode prog_13_method_8_code 86 = .ok (.iaload, 1) := by decide +kernel
theorem d22_87 : decode prog_13_method_8_code 87 = .ok (.iastore, 1) := by decide +kernel
theorem d22_88 : decode prog_13_method_8_code 88 = .ok (.aload_n 0, 1) := by decide +kernel
theorem d22_89 : decode prog_13_method_8_code 89 = .ok (.dup, 1) := by decide +kernel
theorem d22_90 : decode prog_13_method_8_code 90 = .ok (.getfield 56, 3) := by decide +kernel
theorem d22_93 : decode prog_13_method_8_code 93 = .ok (.iload_n 2, 1) := by decide +kernel
theorem d22_94 : decode prog_13_method_8_code 94 = .ok (.ifCond .eq 7, 3) := by decide +kernel
theorem d22_97 : decode prog_13_method_8_code 97 = .ok (.iconst 1, 1) := by decide +kernel
theorem d22_98 : decode prog_13_method_8_code 98 = .ok (.goto 4, 3) := by decide +kernel
theorem d22_101 : decode prog_13_method_8_code 101 = .ok (.iconst (-1), 1) := by decide +kernel
theorem d22_102 : decode prog_13_method_8_code 102 = .ok (.iadd, 1) := by decide +kernel
theorem d22_103 : decode prog_13_method_8_code 103 = .ok (.putfield 56, 3) := by decide +kernel
theorem d22_106 : decode prog_13_method_8_code 106 = .ok (.iconst 1, 1) := by decide +kernel
theorem d22_107 : decode prog_13_method_8_code 107 = .ok (.istore 5, 2) := by decide +kernel
theorem d22_109 : decode prog_13_method_8_code 109 = .ok (.iconst 1, 1) := by decide +kernel
theorem d22_110 : decode prog_13_method_8_code 110 = .ok (.istore 6, 2) := by decide +kernel
theorem d22_112 : decode prog_13_method_8_code 112 = .ok (.iload 4, 2) := by decide +kernel
theorem d22_114 : decode prog_13_method_8_code 114 = .ok (.istore 7, 2) := by decide +kernel
theorem d22_116 : decode prog_13_method_8_code 116 = .ok (.iload 7, 2) := by decide +kernel
theorem d22_118 : decode prog_13_method_8_code 118 = .ok (.iconst 1, 1) := by decide +kernel
theorem d22_119 : decode prog_13_method_8_code 119 = .ok (.if_icmp .le 104, 3) := by decide +kernel
theorem d22_122 : decode prog_13_method_8_code 122 = .ok (.iload 5, 2) := by decide +kernel
theorem d22_124 : decode prog_13_method_8_code 124 = .ok (.ifCond .ne 8, 3) := by decide +kernel
theorem d22_127 : decode prog_13_method_8_code 127 = .ok (.iload 6, 2) := by decide +kernel
theorem d22_129 : decode prog_13_method_8_code 129 = .ok (.ifCond .eq 94, 3) := by decide +kernel
theorem d22_132 : decode prog_13_method_8_code 132 = .ok (.iload 7, 2) := by decide +kernel
theorem d22_134 : decode prog_13_method_8_code 134 = .ok (.iconst 2, 1) := by decide +kernel
theorem d22_135 : decode prog_13_method_8_code 135 = .ok (.idiv, 1) := by decide +kernel
theorem d22_136 : decode prog_13_method_8_code 136 = .ok (.istore 8, 2) := by decide +kernel
theorem d22_138 : decode prog_13_method_8_code 138 = .ok (.iload 7, 2) := by decide +kernel
theorem d22_140 : decode prog_13_method_8_code 140 = .ok (.iconst 2, 1) := by decide +kernel
theorem d22_141 : decode prog_13_method_8_code 141 = .ok (.irem, 1) := by decide +kernel
theorem d22_142 : decode prog_13_method_8_code 142 = .ok (.ifCond .ne 7, 3) := by decide +kernel
theorem d22_145 : decode prog_13_method_8_code 145 = .ok (.iconst 1, 1) := by decide +kernel
theorem d22_146 : decode prog_13_method_8_code 146 = .ok (.goto 4, 3) := by decide +kernel
theorem d22_149 : decode prog_13_method_8_code 149 = .ok (.iconst 0, 1) := by decide +kernel
theorem d22_150 : decode prog_13_method_8_code 150 = .ok (.istore 9, 2) := by decide +kernel
theorem d22_152 : decode prog_13_method_8_code 152 = .ok (.aload_n 0, 1) := by decide +kernel
theorem d22_153 : decode prog_13_method_8_code 153 = .ok (.iload 8, 2) := by decide +kernel
theorem d22_155 : decode prog_13_method_8_code 155 = .ok (.invokevirtual 48, 3) := by decide +kernel
theorem d22_158 : decode prog_13_method_8_code 158 = .ok (.iload 5, 2) := by decide +kernel
theorem d22_160 : decode prog_13_method_8_code 160 = .ok (.ifCond .eq 23, 3) := by decide +kernel
theorem d22_163 : decode prog_13_method_8_code 163 = .ok (.aload_n 0, 1) := by decide +kernel
theorem d22_164 : decode prog_13_method_8_code 164 = .ok (.getfield 35, 3) := by decide +kernel
theorem d22_167 : decode prog_13_method_8_code 167 = .ok (.iload 8, 2) := by decide +kernel
theorem d22_169 : decode prog_13_method_8_code 169 = .ok (.iload_n 3, 1) := by decide +kernel
theorem d22_170 : decode prog_13_method_8_code 170 = .ok (.iload 9, 2) := by decide +kernel
theorem d22_172 : decode prog_13_method_8_code 172 = .ok (.iload_n 2, 1) := by decide +kernel
theorem d22_173 : decode prog_13_method_8_code 173 = .ok (.invokevirtual 94, 3) := by decide +kernel
theorem d22_176 : decode prog_13_method_8_code 176 = .ok (.ifCond .eq 7, 3) := by decide +kernel
theorem d22_179 : decode prog_13_method_8_code 179 = .ok (.iconst 1, 1) := by decide +kernel
theorem d22_180 : decode prog_13_method_8_code 180 = .ok (.goto 4, 3) := by decide +kernel
theorem d22_183 : decode prog_13_method_8_code 183 = .ok (.iconst 0, 1) := by decide +kernel
theorem d22_184 : decode prog_13_method_8_code 184 = .ok (.istore 5, 2) := by decide +kernel
theorem d22_186 : decode prog_13_method_8_code 186 = .ok (.iload 6, 2) := by decide +kernel
theorem d22_188 : decode prog_13_method_8_code 188 = .ok (.ifCond .eq 23, 3) := by decide +kernel
theorem d22_191 : decode prog_13_method_8_code 191 = .ok (.aload_n 0, 1) := by decide +kernel
theorem d22_192 : decode prog_13_method_8_code 192 = .ok (.getfield 39, 3) := by decide +kernel
theorem d22_195 : decode prog_13_method_8_code 195 = .ok (.iload 8, 2) := by decide +kernel
theorem d22_197 : decode prog_13_method_8_code 197 = .ok (.iload_n 3, 1) := by decide +kernel
theorem d22_198 : decode prog_13_method_8_code 198 = .ok (.iload 9, 2) := by decide +kernel
theorem d22_200 : decode prog_13_method_8_code 200 = .ok (.iload_n 2, 1) := by decide +kernel
theorem d22_201 : decode prog_13_method_8_code 201 = .ok (.invokevirtual 94, 3) := by decide +kernel
theorem d22_204 : decode prog_13_method_8_code 204 = .ok (.ifCond .eq 7, 3) := by decide +kernel
theorem d22_207 : decode prog_13_method_8_code 207 = .ok (.iconst 1, 1) := by decide +kernel
theorem d22_208 : decode prog_13_method_8_code 208 = .ok (.goto 4, 3) := by decide +kernel
theorem d22_211 : decode prog_13_method_8_code 211 = .ok (.iconst 0, 1) := by decide +kernel
theorem d22_212 : decode prog_13_method_8_code 212 = .ok (.istore 6, 2) := by decide +kernel
theorem d22_214 : decode prog_13_method_8_code 214 = .ok (.iload 7, 2) := by decide +kernel
theorem d22_216 : decode prog_13_method_8_code 216 = .ok (.iconst 2, 1) := by decide +kernel
theorem d22_217 : decode prog_13_method_8_code 217 = .ok (.idiv, 1) := by decide +kernel
theorem d22_218 : decode prog_13_method_8_code 218 = .ok (.istore 7, 2) := by decide +kernel
theorem d22_220 : decode prog_13_method_8_code 220 = .ok (.goto (-104), 3) := by decide +kernel
theorem d22_223 : decode prog_13_method_8_code 223 = .ok (.return_, 1) := by decide +kernel
theorem q22_0 : Sem1 tables_1 KT μ22 0 (o_ldA 0 1) := Sem1.ldA_n d22_0 rfl
theorem q22_1 : Sem1 tables_1 KT μ22 1 (o_ldI 1 2) := Sem1.ldI_n d22_1 rfl
theorem q22_2 : SemC tables_1 KT μ22 μ23 2 2 2 5 := SemC.P (c := 0) d22_2 (List.mem_of_getElem? (i := 160) rfl) (List.mem_of_getElem? (i := 162) rfl) kt (List.mem_of_getElem? (i := 161) rfl) (List.mem_of_getElem? (i := 19) rfl) (List.mem_of_getElem? (i := 163) rfl) (by decide) rfl rfl pd16 rfl
theorem q22_5 : Sem1 tables_1 KT μ22 5 (o_stI 3 6) := Sem1.stI_n d22_5 rfl
theorem q22_6 : Sem1 tables_1 KT μ22 6 (o_ldA 0 7) := Sem1.ldA_n d22_6 rfl
theorem q22_7 : Sem1 tables_1 KT μ22 7 (o_gF 0 3 10) := Sem1.gF d22_7 (host := "") (Or.inl (List.mem_of_getElem? (i := 32) rfl)) (Or.inl rfl) rfl rfl
theorem q22_10 : Sem1 tables_1 KT μ22 10 (o_ldI 3 11) := Sem1.ldI_n d22_10 rfl
theorem q22_11 : Sem1 tables_1 KT μ22 11 (o_bi 0 12) := Sem1.iadd d22_11
theorem q22_12 : Sem1 tables_1 KT μ22 12 (o_stI 4 14) := Sem1.stI d22_12
theorem q22_14 : Sem1 tables_1 KT μ22 14 (o_ldA 0 15) := Sem1.ldA_n d22_14 rfl
theorem q22_15 : Sem1 tables_1 KT μ22 15 (o_gF 0 4 18) := Sem1.gF d22_15 (host := "") (Or.inl (List.mem_of_getElem? (i := 34) rfl)) (Or.inl rfl) rfl rfl
theorem q22_18 : Sem1 tables_1 KT μ22 18 (o_ldI 4 20) := Sem1.ldI d22_18
theorem q22_20 : Sem1 tables_1 KT μ22 20 (o_iald 21) := Sem1.iald d22_20
theorem q22_21 : Sem1 tables_1 KT μ22 21 (o_ifc .lt 28 24) := Sem1.ifc d22_21 (by decide) (by decide)
theorem q22_24 : Sem1 tables_1 KT μ22 24 (o_cI 1 25) := Sem1.cI (fun h => W.iconst' d22_24 (by decide) h)
theorem q22_25 : Sem1 tables_1 KT μ22 25 (o_jmp 29) := Sem1.jmp d22_25 (by decide) (by decide)
theorem q22_28 : Sem1 tables_1 KT μ22 28 (o_cI 0 29) := Sem1.cI (fun h => W.iconst' d22_28 (by decide) h)
theorem q22_29 : Sem1 tables_1 KT μ22 29 (o_ldI 2 30) := Sem1.ldI_n d22_29 rfl
theorem q22_30 : Sem1 tables_1 KT μ22 30 (o_icmp .ne 58 33) := Sem1.icmp d22_30 (by decide) (by decide)
theorem q22_58 : Sem1 tables_1 KT μ22 58 (o_ldA 0 59) := Sem1.ldA_n d22_58 rfl
theorem q22_59 : Sem1 tables_1 KT μ22 59 (o_gF 0 4 62) := Sem1.gF d22_59 (host := "") (Or.inl (List.mem_of_getElem? (i := 34) rfl)) (Or.inl rfl) rfl rfl
theorem q22_62 : Sem1 tables_1 KT μ22 62 (o_ldI 4 64) := Sem1.ldI d22_62
theorem q22_64 : Sem1 tables_1 KT μ22 64 (o_ldI 2 65) := Sem1.ldI_n d22_64 rfl
theorem q22_65 : Sem1 tables_1 KT μ22 65 (o_ifc .eq 72 68) := Sem1.ifc d22_65 (by decide) (by decide)
theorem q22_68 : Sem1 tables_1 KT μ22 68 (o_ldI 3 69) := Sem1.ldI_n d22_68 rfl
theorem q22_69 : Sem1 tables_1 KT μ22 69 (o_jmp 73) := Sem1.jmp d22_69 (by decide) (by decide)
theorem q22_72 : Sem1 tables_1 KT μ22 72 (o_cI (-1) 73) := Sem1.cI (fun h => W.iconst' d22_72 (by decide) h)
theorem q22_73 : Sem1 tables_1 KT μ22 73 (o_iast 74) := Sem1.iast d22_73
theorem q22_74 : Sem1 tables_1 KT μ22 74 (o_ldA 0 75) := Sem1.ldA_n d22_74 rfl
theorem q22_75 : Sem1 tables_1 KT μ22 75 (o_gF 0 5 78) := Sem1.gF d22_75 (host := "") (Or.inl (List.mem_of_getElem? (i := 36) rfl)) (Or.inl rfl) rfl rfl
theorem q22_78 : Sem1 tables_1 KT μ22 78 (o_ldI 4 80) := Sem1.ldI d22_78
theorem q22_80 : Sem1 tables_1 KT μ22 80 (o_ldA 0 81) := Sem1.ldA_n d22_80 rfl
theorem q22_81 : Sem1 tables_1 KT μ22 81 (o_gF 0 4 84) := Sem1.gF d22_81 (host := "") (Or.inl (List.mem_of_getElem? (i := 34) rfl)) (Or.inl rfl) rfl rfl
theorem q22_84 : Sem1 tables_1 KT μ22 84 (o_ldI 4 86) := Sem1.ldI d22_84
theorem q22_86 : Sem1 tables_1 KT μ22 86 (o_iald 87) := Sem1.iald d22_86
theorem q22_87 : Sem1 tables_1 KT μ22 87 (o_iast 88) := Sem1.iast d22_87
theorem q22_88 : Sem1 tables_1 KT μ22 88 (o_ldA 0 89) := Sem1.ldA_n d22_88 rfl
theorem q22_89 : Sem1 tables_1 KT μ22 89 (o_dup 90) := Sem1.dup d22_89
theorem q22_90 : Sem1 tables_1 KT μ22 90 (o_gF 0 8 93) := Sem1.gF d22_90 (host := "") (Or.inl (List.mem_of_getElem? (i := 149) rfl)) (Or.inl rfl) rfl rfl
theorem q22_93 : Sem1 tables_1 KT μ22 93 (o_ldI 2 94) := Sem1.ldI_n d22_93 rfl
theorem q22_94 : Sem1 tables_1 KT μ22 94 (o_ifc .eq 101 97) := Sem1.ifc d22_94 (by decide) (by decide)
theorem q22_97 : Sem1 tables_1 KT μ22 97 (o_cI 1 98) := Sem1.cI (fun h => W.iconst' d22_97 (by decide) h)
theorem q22_98 : Sem1 tables_1 KT μ22 98 (o_jmp 102) := Sem1.jmp d22_98 (by decide) (by decide)
theorem q22_101 : Sem1 tables_1 KT μ22 101 (o_cI (-1) 102) := Sem1.cI (fun h => W.iconst' d22_101 (by decide) h)
theorem q22_102 : Sem1 tables_1 KT μ22 102 (o_bi 0 103) := Sem1.iadd d22_102
theorem q22_103 : Sem1 tables_1 KT μ22 103 (o_pF 0 8 0 106) := Sem1.pF kt d22_103 (host := "") (Or.inl (List.mem_of_getElem? (i := 149) rfl)) (Or.inl rfl) rfl rfl (Or.inl (List.mem_of_getElem? (i := 150) rfl)) (Or.inl ⟨rfl, rfl⟩)
theorem q22_106 : Sem1 tables_1 KT μ22 106 (o_cI 1 107) := Sem1.cI (fun h => W.iconst' d22_106 (by decide) h)
theorem q22_107 : Sem1 tables_1 KT μ22 107 (o_stI 5 109) := Sem1.stI d22_107
theorem q22_109 : Sem1 tables_1 KT μ22 109 (o_cI 1 110) := Sem1.cI (fun h => W.iconst' d22_109 (by decide) h)
theorem q22_110 : Sem1 tables_1 KT μ22 110 (o_stI 6 112) := Sem1.stI d22_110
theorem q22_112 : Sem1 tables_1 KT μ22 112 (o_ldI 4 114) := Sem1.ldI d22_112
theorem q22_114 : Sem1 tables_1 KT μ22 114 (o_stI 7 116) := Sem1.stI d22_114
theorem q22_116 : Sem1 tables_1 KT μ22 116 (o_ldI 7 118) := Sem1.ldI d22_116
theorem q22_118 : Sem1 tables_1 KT μ22 118 (o_cI 1 119) := Sem1.cI (fun h => W.iconst' d22_118 (by decide) h)
theorem q22_119 : Sem1 tables_1 KT μ22 119 (o_icmp .le 223 122) := Sem1.icmp d22_119 (by decide) (by decide)
theorem q22_122 : Sem1 tables_1 KT μ22 122 (o_ldI 5 124) := Sem1.ldI d22_122
theorem q22_124 : Sem1 tables_1 KT μ22 124 (o_ifc .ne 132 127) := Sem1.ifc d22_124 (by decide) (by decide)
theorem q22_127 : Sem1 tables_1 KT μ22 127 (o_ldI 6 129) := Sem1.ldI d22_127
theorem q22_129 : Sem1 tables_1 KT μ22 129 (o_ifc .eq 223 132) := Sem1.ifc d22_129 (by decide) (by decide)
theorem q22_132 : Sem1 tables_1 KT μ22 132 (o_ldI 7 134) := Sem1.ldI d22_132
theorem q22_134 : Sem1 tables_1 KT μ22 134 (o_cI 2 135) := Sem1.cI (fun h => W.iconst' d22_134 (by decide) h)
theorem q22_135 : Sem1 tables_1 KT μ22 135 (o_bi 5 136) := Sem1.idiv d22_135
theorem q22_136 : Sem1 tables_1 KT μ22 136 (o_stI 8 138) := Sem1.stI d22_136
theorem q22_138 : Sem1 tables_1 KT μ22 138 (o_ldI 7 140) := Sem1.ldI d22_138
theorem q22_140 : Sem1 tables_1 KT μ22 140 (o_cI 2 141) := Sem1.cI (fun h => W.iconst' d22_140 (by decide) h)
theorem q22_141 : Sem1 tables_1 KT μ22 141 (o_bi 6 142) := Sem1.irem d22_141
theorem q22_142 : Sem1 tables_1 KT μ22 142 (o_ifc .ne 149 145) := Sem1.ifc d22_142 (by decide) (by decide)
theorem q22_145 : Sem1 tables_1 KT μ22 145 (o_cI 1 146) := Sem1.cI (fun h => W.iconst' d22_145 (by decide) h)
theorem q22_146 : Sem1 tables_1 KT μ22 146 (o_jmp 150) := Sem1.jmp d22_146 (by decide) (by decide)
theorem q22_149 : Sem1 tables_1 KT μ22 149 (o_cI 0 150) := Sem1.cI (fun h => W.iconst' d22_149 (by decide) h)
theorem q22_150 : Sem1 tables_1 KT μ22 150 (o_stI 9 152) := Sem1.stI d22_150
theorem q22_152 : Sem1 tables_1 KT μ22 152 (o_ldA 0 153) := Sem1.ldA_n d22_152 rfl
theorem q22_153 : Sem1 tables_1 KT μ22 153 (o_ldI 8 155) := Sem1.ldI d22_153
theorem q22_155 : SemC tables_1 KT μ22 μ7 155 2 2 158 := SemC.P (c := 0) d22_155 (List.mem_of_getElem? (i := 73) rfl) (List.mem_of_getElem? (i := 75) rfl) kt (List.mem_of_getElem? (i := 74) rfl) (List.mem_of_getElem? (i := 19) rfl) (List.mem_of_getElem? (i := 76) rfl) (by decide) rfl rfl pd7 rfl
theorem q22_158 : Sem1 tables_1 KT μ22 158 (o_ldI 5 160) := Sem1.ldI d22_158
theorem q22_160 : Sem1 tables_1 KT μ22 160 (o_ifc .eq 183 163) := Sem1.ifc d22_160 (by decide) (by decide)
theorem q22_163 : Sem1 tables_1 KT μ22 163 (o_ldA 0 164) := Sem1.ldA_n d22_163 rfl
theorem q22_164 : Sem1 tables_1 KT μ22 164 (o_gF 0 6 167) := Sem1.gF d22_164 (host := "") (Or.inl (List.mem_of_getElem? (i := 65) rfl)) (Or.inl rfl) rfl rfl
theorem q22_167 : Sem1 tables_1 KT μ22 167 (o_ldI 8 169) := Sem1.ldI d22_167
theorem q22_169 : Sem1 tables_1 KT μ22 169 (o_ldI 3 170) := Sem1.ldI_n d22_169 rfl
theorem q22_170 : Sem1 tables_1 KT μ22 170 (o_ldI 9 172) := Sem1.ldI d22_170
theorem q22_172 : Sem1 tables_1 KT μ22 172 (o_ldI 2 173) := Sem1.ldI_n d22_172 rfl
theorem q22_173 : SemC tables_1 KT μ22 μ25 173 5 3 176 := SemC.V (c := 1) d22_173 (List.mem_of_getElem? (i := 168) rfl) (List.mem_of_getElem? (i := 169) rfl) (List.mem_of_getElem? (i := 171) rfl) (Or.inl rfl) kt (List.mem_of_getElem? (i := 170) rfl) (List.mem_of_getElem? (i := 40) rfl) (List.mem_of_getElem? (i := 172) rfl) (by decide) rfl pd18 rfl
theorem q22_176 : Sem1 tables_1 KT μ22 176 (o_ifc .eq 183 179) := Sem1.ifc d22_176 (by decide) (by decide)
theorem q22_179 : Sem1 tables_1 KT μ22 179 (o_cI 1 180) := Sem1.cI (fun h => W.iconst' d22_179 (by decide) h)
theorem q22_180 : Sem1 tables_1 KT μ22 180 (o_jmp 184) := Sem1.jmp d22_180 (by decide) (by decide)
theorem q22_183 : Sem1 tables_1 KT μ22 183 (o_cI 0 184) := Sem1.cI (fun h => W.iconst' d22_183 (by decide) h)
theorem q22_184 : Sem1 tables_1 KT μ22 184 (o_stI 5 186) := Sem1.stI d22_184
theorem q22_186 : Sem1 tables_1 KT μ22 186 (o_ldI 6 188) := Sem1.ldI d22_186
theorem q22_188 : Sem1 tables_1 KT μ22 188 (o_ifc .eq 211 191) := Sem1.ifc d22_188 (by decide) (by decide)
theorem q22_191 : Sem1 tables_1 KT μ22 191 (o_ldA 0 192) := Sem1.ldA_n d22_191 rfl
theorem q22_192 : Sem1 tables_1 KT μ22 192 (o_gF 0 7 195) := Sem1.gF d22_192 (host := "") (Or.inl (List.mem_of_getElem? (i := 67) rfl)) (Or.inl rfl) rfl rfl
theorem q22_195 : Sem1 tables_1 KT μ22 195 (o_ldI 8 197) := Sem1.ldI d22_195
theorem q22_197 : Sem1 tables_1 KT μ22 197 (o_ldI 3 198) := Sem1.ldI_n d22_197 rfl
theorem q22_198 : Sem1 tables_1 KT μ22 198 (o_ldI 9 200) := Sem1.ldI d22_198
theorem q22_200 : Sem1 tables_1 KT μ22 200 (o_ldI 2 201) := Sem1.ldI_n d22_200 rfl
theorem q22_201 : SemC tables_1 KT μ22 μ25 201 5 3 204 := SemC.V (c := 1) d22_201 (List.mem_of_getElem? (i := 168) rfl) (List.mem_of_getElem? (i := 169) rfl) (List.mem_of_getElem? (i := 171) rfl) (Or.inl rfl) kt (List.mem_of_getElem? (i := 170) rfl) (List.mem_of_getElem? (i := 40) rfl) (List.mem_of_getElem? (i := 172) rfl) (by decide) rfl pd18 rfl
theorem q22_204 : Sem1 tables_1 KT μ22 204 (o_ifc .eq 211 207) := Sem1.ifc d22_204 (by decide) (by decide)
theorem q22_207 : Sem1 tables_1 KT μ22 207 (o_cI 1 208) := Sem1.cI (fun h => W.iconst' d22_207 (by decide) h)
theorem q22_208 : Sem1 tables_1 KT μ22 208 (o_jmp 212) := Sem1.jmp d22_208 (by decide) (by decide)
theorem q22_211 : Sem1 tables_1 KT μ22 211 (o_cI 0 212) := Sem1.cI (fun h => W.iconst' d22_211 (by decide) h)
theorem q22_212 : Sem1 tables_1 KT μ22 212 (o_stI 6 214) := Sem1.stI d22_212
theorem q22_214 : Sem1 tables_1 KT μ22 214 (o_ldI 7 216) := Sem1.ldI d22_214
theorem q22_216 : Sem1 tables_1 KT μ22 216 (o_cI 2 217) := Sem1.cI (fun h => W.iconst' d22_216 (by decide) h)
theorem q22_217 : Sem1 tables_1 KT μ22 217 (o_bi 5 218) := Sem1.idiv d22_217
theorem q22_218 : Sem1 tables_1 KT μ22 218 (o_stI 7 220) := Sem1.stI d22_218
theorem q22_220 : Sem1 tables_1 KT μ22 220 (o_jmp 116) := Sem1.jmp d22_220 (by decide) (by decide)
theorem q22_223 : SemR tables_1 KT μ22 223 0 := SemR.v d22_223 rfl
def T22 : Tr := (tr1 (tr1 (tr1 (tr1 (tr1 (tr1 (tr1 tr0 0 (.inl (o_ldA 0 1)) tr0) 1 (.inl (o_ldI 1 2)) (tr1 tr0 2 (.inr (.inl (23, 2, 2, 5))) tr0)) 5 (.inl (o_stI 3 6)) (tr1 (tr1 tr0 6 (.inl (o_ldA 0 7)) tr0) 7 (.inl (o_gF 0 3 10)) tr0)) 10 (.inl (o_ldI 3 11)) (tr1 (tr1 (tr1 tr0 11 (.inl (o_bi 0 12)) tr0) 12 (.inl (o_stI 4 14)) (tr1 tr0 14 (.inl (o_ldA 0 15)) tr0)) 15 (.inl (o_gF 0 4 18)) (tr1 (tr1 tr0 18 (.inl (o_ldI 4 20)) tr0) 20 (.inl (o_iald 21)) tr0))) 21 (.inl (o_ifc .lt 28 24)) (tr1 (tr1 (tr1 (tr1 tr0 24 (.inl (o_cI 1 25)) tr0) 25 (.inl (o_jmp 29)) (tr1 tr0 28 (.inl (o_cI 0 29)) tr0)) 29 (.inl (o_ldI 2 30)) (tr1 (tr1 tr0 30 (.inl (o_icmp .ne 58 33)) tr0) 58 (.inl (o_ldA 0 59)) tr0)) 59 (.inl (o_gF 0 4 62)) (tr1 (tr1 (tr1 tr0 62 (.inl (o_ldI 4 64)) tr0) 64 (.inl (o_ldI 2 65)) (tr1 tr0 65 (.inl (o_ifc .eq 72 68)) tr0)) 68 (.inl (o_ldI 3 69)) (tr1 (tr1 tr0 69 (.inl (o_jmp 73)) tr0) 72 (.inl (o_cI (-1) 73)) tr0)))) 73 (.inl (o_iast 74)) (tr1 (tr1 (tr1 (tr1 (tr1 tr0 74 (.inl (o_ldA 0 75)) tr0) 75 (.inl (o_gF 0 5 78)) (tr1 tr0 78 (.inl (o_ldI 4 80)) tr0)) 80 (.inl (o_ldA 0 81)) (tr1 (tr1 tr0 81 (.inl (o_gF 0 4 84)) tr0) 84 (.inl (o_ldI 4 86)) tr0)) 86 (.inl (o_iald 87)) (tr1 (tr1 (tr1 tr0 87 (.inl (o_iast 88)) tr0) 88 (.inl (o_ldA 0 89)) (tr1 tr0 89 (.inl (o_dup 90)) tr0)) 90 (.inl (o_gF 0 8 93)) (tr1 (tr1 tr0 93 (.inl (o_ldI 2 94)) tr0) 94 (.inl (o_ifc .eq 101 97)) tr0))) 97 (.inl (o_cI 1 98)) (tr1 (tr1 (tr1 (tr1 tr0 98 (.inl (o_jmp 102)) tr0) 101 (.inl (o_cI (-1) 102)) (tr1 tr0 102 (.inl (o_bi 0 103)) tr0)) 103 (.inl (o_pF 0 8 0 106)) (tr1 (tr1 tr0 106 (.inl (o_cI 1 107)) tr0) 107 (.inl (o_stI 5 109)) tr0)) 109 (.inl (o_cI 1 110)) (tr1 (tr1 (tr1 tr0 110 (.inl (o_stI 6 112)) tr0) 112 (.inl (o_ldI 4 114)) tr0) 114 (.inl (o_stI 7 116)) (tr1 (tr1 tr0 116 (.inl (o_ldI 7 118)) tr0) 118 (.inl (o_cI 1 119)) tr0))))) 119 (.inl (o_icmp .le 223 122)) (tr1 (tr1 (tr1 (tr1 (tr1 (tr1 tr0 122 (.inl (o_ldI 5 124)) tr0) 124 (.inl (o_ifc .ne 132 127)) (tr1 tr0 127 (.inl (o_ldI 6 129)) tr0)) 129 (.inl (o_ifc .eq 223 132)) (tr1 (tr1 tr0 132 (.inl (o_ldI 7 134)) tr0) 134 (.inl (o_cI 2 135)) tr0)) 135 (.inl (o_bi 5 136)) (tr1 (tr1 (tr1 tr0 136 (.inl (o_stI 8 138)) tr0) 138 (.inl (o_ldI 7 140)) (tr1 tr0 140 (.inl (o_cI 2 141)) tr0)) 141 (.inl (o_bi 6 142)) (tr1 (tr1 tr0 142 (.inl (o_ifc .ne 149 145)) tr0) 145 (.inl (o_cI 1 146)) tr0))) 146 (.inl (o_jmp 150)) (tr1 (tr1 (tr1 (tr1 tr0 149 (.inl (o_cI 0 150)) tr0) 150 (.inl (o_stI 9 152)) (tr1 tr0 152 (.inl (o_ldA 0 153)) tr0)) 153 (.inl (o_ldI 8 155)) (tr1 (tr1 tr0 155 (.inr (.inl (7, 2, 2, 158))) tr0) 158 (.inl (o_ldI 5 160)) tr0)) 160 (.inl (o_ifc .eq 183 163)) (tr1 (tr1 (tr1 tr0 163 (.inl (o_ldA 0 164)) tr0) 164 (.inl (o_gF 0 6 167)) tr0) 167 (.inl (o_ldI 8 169)) (tr1 (tr1 tr0 169 (.inl (o_ldI 3 170)) tr0) 170 (.inl (o_ldI 9 172)) tr0)))) 172 (.inl (o_ldI 2 173)) (tr1 (tr1 (tr1 (tr1 (tr1 tr0 173 (.inr (.inl (25, 5, 3, 176))) tr0) 176 (.inl (o_ifc .eq 183 179)) (tr1 tr0 179 (.inl (o_cI 1 180)) tr0)) 180 (.inl (o_jmp 184)) (tr1 (tr1 tr0 183 (.inl (o_cI 0 184)) tr0) 184 (.inl (o_stI 5 186)) tr0)) 186 (.inl (o_ldI 6 188)) (tr1 (tr1 (tr1 tr0 188 (.inl (o_ifc .eq 211 191)) tr0) 191 (.inl (o_ldA 0 192)) (tr1 tr0 192 (.inl (o_gF 0 7 195)) tr0)) 195 (.inl (o_ldI 8 197)) (tr1 (tr1 tr0 197 (.inl (o_ldI 3 198)) tr0) 198 (.inl (o_ldI 9 200)) tr0))) 200 (.inl (o_ldI 2 201)) (tr1 (tr1 (tr1 (tr1 tr0 201 (.inr (.inl (25, 5, 3, 204))) tr0) 204 (.inl (o_ifc .eq 211 207)) (tr1 tr0 207 (.inl (o_cI 1 208)) tr0)) 208 (.inl (o_jmp 212)) (tr1 (tr1 tr0 211 (.inl (o_cI 0 212)) tr0) 212 (.inl (o_stI 6 214)) tr0)) 214 (.inl (o_ldI 7 216)) (tr1 (tr1 (tr1 tr0 216 (.inl (o_cI 2 217)) tr0) 217 (.inl (o_bi 5 218)) tr0) 218 (.inl (o_stI 7 220)) (tr1 (tr1 tr0 220 (.inl (o_jmp 116)) tr0) 223 (.inr (.inr 0)) tr0))))))
theorem a22 : TrAll (SemO tables_1 KT MS μ22) T22 := (all_n (all_n (all_n (all_n (all_n (all_n (all_n all_e q22_0 all_e) q22_1 (all_n all_e (SemO.call ms23 q22_2) all_e)) q22_5 (all_n (all_n all_e q22_6 all_e) q22_7 all_e)) q22_10 (all_n (all_n (all_n all_e q22_11 all_e) q22_12 (all_n all_e q22_14 all_e)) q22_15 (all_n (all_n all_e q22_18 all_e) q22_20 all_e))) q22_21 (all_n (all_n (all_n (all_n all_e q22_24 all_e) q22_25 (all_n all_e q22_28 all_e)) q22_29 (all_n (all_n all_e q22_30 all_e) q22_58 all_e)) q22_59 (all_n (all_n (all_n all_e q22_62 all_e) q22_64 (all_n all_e q22_65 all_e)) q22_68 (all_n (all_n all_e q22_69 all_e) q22_72 all_e)))) q22_73 (all_n (all_n (all_n (all_n (all_n all_e q22_74 all_e) q22_75 (all_n all_e q22_78 all_e)) q22_80 (all_n (all_n all_e q22_81 all_e) q22_84 all_e)) q22_86 (all_n (all_n (all_n all_e q22_87 all_e) q22_88 (all_n all_e q22_89 all_e)) q22_90 (all_n (all_n all_e q22_93 all_e) q22_94 all_e))) q22_97 (all_n (all_n (all_n (all_n all_e q22_98 all_e) q22_101 (all_n all_e q22_102 all_e)) q22_103 (all_n (all_n all_e q22_106 all_e) q22_107 all_e)) q22_109 (all_n (all_n (all_n all_e q22_110 all_e) q22_112 all_e) q22_114 (all_n (all_n all_e q22_116 all_e) q22_118 all_e))))) q22_119 (all_n (all_n (all_n (all_n (all_n (all_n all_e q22_122 all_e) q22_124 (all_n all_e q22_127 all_e)) q22_129 (all_n (all_n all_e q22_132 all_e) q22_134 all_e)) q22_135 (all_n (all_n (all_n all_e q22_136 all_e) q22_138 (all_n all_e q22_140 all_e)) q22_141 (all_n (all_n all_e q22_142 all_e) q22_145 all_e))) q22_146 (all_n (all_n (all_n (all_n all_e q22_149 all_e) q22_150 (all_n all_e q22_152 all_e)) q22_153 (all_n (all_n all_e (SemO.call ms7 q22_155) all_e) q22_158 all_e)) q22_160 (all_n (all_n (all_n all_e q22_163 all_e) q22_164 all_e) q22_167 (all_n (all_n all_e q22_169 all_e) q22_170 all_e)))) q22_172 (all_n (all_n (all_n (all_n (all_n all_e (SemO.call ms25 q22_173) all_e) q22_176 (all_n all_e q22_179 all_e)) q22_180 (all_n (all_n all_e q22_183 all_e) q22_184 all_e)) q22_186 (all_n (all_n (all_n all_e q22_188 all_e) q22_191 (all_n all_e q22_192 all_e)) q22_195 (all_n (all_n all_e q22_197 all_e) q22_198 all_e))) q22_200 (all_n (all_n (all_n (all_n all_e (SemO.call ms25 q22_201) all_e) q22_204 (all_n all_e q22_207 all_e)) q22_208 (all_n (all_n all_e q22_211 all_e) q22_212 all_e)) q22_214 (all_n (all_n (all_n all_e q22_216 all_e) q22_217 all_e) q22_218 (all_n (all_n all_e q22_220 all_e) q22_223 all_e))))))
abbrev R22 : Room := ⟨5, 0, 0, 95⟩
theorem d23_0 : decode prog_13_method_10_code 0 = .ok (.aload_n 0, 1) := by decide +kernel
theorem d23_1 : decode prog_13_method_10_code 1 = .ok (.aload_n 0, 1) := by decide +kernel
theorem d23_2 : decode prog_13_method_10_code 2 = .ok (.getfield 7, 3) := by decide +kernel
theorem d23_5 : decode prog_13_method_10_code 5 = .ok (.iload_n 1, 1) := by decide +kernel
theorem d23_6 : decode prog_13_method_10_code 6 = .ok (.laload, 1) := by decide +kernel
theorem d23_7 : decode prog_13_method_10_code 7 = .ok (.invokevirtual 63, 3) := by decide +kernel
theorem d23_10 : decode prog_13_method_10_code 10 = .ok (.istore_n 2, 1) := by decide +kernel
theorem d23_11 : decode prog_13_method_10_code 11 = .ok (.iload_n 2, 1) := by decide +kernel
theorem d23_12 : decode prog_13_method_10_code 12 = .ok (.aload_n 0, 1) := by decide +kernel
theorem d23_13 : decode prog_13_method_10_code 13 = .ok (.getfield 13, 3) := by decide +kernel
theorem d23_16 : decode prog_13_method_10_code 16 = .ok (.arraylength, 1) := by decide +kernel
theorem d23_17 : decode prog_13_method_10_code 17 = .ok (.if_icmp .eq 13, 3) := by decide +kernel
theorem d23_20 : decode prog_13_method_10_code 20 = .ok (.aload_n 0, 1) := by decide +kernel
theorem d23_21 : decode prog_13_method_10_code 21 = .ok (.getfield 13, 3) := by decide +kernel
theorem d23_24 : decode prog_13_method_10_code 24 = .ok (.iload_n 2, 1) := by decide +kernel
theorem d23_25 : decode prog_13_method_10_code 25 = .ok (.iaload, 1) := by decide +kernel
theorem d23_26 : decode prog_13_method_10_code 26 = .ok (.iload_n 1, 1) := by decide +kernel
theorem d23_27 : decode prog_13_method_10_code 27 = .ok (.if_icmp .eq 17, 3) := by decide +kernel
theorem d23_44 : decode prog_13_method_10_code 44 = .ok (.iload_n 2, 1) := by decide +kernel
theorem d23_45 : decode prog_13_method_10_code 45 = .ok (.ireturn, 1) := by decide +kernel
theorem q23_0 : Sem1 tables_1 KT μ23 0 (o_ldA 0 1) := Sem1.ldA_n d23_0 rfl
theorem q23_1 : Sem1 tables_1 KT μ23 1 (o_ldA 0 2) := Sem1.ldA_n d23_1 rfl
theorem q23_2 : Sem1 tables_1 KT μ23 2 (o_gF 0 0 5) := Sem1.gF d23_2 (host := "") (Or.inl (List.mem_of_getElem? (i := 26) rfl)) (Or.inl rfl) rfl rfl
theorem q23_5 : Sem1 tables_1 KT μ23 5 (o_ldI 1 6) := Sem1.ldI_n d23_5 rfl
theorem q23_6 : Sem1 tables_1 KT μ23 6 (o_lald 7) := Sem1.lald d23_6
theorem q23_7 : SemC tables_1 KT μ23 μ24 7 2 2 10 := SemC.P (c := 0) d23_7 (List.mem_of_getElem? (i := 164) rfl) (List.mem_of_getElem? (i := 166) rfl) kt (List.mem_of_getElem? (i := 165) rfl) (List.mem_of_getElem? (i := 19) rfl) (List.mem_of_getElem? (i := 167) rfl) (by decide) rfl rfl pd17 rfl
theorem q23_10 : Sem1 tables_1 KT μ23 10 (o_stI 2 11) := Sem1.stI_n d23_10 rfl
theorem q23_11 : Sem1 tables_1 KT μ23 11 (o_ldI 2 12) := Sem1.ldI_n d23_11 rfl
theorem q23_12 : Sem1 tables_1 KT μ23 12 (o_ldA 0 13) := Sem1.ldA_n d23_12 rfl
theorem q23_13 : Sem1 tables_1 KT μ23 13 (o_gF 0 1 16) := Sem1.gF d23_13 (host := "") (Or.inl (List.mem_of_getElem? (i := 28) rfl)) (Or.inl rfl) rfl rfl
theorem q23_16 : Sem1 tables_1 KT μ23 16 (o_alen 17) := Sem1.alen d23_16
theorem q23_17 : Sem1 tables_1 KT μ23 17 (o_icmp .eq 30 20) := Sem1.icmp d23_17 (by decide) (by decide)
theorem q23_20 : Sem1 tables_1 KT μ23 20 (o_ldA 0 21) := Sem1.ldA_n d23_20 rfl
theorem q23_21 : Sem1 tables_1 KT μ23 21 (o_gF 0 1 24) := Sem1.gF d23_21 (host := "") (Or.inl (List.mem_of_getElem? (i := 28) rfl)) (Or.inl rfl) rfl rfl
theorem q23_24 : Sem1 tables_1 KT μ23 24 (o_ldI 2 25) := Sem1.ldI_n d23_24 rfl
theorem q23_25 : Sem1 tables_1 KT μ23 25 (o_iald 26) := Sem1.iald d23_25
theorem q23_26 : Sem1 tables_1 KT μ23 26 (o_ldI 1 27) := Sem1.ldI_n d23_26 rfl
theorem q23_27 : Sem1 tables_1 KT μ23 27 (o_icmp .eq 44 30) := Sem1.icmp d23_27 (by decide) (by decide)
theorem q23_44 : Sem1 tables_1 KT μ23 44 (o_ldI 2 45) := Sem1.ldI_n d23_44 rfl
theorem q23_45 : SemR tables_1 KT μ23 45 1 := SemR.i d23_45 rfl
def T23 : Tr := (tr1 (tr1 (tr1 (tr1 (tr1 tr0 0 (.inl (o_ldA 0 1)) tr0) 1 (.inl (o_ldA 0 2)) tr0) 2 (.inl (o_gF 0 0 5)) (tr1 (tr1 tr0 5 (.inl (o_ldI 1 6)) tr0) 6 (.inl (o_lald 7)) tr0)) 7 (.inr (.inl (24, 2, 2, 10))) (tr1 (tr1 (tr1 tr0 10 (.inl (o_stI 2 11)) tr0) 11 (.inl (o_ldI 2 12)) tr0) 12 (.inl (o_ldA 0 13)) (tr1 tr0 13 (.inl (o_gF 0 1 16)) tr0))) 16 (.inl (o_alen 17)) (tr1 (tr1 (tr1 (tr1 tr0 17 (.inl (o_icmp .eq 30 20)) tr0) 20 (.inl (o_ldA 0 21)) tr0) 21 (.inl (o_gF 0 1 24)) (tr1 tr0 24 (.inl (o_ldI 2 25)) tr0)) 25 (.inl (o_iald 26)) (tr1 (tr1 (tr1 tr0 26 (.inl (o_ldI 1 27)) tr0) 27 (.inl (o_icmp .eq 44 30)) tr0) 44 (.inl (o_ldI 2 45)) (tr1 tr0 45 (.inr (.inr 1)) tr0))))
theorem a23 : TrAll (SemO tables_1 KT MS μ23) T23 := (all_n (all_n (all_n (all_n (all_n all_e q23_0 all_e) q23_1 all_e) q23_2 (all_n (all_n all_e q23_5 all_e) q23_6 all_e)) (SemO.call ms24 q23_7) (all_n (all_n (all_n all_e q23_10 all_e) q23_11 all_e) q23_12 (all_n all_e q23_13 all_e))) q23_16 (all_n (all_n (all_n (all_n all_e q23_17 all_e) q23_20 all_e) q23_21 (all_n all_e q23_24 all_e)) q23_25 (all_n (all_n (all_n all_e q23_26 all_e) q23_27 all_e) q23_44 (all_n all_e q23_45 all_e))))
abbrev R23 : Room := ⟨1, 0, 0, 17⟩
theorem d24_0 : decode prog_13_method_11_code 0 = .ok (.iconst 0, 1) := by decide +kernel
theorem d24_1 : decode prog_13_method_11_code 1 = .ok (.istore_n 3, 1) := by decide +kernel
theorem d24_2 : decode prog_13_method_11_code 2 = .ok (.aload_n 0, 1) := by decide +kernel
theorem d24_3 : decode prog_13_method_11_code 3 = .ok (.getfield 13, 3) := by decide +kernel
theorem d24_6 : decode prog_13_method_11_code 6 = .ok (.arraylength, 1) := by decide +kernel
theorem d24_7 : decode prog_13_method_11_code 7 = .ok (.istore 4, 2) := by decide +kernel
theorem d24_9 : decode prog_13_method_11_code 9 = .ok (.iload_n 3, 1) := by decide +kernel
theorem d24_10 : decode prog_13_method_11_code 10 = .ok (.iload 4, 2) := by decide +kernel
theorem d24_12 : decode prog_13_method_11_code 12 = .ok (.if_icmp .ge 40, 3) := by decide +kernel
theorem d24_15 : decode prog_13_method_11_code 15 = .ok (.iload_n 3, 1) := by decide +kernel
theorem d24_16 : decode prog_13_method_11_code 16 = .ok (.iload 4, 2) := by decide +kernel
theorem d24_18 : decode prog_13_method_11_code 18 = .ok (.iadd, 1) := by decide +kernel
theorem d24_19 : decode prog_13_method_11_code 19 = .ok (.iconst 1, 1) := by decide +kernel
theorem d24_20 : decode prog_13_method_11_code 20 = .ok (.iushr, 1) := by decide +kernel
theorem d24_21 : decode prog_13_method_11_code 21 = .ok (.istore 5, 2) := by decide +kernel
theorem d24_23 : decode prog_13_method_11_code 23 = .ok (.aload_n 0, 1) := by decide +kernel
theorem d24_24 : decode prog_13_method_11_code 24 = .ok (.getfield 17, 3) := by decide +kernel
theorem d24_27 : decode prog_13_method_11_code 27 = .ok (.iconst 2, 1) := by decide +kernel
theorem d24_28 : decode prog_13_method_11_code 28 = .ok (.iload 5, 2) := by decide +kernel
theorem d24_30 : decode prog_13_method_11_code 30 = .ok (.imul, 1) := by decide +kernel
theorem d24_31 : decode prog_13_method_11_code 31 = .ok (.laload, 1) := by decide +kernel
theorem d24_32 : decode prog_13_method_11_code 32 = .ok (.lload_n 1, 1) := by decide +kernel
theorem d24_33 : decode prog_13_method_11_code 33 = .ok (.lcmp, 1) := by decide +kernel
theorem d24_34 : decode prog_13_method_11_code 34 = .ok (.ifCond .ge 11, 3) := by decide +kernel
theorem d24_37 : decode prog_13_method_11_code 37 = .ok (.iload 5, 2) := by decide +kernel
theorem d24_39 : decode prog_13_method_11_code 39 = .ok (.iconst 1, 1) := by decide +kernel
theorem d24_40 : decode prog_13_method_11_code 40 = .ok (.iadd, 1) := by decide +kernel
theorem d24_41 : decode prog_13_method_11_code 41 = .ok (.istore_n 3, 1) := by decide +kernel
theorem d24_42 : decode prog_13_method_11_code 42 = .ok (.goto 7, 3) := by decide +kernel
theorem d24_45 : decode prog_13_method_11_code 45 = .ok (.iload 5, 2) := by decide +kernel
theorem d24_47 : decode prog_13_method_11_code 47 = .ok (.istore 4, 2) := by decide +kernel
theorem d24_49 : decode prog_13_method_11_code 49 = .ok (.goto (-40), 3) := by decide +kernel
theorem d24_52 : decode prog_13_method_11_code 52 = .ok (.iload_n 3, 1) := by decide +kernel
theorem d24_53 : decode prog_13_method_11_code 53 = .ok (.ireturn, 1) := by decide +kernel
theorem q24_0 : Sem1 tables_1 KT μ24 0 (o_cI 0 1) := Sem1.cI (fun h => W.iconst' d24_0 (by decide) h)
theorem q24_1 : Sem1 tables_1 KT μ24 1 (o_stI 3 2) := Sem1.stI_n d24_1 rfl
theorem q24_2 : Sem1 tables_1 KT μ24 2 (o_ldA 0 3) := Sem1.ldA_n d24_2 rfl
theorem q24_3 : Sem1 tables_1 KT μ24 3 (o_gF 0 1 6) := Sem1.gF d24_3 (host := "") (Or.inl (List.mem_of_getElem? (i := 28) rfl)) (Or.inl rfl) rfl rfl
theorem q24_6 : Sem1 tables_1 KT μ24 6 (o_alen 7) := Sem1.alen d24_6
theorem q24_7 : Sem1 tables_1 KT μ24 7 (o_stI 4 9) := Sem1.stI d24_7
theorem q24_9 : Sem1 tables_1 KT μ24 9 (o_ldI 3 10) := Sem1.ldI_n d24_9 rfl
theorem q24_10 : Sem1 tables_1 KT μ24 10 (o_ldI 4 12) := Sem1.ldI d24_10
theorem q24_12 : Sem1 tables_1 KT μ24 12 (o_icmp .ge 52 15) := Sem1.icmp d24_12 (by decide) (by decide)
theorem q24_15 : Sem1 tables_1 KT μ24 15 (o_ldI 3 16) := Sem1.ldI_n d24_15 rfl
theorem q24_16 : Sem1 tables_1 KT μ24 16 (o_ldI 4 18) := Sem1.ldI d24_16
theorem q24_18 : Sem1 tables_1 KT μ24 18 (o_bi 0 19) := Sem1.iadd d24_18
theorem q24_19 : Sem1 tables_1 KT μ24 19 (o_cI 1 20) := Sem1.cI (fun h => W.iconst' d24_19 (by decide) h)
theorem q24_20 : Sem1 tables_1 KT μ24 20 (o_bi 7 21) := Sem1.iushr d24_20
theorem q24_21 : Sem1 tables_1 KT μ24 21 (o_stI 5 23) := Sem1.stI d24_21
theorem q24_23 : Sem1 tables_1 KT μ24 23 (o_ldA 0 24) := Sem1.ldA_n d24_23 rfl
theorem q24_24 : Sem1 tables_1 KT μ24 24 (o_gF 0 2 27) := Sem1.gF d24_24 (host := "") (Or.inl (List.mem_of_getElem? (i := 30) rfl)) (Or.inl rfl) rfl rfl
theorem q24_27 : Sem1 tables_1 KT μ24 27 (o_cI 2 28) := Sem1.cI (fun h => W.iconst' d24_27 (by decide) h)
theorem q24_28 : Sem1 tables_1 KT μ24 28 (o_ldI 5 30) := Sem1.ldI d24_28
theorem q24_30 : Sem1 tables_1 KT μ24 30 (o_bi 2 31) := Sem1.imul d24_30
theorem q24_31 : Sem1 tables_1 KT μ24 31 (o_lald 32) := Sem1.lald d24_31
theorem q24_32 : Sem1 tables_1 KT μ24 32 (o_ldL 1 33) := Sem1.ldL_n d24_32 rfl
theorem q24_33 : Sem1 tables_1 KT μ24 33 (o_lcif .ge 45 37) := Sem1.lcif d24_33 rfl d24_34 (by decide) (by decide)
theorem q24_37 : Sem1 tables_1 KT μ24 37 (o_ldI 5 39) := Sem1.ldI d24_37
theorem q24_39 : Sem1 tables_1 KT μ24 39 (o_cI 1 40) := Sem1.cI (fun h => W.iconst' d24_39 (by decide) h)
theorem q24_40 : Sem1 tables_1 KT μ24 40 (o_bi 0 41) := Sem1.iadd d24_40
theorem q24_41 : Sem1 tables_1 KT μ24 41 (o_stI 3 42) := Sem1.stI_n d24_41 rfl
theorem q24_42 : Sem1 tables_1 KT μ24 42 (o_jmp 49) := Sem1.jmp d24_42 (by decide) (by decide)
theorem q24_45 : Sem1 tables_1 KT μ24 45 (o_ldI 5 47) := Sem1.ldI d24_45
theorem q24_47 : Sem1 tables_1 KT μ24 47 (o_stI 4 49) := Sem1.stI d24_47
theorem q24_49 : Sem1 tables_1 KT μ24 49 (o_jmp 9) := Sem1.jmp d24_49 (by decide) (by decide)
theorem q24_52 : Sem1 tables_1 KT μ24 52 (o_ldI 3 53) := Sem1.ldI_n d24_52 rfl
theorem q24_53 : SemR tables_1 KT μ24 53 1 := SemR.i d24_53 rfl
def T24 : Tr := (tr1 (tr1 (tr1 (tr1 (tr1 (tr1 tr0 0 (.inl (o_cI 0 1)) tr0) 1 (.inl (o_stI 3 2)) tr0) 2 (.inl (o_ldA 0 3)) (tr1 tr0 3 (.inl (o_gF 0 1 6)) tr0)) 6 (.inl (o_alen 7)) (tr1 (tr1 tr0 7 (.inl (o_stI 4 9)) tr0) 9 (.inl (o_ldI 3 10)) (tr1 tr0 10 (.inl (o_ldI 4 12)) tr0))) 12 (.inl (o_icmp .ge 52 15)) (tr1 (tr1 (tr1 tr0 15 (.inl (o_ldI 3 16)) tr0) 16 (.inl (o_ldI 4 18)) (tr1 tr0 18 (.inl (o_bi 0 19)) tr0)) 19 (.inl (o_cI 1 20)) (tr1 (tr1 tr0 20 (.inl (o_bi 7 21)) tr0) 21 (.inl (o_stI 5 23)) (tr1 tr0 23 (.inl (o_ldA 0 24)) tr0)))) 24 (.inl (o_gF 0 2 27)) (tr1 (tr1 (tr1 (tr1 (tr1 tr0 27 (.inl (o_cI 2 28)) tr0) 28 (.inl (o_ldI 5 30)) tr0) 30 (.inl (o_bi 2 31)) (tr1 tr0 31 (.inl (o_lald 32)) tr0)) 32 (.inl (o_ldL 1 33)) (tr1 (tr1 tr0 33 (.inl (o_lcif .ge 45 37)) tr0) 37 (.inl (o_ldI 5 39)) (tr1 tr0 39 (.inl (o_cI 1 40)) tr0))) 40 (.inl (o_bi 0 41)) (tr1 (tr1 (tr1 tr0 41 (.inl (o_stI 3 42)) tr0) 42 (.inl (o_jmp 49)) (tr1 tr0 45 (.inl (o_ldI 5 47)) tr0)) 47 (.inl (o_stI 4 49)) (tr1 (tr1 tr0 49 (.inl (o_jmp 9)) tr0) 52 (.inl (o_ldI 3 53)) (tr1 tr0 53 (.inr (.inr 1)) tr0)))))
theorem a24 : TrAll (SemO tables_1 KT MS μ24) T24 := (all_n (all_n (all_n (all_n (all_n (all_n all_e q24_0 all_e) q24_1 all_e) q24_2 (all_n all_e q24_3 all_e)) q24_6 (all_n (all_n all_e q24_7 all_e) q24_9 (all_n all_e q24_10 all_e))) q24_12 (all_n (all_n (all_n all_e q24_15 all_e) q24_16 (all_n all_e q24_18 all_e)) q24_19 (all_n (all_n all_e q24_20 all_e) q24_21 (all_n all_e q24_23 all_e)))) q24_24 (all_n (all_n (all_n (all_n (all_n all_e q24_27 all_e) q24_28 all_e) q24_30 (all_n all_e q24_31 all_e)) q24_32 (all_n (all_n all_e q24_33 all_e) q24_37 (all_n all_e q24_39 all_e))) q24_40 (all_n (all_n (all_n all_e q24_41 all_e) q24_42 (all_n all_e q24_45 all_e)) q24_47 (all_n (all_n all_e q24_49 all_e) q24_52 (all_n all_e q24_53 all_e)))))
abbrev R24 : Room := ⟨0, 0, 0, 0⟩
theorem d25_0 : decode prog_14_method_3_code 0 = .ok (.iload_n 3, 1) := by decide +kernel
theorem d25_1 : decode prog_14_method_3_code 1 = .ok (.ifCond .eq 9, 3) := by decide +kernel
theorem d25_4 : decode prog_14_method_3_code 4 = .ok (.iconst 2, 1) := by decide +kernel
theorem d25_5 : decode prog_14_method_3_code 5 = .ok (.iload_n 1, 1) := by decide +kernel
theorem d25_6 : decode prog_14_method_3_code 6 = .ok (.imul, 1) := by decide +kernel
theorem d25_7 : decode prog_14_method_3_code 7 = .ok (.goto 8, 3) := by decide +kernel
theorem d25_10 : decode prog_14_method_3_code 10 = .ok (.iconst 2, 1) := by decide +kernel
theorem d25_11 : decode prog_14_method_3_code 11 = .ok (.iload_n 1, 1) := by decide +kernel
theorem d25_12 : decode prog_14_method_3_code 12 = .ok (.imul, 1) := by decide +kernel
theorem d25_13 : decode prog_14_method_3_code 13 = .ok (.iconst 1, 1) := by decide +kernel
theorem d25_14 : decode prog_14_method_3_code 14 = .ok (.iadd, 1) := by decide +kernel
theorem d25_15 : decode prog_14_method_3_code 15 = .ok (.istore 5, 2) := by decide +kernel
theorem d25_17 : decode prog_14_method_3_code 17 = .ok (.iload_n 3, 1) := by decide +kernel
theorem d25_18 : decode prog_14_method_3_code 18 = .ok (.ifCond .eq 11, 3) := by decide +kernel
theorem d25_21 : decode prog_14_method_3_code 21 = .ok (.iconst 2, 1) := by decide +kernel
theorem d25_22 : decode prog_14_method_3_code 22 = .ok (.iload_n 1, 1) := by decide +kernel
theorem d25_23 : decode prog_14_method_3_code 23 = .ok (.imul, 1) := by decide +kernel
theorem d25_24 : decode prog_14_method_3_code 24 = .ok (.iconst 1, 1) := by decide +kernel
theorem d25_25 : decode prog_14_method_3_code 25 = .ok (.iadd, 1) := by decide +kernel
theorem d25_26 : decode prog_14_method_3_code 26 = .ok (.goto 6, 3) := by decide +kernel
theorem d25_29 : decode prog_14_method_3_code 29 = .ok (.iconst 2, 1) := by decide +kernel
theorem d25_30 : decode prog_14_method_3_code 30 = .ok (.iload_n 1, 1) := by decide +kernel
theorem d25_31 : decode prog_14_method_3_code 31 = .ok (.imul, 1) := by decide +kernel
theorem d25_32 : decode prog_14_method_3_code 32 = .ok (.istore 6, 2) := by decide +kernel
theorem d25_34 : decode prog_14_method_3_code 34 = .ok (.aload_n 0, 1) := by decide +kernel
theorem d25_35 : decode prog_14_method_3_code 35 = .ok (.getfield 1, 3) := by decide +kernel
theorem d25_38 : decode prog_14_method_3_code 38 = .ok (.getfield 77, 3) := by decide +kernel
theorem d25_41 : decode prog_14_method_3_code 41 = .ok (.iload 6, 2) := by decide +kernel
theorem d25_43 : decode prog_14_method_3_code 43 = .ok (.iaload, 1) := by decide +kernel
theorem d25_44 : decode prog_14_method_3_code 44 = .ok (.ifCond .lt 16, 3) := by decide +kernel
theorem d25_47 : decode prog_14_method_3_code 47 = .ok (.aload_n 0, 1) := by decide +kernel
theorem d25_48 : decode prog_14_method_3_code 48 = .ok (.getfield 1, 3) := by decide +kernel
theorem d25_51 : decode prog_14_method_3_code 51 = .ok (.getfield 77, 3) := by decide +kernel
theorem d25_54 : decode prog_14_method_3_code 54 = .ok (.iload 5, 2) := by decide +kernel
theorem d25_56 : decode prog_14_method_3_code 56 = .ok (.iaload, 1) := by decide +kernel
theorem d25_57 : decode prog_14_method_3_code 57 = .ok (.ifCond .ge 5, 3) := by decide +kernel
theorem d25_60 : decode prog_14_method_3_code 60 = .ok (.iconst 1, 1) := by decide +kernel
theorem d25_61 : decode prog_14_method_3_code 61 = .ok (.ireturn, 1) := by decide +kernel
theorem d25_62 : decode prog_14_method_3_code 62 = .ok (.aload_n 0, 1) := by decide +kernel
theorem d25_63 : decode prog_14_method_3_code 63 = .ok (.getfield 1, 3) := by decide +kernel
theorem d25_66 : decode prog_14_method_3_code 66 = .ok (.getfield 77, 3) := by decide +kernel
theorem d25_69 : decode prog_14_method_3_code 69 = .ok (.iload 5, 2) := by decide +kernel
theorem d25_71 : decode prog_14_method_3_code 71 = .ok (.iaload, 1) := by decide +kernel
theorem d25_72 : decode prog_14_method_3_code 72 = .ok (.iload_n 2, 1) := by decide +kernel
theorem d25_73 : decode prog_14_method_3_code 73 = .ok (.if_icmp .ne 21, 3) := by decide +kernel
theorem d25_76 : decode prog_14_method_3_code 76 = .ok (.aload_n 0, 1) := by decide +kernel
theorem d25_77 : decode prog_14_method_3_code 77 = .ok (.getfield 1, 3) := by decide +kernel
theorem d25_80 : decode prog_14_method_3_code 80 = .ok (.getfield 80, 3) := by decide +kernel
theorem d25_83 : decode prog_14_method_3_code 83 = .ok (.iload 5, 2) := by decide +kernel
theorem d25_85 : decode prog_14_method_3_code 85 = .ok (.iaload, 1) := by decide +kernel
theorem d25_86 : decode prog_14_method_3_code 86 = .ok (.iload_n 2, 1) := by decide +kernel
theorem d25_87 : decode prog_14_method_3_code 87 = .ok (.if_icmp .ne 7, 3) := by decide +kernel
theorem d25_90 : decode prog_14_method_3_code 90 = .ok (.iconst 1, 1) := by decide +kernel
theorem d25_91 : decode prog_14_method_3_code 91 = .ok (.goto 4, 3) := by decide +kernel
theorem d25_94 : decode prog_14_method_3_code 94 = .ok (.iconst 0, 1) := by decide +kernel
theorem d25_95 : decode prog_14_method_3_code 95 = .ok (.istore 7, 2) := by decide +kernel
theorem d25_97 : decode prog_14_method_3_code 97 = .ok (.iload 4, 2) := by decide +kernel
theorem d25_99 : decode prog_14_method_3_code 99 = .ok (.ifCond .eq 75, 3) := by decide +kernel
theorem d25_102 : decode prog_14_method_3_code 102 = .ok (.iload 7, 2) := by decide +kernel
theorem d25_104 : decode prog_14_method_3_code 104 = .ok (.ifCond .ne 29, 3) := by decide +kernel
theorem d25_107 : decode prog_14_method_3_code 107 = .ok (.aload_n 0, 1) := by decide +kernel
theorem d25_108 : decode prog_14_method_3_code 108 = .ok (.iload_n 2, 1) := by decide +kernel
theorem d25_109 : decode prog_14_method_3_code 109 = .ok (.aload_n 0, 1) := by decide +kernel
theorem d25_110 : decode prog_14_method_3_code 110 = .ok (.getfield 34, 3) := by decide +kernel
theorem d25_113 : decode prog_14_method_3_code 113 = .ok (.iconst 2, 1) := by decide +kernel
theorem d25_114 : decode prog_14_method_3_code 114 = .ok (.iload_n 1, 1) := by decide +kernel
theorem d25_115 : decode prog_14_method_3_code 115 = .ok (.imul, 1) := by decide +kernel
theorem d25_116 : decode prog_14_method_3_code 116 = .ok (.iaload, 1) := by decide +kernel
theorem d25_117 : decode prog_14_method_3_code 117 = .ok (.aload_n 0, 1) := by decide +kernel
theorem d25_118 : decode prog_14_method_3_code 118 = .ok (.getfield 34, 3) := by decide +kernel
theorem d25_121 : decode prog_14_method_3_code 121 = .ok (.iconst 2, 1) := by decide +kernel
theorem d25_122 : decode prog_14_method_3_code 122 = .ok (.iload_n 1, 1) := by decide +kernel
theorem d25_123 : decode prog_14_method_3_code 123 = .ok (.imul, 1) := by decide +kernel
theorem d25_124 : decode prog_14_method_3_code 124 = .ok (.iconst 1, 1) := by decide +kernel
theorem d25_125 : decode prog_14_method_3_code 125 = .ok (.iadd, 1) := by decide +kernel
theorem d25_126 : decode prog_14_method_3_code 126 = .ok (.iaload, 1) := by decide +kernel
theorem d25_127 : decode prog_14_method_3_code 127 = .ok (.invokevirtual 83, 3) := by decide +kernel
theorem d25_130 : decode prog_14_method_3_code 130 = .ok (.ifCond .eq 44, 3) := by decide +kernel
theorem d25_133 : decode prog_14_method_3_code 133 = .ok (.aload_n 0, 1) := by decide +kernel
theorem d25_134 : decode prog_14_method_3_code 134 = .ok (.iload_n 1, 1) := by decide +kernel
theorem d25_135 : decode prog_14_method_3_code 135 = .ok (.iload_n 3, 1) := by decide +kernel
theorem d25_136 : decode prog_14_method_3_code 136 = .ok (.ifCond .eq 15, 3) := by decide +kernel
theorem d25_139 : decode prog_14_method_3_code 139 = .ok (.aload_n 0, 1) := by decide +kernel
theorem d25_140 : decode prog_14_method_3_code 140 = .ok (.getfield 1, 3) := by decide +kernel
theorem d25_143 : decode prog_14_method_3_code 143 = .ok (.getfield 29, 3) := by decide +kernel
theorem d25_146 : decode prog_14_method_3_code 146 = .ok (.iload_n 2, 1) := by decide +kernel
theorem d25_147 : decode prog_14_method_3_code 147 = .ok (.iadd, 1) := by decide +kernel
theorem d25_148 : decode prog_14_method_3_code 148 = .ok (.goto 5, 3) := by decide +kernel
theorem d25_151 : decode prog_14_method_3_code 151 = .ok (.iload 6, 2) := by decide +kernel
theorem d25_153 : decode prog_14_method_3_code 153 = .ok (.iload_n 3, 1) := by decide +kernel
theorem d25_154 : decode prog_14_method_3_code 154 = .ok (.ifCond .eq 8, 3) := by decide +kernel
theorem d25_157 : decode prog_14_method_3_code 157 = .ok (.iload 6, 2) := by decide +kernel
theorem d25_159 : decode prog_14_method_3_code 159 = .ok (.goto 12, 3) := by decide +kernel
theorem d25_162 : decode prog_14_method_3_code 162 = .ok (.aload_n 0, 1) := by decide +kernel
theorem d25_163 : decode prog_14_method_3_code 163 = .ok (.getfield 1, 3) := by decide +kernel
theorem d25_166 : decode prog_14_method_3_code 166 = .ok (.getfield 29, 3) := by decide +kernel
theorem d25_169 : decode prog_14_method_3_code 169 = .ok (.iload_n 2, 1) := by decide +kernel
theorem d25_170 : decode prog_14_method_3_code 170 = .ok (.iadd, 1) := by decide +kernel
theorem d25_171 : decode prog_14_method_3_code 171 = .ok (.invokevirtual 87, 3) := by decide +kernel
theorem d25_174 : decode prog_14_method_3_code 174 = .ok (.iload_n 3, 1) := by decide +kernel
theorem d25_175 : decode prog_14_method_3_code 175 = .ok (.ifCond .eq 23, 3) := by decide +kernel
theorem d25_178 : decode prog_14_method_3_code 178 = .ok (.iload_n 2, 1) := by decide +kernel
theorem d25_179 : decode prog_14_method_3_code 179 = .ok (.aload_n 0, 1) := by decide +kernel
theorem d25_180 : decode prog_14_method_3_code 180 = .ok (.getfield 34, 3) := by decide +kernel
theorem d25_183 : decode prog_14_method_3_code 183 = .ok (.iconst 2, 1) := by decide +kernel
theorem d25_184 : decode prog_14_method_3_code 184 = .ok (.iload_n 1, 1) := by decide +kernel
theorem d25_185 : decode prog_14_method_3_code 185 = .ok (.imul, 1) := by decide +kernel
theorem d25_186 : decode prog_14_method_3_code 186 = .ok (.iaload, 1) := by decide +kernel
theorem d25_187 : decode prog_14_method_3_code 187 = .ok (.if_icmp .gt 7, 3) := by decide +kernel
theorem d25_190 : decode prog_14_method_3_code 190 = .ok (.iconst 1, 1) := by decide +kernel
theorem d25_191 : decode prog_14_method_3_code 191 = .ok (.goto 26, 3) := by decide +kernel
theorem d25_194 : decode prog_14_method_3_code 194 = .ok (.iconst 0, 1) := by decide +kernel
theorem d25_195 : decode prog_14_method_3_code 195 = .ok (.goto 22, 3) := by decide +kernel
theorem d25_198 : decode prog_14_method_3_code 198 = .ok (.iload_n 2, 1) := by decide +kernel
theorem d25_199 : decode prog_14_method_3_code 199 = .ok (.aload_n 0, 1) := by decide +kernel
theorem d25_200 : decode prog_14_method_3_code 200 = .ok (.getfield 34, 3) := by decide +kernel
theorem d25_203 : decode prog_14_method_3_code 203 = .ok (.iconst 2, 1) := by decide +kernel
theorem d25_204 : decode prog_14_method_3_code 204 = .ok (.iload_n 1, 1) := by decide +kernel
theorem d25_205 : decode prog_14_method_3_code 205 = .ok (.imul, 1) := by decide +kernel
theorem d25_206 : decode prog_14_method_3_code 206 = .ok (.iconst 1, 1) := by decide +kernel
theorem d25_207 : decode prog_14_method_3_code 207 = .ok (.iadd, 1) := by decide +kernel
theorem d25_208 : decode prog_14_method_3_code 208 = .ok (.iaload, 1) := by decide +kernel
theorem d25_209 : decode prog_14_method_3_code 209 = .ok (.if_icmp .lt 7, 3) := by decide +kernel
theorem d25_212 : decode prog_14_method_3_code 212 = .ok (.iconst 1, 1) := by decide +kernel
theorem d25_213 : decode prog_14_method_3_code 213 = .ok (.goto 4, 3) := by decide +kernel
theorem d25_216 : decode prog_14_method_3_code 216 = .ok (.iconst 0, 1) := by decide +kernel
theorem d25_217 : decode prog_14_method_3_code 217 = .ok (.istore 8, 2) := by decide +kernel
theorem d25_219 : decode prog_14_method_3_code 219 = .ok (.iload 4, 2) := by decide +kernel
theorem d25_221 : decode prog_14_method_3_code 221 = .ok (.ifCond .ne 42, 3) := by decide +kernel
theorem d25_224 : decode prog_14_method_3_code 224 = .ok (.iload_n 2, 1) := by decide +kernel
theorem d25_225 : decode prog_14_method_3_code 225 = .ok (.aload_n 0, 1) := by decide +kernel
theorem d25_226 : decode prog_14_method_3_code 226 = .ok (.getfield 34, 3) := by decide +kernel
theorem d25_229 : decode prog_14_method_3_code 229 = .ok (.iconst 2, 1) := by decide +kernel
theorem d25_230 : decode prog_14_method_3_code 230 = .ok (.iload_n 1, 1) := by decide +kernel
theorem d25_231 : decode prog_14_method_3_code 231 = .ok (.imul, 1) := by decide +kernel
theorem d25_232 : decode prog_14_method_3_code 232 = .ok (.iaload, 1) := by decide +kernel
theorem d25_233 : decode prog_14_method_3_code 233 = .ok (.if_icmp .eq 17, 3) := by decide +kernel
theorem d25_236 : decode prog_14_method_3_code 236 = .ok (.iload_n 2, 1) := by decide +kernel
theorem d25_237 : decode prog_14_method_3_code 237 = .ok (.aload_n 0, 1) := by decide +kernel
theorem d25_238 : decode prog_14_method_3_code 238 = .ok (.getfield 34, 3) := by decide +kernel
theorem d25_241 : decode prog_14_method_3_code 241 = .ok (.iconst 2, 1) := by decide +kernel
theorem d25_242 : decode prog_14_method_3_code 242 = .ok (.iload_n 1, 1) := by decide +kernel
theorem d25_243 : decode prog_14_method_3_code 243 = .ok (.imul, 1) := by decide +kernel
theorem d25_244 : decode prog_14_method_3_code 244 = .ok (.iconst 1, 1) := by decide +kernel
theorem d25_245 : decode prog_14_method_3_code 245 = .ok (.iadd, 1) := by decide +kernel
theorem d25_246 : decode prog_14_method_3_code 246 = .ok (.iaload, 1) := by decide +kernel
theorem d25_247 : decode prog_14_method_3_code 247 = .ok (.if_icmp .ne 16, 3) := by decide +kernel
theorem d25_250 : decode prog_14_method_3_code 250 = .ok (.aload_n 0, 1) := by decide +kernel
theorem d25_251 : decode prog_14_method_3_code 251 = .ok (.iload_n 1, 1) := by decide +kernel
theorem d25_252 : decode prog_14_method_3_code 252 = .ok (.iconst 2, 1) := by decide +kernel
theorem d25_253 : decode prog_14_method_3_code 253 = .ok (.iload_n 1, 1) := by decide +kernel
theorem d25_254 : decode prog_14_method_3_code 254 = .ok (.imul, 1) := by decide +kernel
theorem d25_255 : decode prog_14_method_3_code 255 = .ok (.iconst 2, 1) := by decide +kernel
theorem d25_256 : decode prog_14_method_3_code 256 = .ok (.iload_n 1, 1) := by decide +kernel
theorem d25_257 : decode prog_14_method_3_code 257 = .ok (.imul, 1) := by decide +kernel
theorem d25_258 : decode prog_14_method_3_code 258 = .ok (.iconst 1, 1) := by decide +kernel
theorem d25_259 : decode prog_14_method_3_code 259 = .ok (.iadd, 1) := by decide +kernel
theorem d25_260 : decode prog_14_method_3_code 260 = .ok (.invokevirtual 87, 3) := by decide +kernel
theorem d25_263 : decode prog_14_method_3_code 263 = .ok (.iload 8, 2) := by decide +kernel
theorem d25_265 : decode prog_14_method_3_code 265 = .ok (.ireturn, 1) := by decide +kernel
theorem q25_0 : Sem1 tables_1 KT μ25 0 (o_ldI 3 1) := Sem1.ldI_n d25_0 rfl
theorem q25_1 : Sem1 tables_1 KT μ25 1 (o_ifc .eq 10 4) := Sem1.ifc d25_1 (by decide) (by decide)
theorem q25_4 : Sem1 tables_1 KT μ25 4 (o_cI 2 5) := Sem1.cI (fun h => W.iconst' d25_4 (by decide) h)
theorem q25_5 : Sem1 tables_1 KT μ25 5 (o_ldI 1 6) := Sem1.ldI_n d25_5 rfl
theorem q25_6 : Sem1 tables_1 KT μ25 6 (o_bi 2 7) := Sem1.imul d25_6
theorem q25_7 : Sem1 tables_1 KT μ25 7 (o_jmp 15) := Sem1.jmp d25_7 (by decide) (by decide)
theorem q25_10 : Sem1 tables_1 KT μ25 10 (o_cI 2 11) := Sem1.cI (fun h => W.iconst' d25_10 (by decide) h)
theorem q25_11 : Sem1 tables_1 KT μ25 11 (o_ldI 1 12) := Sem1.ldI_n d25_11 rfl
theorem q25_12 : Sem1 tables_1 KT μ25 12 (o_bi 2 13) := Sem1.imul d25_12
theorem q25_13 : Sem1 tables_1 KT μ25 13 (o_cI 1 14) := Sem1.cI (fun h => W.iconst' d25_13 (by decide) h)
theorem q25_14 : Sem1 tables_1 KT μ25 14 (o_bi 0 15) := Sem1.iadd d25_14
theorem q25_15 : Sem1 tables_1 KT μ25 15 (o_stI 5 17) := Sem1.stI d25_15
theorem q25_17 : Sem1 tables_1 KT μ25 17 (o_ldI 3 18) := Sem1.ldI_n d25_17 rfl
theorem q25_18 : Sem1 tables_1 KT μ25 18 (o_ifc .eq 29 21) := Sem1.ifc d25_18 (by decide) (by decide)
theorem q25_21 : Sem1 tables_1 KT μ25 21 (o_cI 2 22) := Sem1.cI (fun h => W.iconst' d25_21 (by decide) h)
theorem q25_22 : Sem1 tables_1 KT μ25 22 (o_ldI 1 23) := Sem1.ldI_n d25_22 rfl
theorem q25_23 : Sem1 tables_1 KT μ25 23 (o_bi 2 24) := Sem1.imul d25_23
theorem q25_24 : Sem1 tables_1 KT μ25 24 (o_cI 1 25) := Sem1.cI (fun h => W.iconst' d25_24 (by decide) h)
theorem q25_25 : Sem1 tables_1 KT μ25 25 (o_bi 0 26) := Sem1.iadd d25_25
theorem q25_26 : Sem1 tables_1 KT μ25 26 (o_jmp 32) := Sem1.jmp d25_26 (by decide) (by decide)
theorem q25_29 : Sem1 tables_1 KT μ25 29 (o_cI 2 30) := Sem1.cI (fun h => W.iconst' d25_29 (by decide) h)
theorem q25_30 : Sem1 tables_1 KT μ25 30 (o_ldI 1 31) := Sem1.ldI_n d25_30 rfl
theorem q25_31 : Sem1 tables_1 KT μ25 31 (o_bi 2 32) := Sem1.imul d25_31
theorem q25_32 : Sem1 tables_1 KT μ25 32 (o_stI 6 34) := Sem1.stI d25_32
theorem q25_34 : Sem1 tables_1 KT μ25 34 (o_ldA 0 35) := Sem1.ldA_n d25_34 rfl
theorem q25_35 : Sem1 tables_1 KT μ25 35 (o_gF 1 0 38) := Sem1.gF d25_35 (host := "") (Or.inl (List.mem_of_getElem? (i := 44) rfl)) (Or.inl rfl) rfl rfl
theorem q25_38 : Sem1 tables_1 KT μ25 38 (o_gF 0 4 41) := Sem1.gF d25_38 (Or.inr (List.mem_of_getElem? (i := 100) rfl)) (Or.inl rfl) rfl rfl
theorem q25_41 : Sem1 tables_1 KT μ25 41 (o_ldI 6 43) := Sem1.ldI d25_41
theorem q25_43 : Sem1 tables_1 KT μ25 43 (o_iald 44) := Sem1.iald d25_43
theorem q25_44 : Sem1 tables_1 KT μ25 44 (o_ifc .lt 60 47) := Sem1.ifc d25_44 (by decide) (by decide)
theorem q25_47 : Sem1 tables_1 KT μ25 47 (o_ldA 0 48) := Sem1.ldA_n d25_47 rfl
theorem q25_48 : Sem1 tables_1 KT μ25 48 (o_gF 1 0 51) := Sem1.gF d25_48 (host := "") (Or.inl (List.mem_of_getElem? (i := 44) rfl)) (Or.inl rfl) rfl rfl
theorem q25_51 : Sem1 tables_1 KT μ25 51 (o_gF 0 4 54) := Sem1.gF d25_51 (Or.inr (List.mem_of_getElem? (i := 100) rfl)) (Or.inl rfl) rfl rfl
theorem q25_54 : Sem1 tables_1 KT μ25 54 (o_ldI 5 56) := Sem1.ldI d25_54
theorem q25_56 : Sem1 tables_1 KT μ25 56 (o_iald 57) := Sem1.iald d25_56
theorem q25_57 : Sem1 tables_1 KT μ25 57 (o_ifc .ge 62 60) := Sem1.ifc d25_57 (by decide) (by decide)
theorem q25_60 : Sem1 tables_1 KT μ25 60 (o_cI 1 61) := Sem1.cI (fun h => W.iconst' d25_60 (by decide) h)
theorem q25_61 : SemR tables_1 KT μ25 61 2 := SemR.z d25_61 rfl
theorem q25_62 : Sem1 tables_1 KT μ25 62 (o_ldA 0 63) := Sem1.ldA_n d25_62 rfl
theorem q25_63 : Sem1 tables_1 KT μ25 63 (o_gF 1 0 66) := Sem1.gF d25_63 (host := "") (Or.inl (List.mem_of_getElem? (i := 44) rfl)) (Or.inl rfl) rfl rfl
theorem q25_66 : Sem1 tables_1 KT μ25 66 (o_gF 0 4 69) := Sem1.gF d25_66 (Or.inr (List.mem_of_getElem? (i := 100) rfl)) (Or.inl rfl) rfl rfl
theorem q25_69 : Sem1 tables_1 KT μ25 69 (o_ldI 5 71) := Sem1.ldI d25_69
theorem q25_71 : Sem1 tables_1 KT μ25 71 (o_iald 72) := Sem1.iald d25_71
theorem q25_72 : Sem1 tables_1 KT μ25 72 (o_ldI 2 73) := Sem1.ldI_n d25_72 rfl
theorem q25_73 : Sem1 tables_1 KT μ25 73 (o_icmp .ne 94 76) := Sem1.icmp d25_73 (by decide) (by decide)
theorem q25_76 : Sem1 tables_1 KT μ25 76 (o_ldA 0 77) := Sem1.ldA_n d25_76 rfl
theorem q25_77 : Sem1 tables_1 KT μ25 77 (o_gF 1 0 80) := Sem1.gF d25_77 (host := "") (Or.inl (List.mem_of_getElem? (i := 44) rfl)) (Or.inl rfl) rfl rfl
theorem q25_80 : Sem1 tables_1 KT μ25 80 (o_gF 0 5 83) := Sem1.gF d25_80 (Or.inr (List.mem_of_getElem? (i := 183) rfl)) (Or.inl rfl) rfl rfl
theorem q25_83 : Sem1 tables_1 KT μ25 83 (o_ldI 5 85) := Sem1.ldI d25_83
theorem q25_85 : Sem1 tables_1 KT μ25 85 (o_iald 86) := Sem1.iald d25_85
theorem q25_86 : Sem1 tables_1 KT μ25 86 (o_ldI 2 87) := Sem1.ldI_n d25_86 rfl
theorem q25_87 : Sem1 tables_1 KT μ25 87 (o_icmp .ne 94 90) := Sem1.icmp d25_87 (by decide) (by decide)
theorem q25_90 : Sem1 tables_1 KT μ25 90 (o_cI 1 91) := Sem1.cI (fun h => W.iconst' d25_90 (by decide) h)
theorem q25_91 : Sem1 tables_1 KT μ25 91 (o_jmp 95) := Sem1.jmp d25_91 (by decide) (by decide)
theorem q25_94 : Sem1 tables_1 KT μ25 94 (o_cI 0 95) := Sem1.cI (fun h => W.iconst' d25_94 (by decide) h)
theorem q25_95 : Sem1 tables_1 KT μ25 95 (o_stI 7 97) := Sem1.stI d25_95
theorem q25_97 : Sem1 tables_1 KT μ25 97 (o_ldI 4 99) := Sem1.ldI d25_97
theorem q25_99 : Sem1 tables_1 KT μ25 99 (o_ifc .eq 174 102) := Sem1.ifc d25_99 (by decide) (by decide)
theorem q25_102 : Sem1 tables_1 KT μ25 102 (o_ldI 7 104) := Sem1.ldI d25_102
theorem q25_104 : Sem1 tables_1 KT μ25 104 (o_ifc .ne 133 107) := Sem1.ifc d25_104 (by decide) (by decide)
theorem q25_107 : Sem1 tables_1 KT μ25 107 (o_ldA 0 108) := Sem1.ldA_n d25_107 rfl
theorem q25_108 : Sem1 tables_1 KT μ25 108 (o_ldI 2 109) := Sem1.ldI_n d25_108 rfl
theorem q25_109 : Sem1 tables_1 KT μ25 109 (o_ldA 0 110) := Sem1.ldA_n d25_109 rfl
theorem q25_110 : Sem1 tables_1 KT μ25 110 (o_gF 1 4 113) := Sem1.gF d25_110 (host := "") (Or.inl (List.mem_of_getElem? (i := 63) rfl)) (Or.inl rfl) rfl rfl
theorem q25_113 : Sem1 tables_1 KT μ25 113 (o_cI 2 114) := Sem1.cI (fun h => W.iconst' d25_113 (by decide) h)
theorem q25_114 : Sem1 tables_1 KT μ25 114 (o_ldI 1 115) := Sem1.ldI_n d25_114 rfl
theorem q25_115 : Sem1 tables_1 KT μ25 115 (o_bi 2 116) := Sem1.imul d25_115
theorem q25_116 : Sem1 tables_1 KT μ25 116 (o_iald 117) := Sem1.iald d25_116
theorem q25_117 : Sem1 tables_1 KT μ25 117 (o_ldA 0 118) := Sem1.ldA_n d25_117 rfl
theorem q25_118 : Sem1 tables_1 KT μ25 118 (o_gF 1 4 121) := Sem1.gF d25_118 (host := "") (Or.inl (List.mem_of_getElem? (i := 63) rfl)) (Or.inl rfl) rfl rfl
theorem q25_121 : Sem1 tables_1 KT μ25 121 (o_cI 2 122) := Sem1.cI (fun h => W.iconst' d25_121 (by decide) h)
theorem q25_122 : Sem1 tables_1 KT μ25 122 (o_ldI 1 123) := Sem1.ldI_n d25_122 rfl
theorem q25_123 : Sem1 tables_1 KT μ25 123 (o_bi 2 124) := Sem1.imul d25_123
theorem q25_124 : Sem1 tables_1 KT μ25 124 (o_cI 1 125) := Sem1.cI (fun h => W.iconst' d25_124 (by decide) h)
theorem q25_125 : Sem1 tables_1 KT μ25 125 (o_bi 0 126) := Sem1.iadd d25_125
theorem q25_126 : Sem1 tables_1 KT μ25 126 (o_iald 127) := Sem1.iald d25_126
theorem q25_127 : SemC tables_1 KT μ25 μ15 127 4 3 130 := SemC.P (c := 1) d25_127 (List.mem_of_getElem? (i := 123) rfl) (List.mem_of_getElem? (i := 125) rfl) kt (List.mem_of_getElem? (i := 124) rfl) (List.mem_of_getElem? (i := 40) rfl) (List.mem_of_getElem? (i := 126) rfl) (by decide) rfl rfl pd12 rfl
theorem q25_130 : Sem1 tables_1 KT μ25 130 (o_ifc .eq 174 133) := Sem1.ifc d25_130 (by decide) (by decide)
theorem q25_133 : Sem1 tables_1 KT μ25 133 (o_ldA 0 134) := Sem1.ldA_n d25_133 rfl
theorem q25_134 : Sem1 tables_1 KT μ25 134 (o_ldI 1 135) := Sem1.ldI_n d25_134 rfl
theorem q25_135 : Sem1 tables_1 KT μ25 135 (o_ldI 3 136) := Sem1.ldI_n d25_135 rfl
theorem q25_136 : Sem1 tables_1 KT μ25 136 (o_ifc .eq 151 139) := Sem1.ifc d25_136 (by decide) (by decide)
theorem q25_139 : Sem1 tables_1 KT μ25 139 (o_ldA 0 140) := Sem1.ldA_n d25_139 rfl
theorem q25_140 : Sem1 tables_1 KT μ25 140 (o_gF 1 0 143) := Sem1.gF d25_140 (host := "") (Or.inl (List.mem_of_getElem? (i := 44) rfl)) (Or.inl rfl) rfl rfl
theorem q25_143 : Sem1 tables_1 KT μ25 143 (o_gF 0 3 146) := Sem1.gF d25_143 (Or.inr (List.mem_of_getElem? (i := 62) rfl)) (Or.inl rfl) rfl rfl
theorem q25_146 : Sem1 tables_1 KT μ25 146 (o_ldI 2 147) := Sem1.ldI_n d25_146 rfl
theorem q25_147 : Sem1 tables_1 KT μ25 147 (o_bi 0 148) := Sem1.iadd d25_147
theorem q25_148 : Sem1 tables_1 KT μ25 148 (o_jmp 153) := Sem1.jmp d25_148 (by decide) (by decide)
theorem q25_151 : Sem1 tables_1 KT μ25 151 (o_ldI 6 153) := Sem1.ldI d25_151
theorem q25_153 : Sem1 tables_1 KT μ25 153 (o_ldI 3 154) := Sem1.ldI_n d25_153 rfl
theorem q25_154 : Sem1 tables_1 KT μ25 154 (o_ifc .eq 162 157) := Sem1.ifc d25_154 (by decide) (by decide)
theorem q25_157 : Sem1 tables_1 KT μ25 157 (o_ldI 6 159) := Sem1.ldI d25_157
theorem q25_159 : Sem1 tables_1 KT μ25 159 (o_jmp 171) := Sem1.jmp d25_159 (by decide) (by decide)
theorem q25_162 : Sem1 tables_1 KT μ25 162 (o_ldA 0 163) := Sem1.ldA_n d25_162 rfl
theorem q25_163 : Sem1 tables_1 KT μ25 163 (o_gF 1 0 166) := Sem1.gF d25_163 (host := "") (Or.inl (List.mem_of_getElem? (i := 44) rfl)) (Or.inl rfl) rfl rfl
theorem q25_166 : Sem1 tables_1 KT μ25 166 (o_gF 0 3 169) := Sem1.gF d25_166 (Or.inr (List.mem_of_getElem? (i := 62) rfl)) (Or.inl rfl) rfl rfl
theorem q25_169 : Sem1 tables_1 KT μ25 169 (o_ldI 2 170) := Sem1.ldI_n d25_169 rfl
theorem q25_170 : Sem1 tables_1 KT μ25 170 (o_bi 0 171) := Sem1.iadd d25_170
theorem q25_171 : SemC tables_1 KT μ25 μ8 171 4 3 174 := SemC.V (c := 1) d25_171 (List.mem_of_getElem? (i := 173) rfl) (List.mem_of_getElem? (i := 78) rfl) (List.mem_of_getElem? (i := 80) rfl) (Or.inl rfl) kt (List.mem_of_getElem? (i := 79) rfl) (List.mem_of_getElem? (i := 40) rfl) (List.mem_of_getElem? (i := 81) rfl) (by decide) rfl pd8 rfl
theorem q25_174 : Sem1 tables_1 KT μ25 174 (o_ldI 3 175) := Sem1.ldI_n d25_174 rfl
theorem q25_175 : Sem1 tables_1 KT μ25 175 (o_ifc .eq 198 178) := Sem1.ifc d25_175 (by decide) (by decide)
theorem q25_178 : Sem1 tables_1 KT μ25 178 (o_ldI 2 179) := Sem1.ldI_n d25_178 rfl
theorem q25_179 : Sem1 tables_1 KT μ25 179 (o_ldA 0 180) := Sem1.ldA_n d25_179 rfl
theorem q25_180 : Sem1 tables_1 KT μ25 180 (o_gF 1 4 183) := Sem1.gF d25_180 (host := "") (Or.inl (List.mem_of_getElem? (i := 63) rfl)) (Or.inl rfl) rfl rfl
theorem q25_183 : Sem1 tables_1 KT μ25 183 (o_cI 2 184) := Sem1.cI (fun h => W.iconst' d25_183 (by decide) h)
theorem q25_184 : Sem1 tables_1 KT μ25 184 (o_ldI 1 185) := Sem1.ldI_n d25_184 rfl
theorem q25_185 : Sem1 tables_1 KT μ25 185 (o_bi 2 186) := Sem1.imul d25_185
theorem q25_186 : Sem1 tables_1 KT μ25 186 (o_iald 187) := Sem1.iald d25_186
theorem q25_187 : Sem1 tables_1 KT μ25 187 (o_icmp .gt 194 190) := Sem1.icmp d25_187 (by decide) (by decide)
theorem q25_190 : Sem1 tables_1 KT μ25 190 (o_cI 1 191) := Sem1.cI (fun h => W.iconst' d25_190 (by decide) h)
theorem q25_191 : Sem1 tables_1 KT μ25 191 (o_jmp 217) := Sem1.jmp d25_191 (by decide) (by decide)
theorem q25_194 : Sem1 tables_1 KT μ25 194 (o_cI 0 195) := Sem1.cI (fun h => W.iconst' d25_194 (by decide) h)
theorem q25_195 : Sem1 tables_1 KT μ25 195 (o_jmp 217) := Sem1.jmp d25_195 (by decide) (by decide)
theorem q25_198 : Sem1 tables_1 KT μ25 198 (o_ldI 2 199) := Sem1.ldI_n d25_198 rfl
theorem q25_199 : Sem1 tables_1 KT μ25 199 (o_ldA 0 200) := Sem1.ldA_n d25_199 rfl
theorem q25_200 : Sem1 tables_1 KT μ25 200 (o_gF 1 4 203) := Sem1.gF d25_200 (host := "") (Or.inl (List.mem_of_getElem? (i := 63) rfl)) (Or.inl rfl) rfl rfl
theorem q25_203 : Sem1 tables_1 KT μ25 203 (o_cI 2 204) := Sem1.cI (fun h => W.iconst' d25_203 (by decide) h)
theorem q25_204 : Sem1 tables_1 KT μ25 204 (o_ldI 1 205) := Sem1.ldI_n d25_204 rfl
theorem q25_205 : Sem1 tables_1 KT μ25 205 (o_bi 2 206) := Sem1.imul d25_205
theorem q25_206 : Sem1 tables_1 KT μ25 206 (o_cI 1 207) := Sem1.cI (fun h => W.iconst' d25_206 (by decide) h)
theorem q25_207 : Sem1 tables_1 KT μ25 207 (o_bi 0 208) := Sem1.iadd d25_207
theorem q25_208 : Sem1 tables_1 KT μ25 208 (o_iald 209) := Sem1.iald d25_208
theorem q25_209 : Sem1 tables_1 KT μ25 209 (o_icmp .lt 216 212) := Sem1.icmp d25_209 (by decide) (by decide)
theorem q25_212 : Sem1 tables_1 KT μ25 212 (o_cI 1 213) := Sem1.cI (fun h => W.iconst' d25_212 (by decide) h)
theorem q25_213 : Sem1 tables_1 KT μ25 213 (o_jmp 217) := Sem1.jmp d25_213 (by decide) (by decide)
theorem q25_216 : Sem1 tables_1 KT μ25 216 (o_cI 0 217) := Sem1.cI (fun h => W.iconst' d25_216 (by decide) h)
theorem q25_217 : Sem1 tables_1 KT μ25 217 (o_stI 8 219) := Sem1.stI d25_217
theorem q25_219 : Sem1 tables_1 KT μ25 219 (o_ldI 4 221) := Sem1.ldI d25_219
theorem q25_221 : Sem1 tables_1 KT μ25 221 (o_ifc .ne 263 224) := Sem1.ifc d25_221 (by decide) (by decide)
theorem q25_224 : Sem1 tables_1 KT μ25 224 (o_ldI 2 225) := Sem1.ldI_n d25_224 rfl
theorem q25_225 : Sem1 tables_1 KT μ25 225 (o_ldA 0 226) := Sem1.ldA_n d25_225 rfl
theorem q25_226 : Sem1 tables_1 KT μ25 226 (o_gF 1 4 229) := Sem1.gF d25_226 (host := "") (Or.inl (List.mem_of_getElem? (i := 63) rfl)) (Or.inl rfl) rfl rfl
theorem q25_229 : Sem1 tables_1 KT μ25 229 (o_cI 2 230) := Sem1.cI (fun h => W.iconst' d25_229 (by decide) h)
theorem q25_230 : Sem1 tables_1 KT μ25 230 (o_ldI 1 231) := Sem1.ldI_n d25_230 rfl
theorem q25_231 : Sem1 tables_1 KT μ25 231 (o_bi 2 232) := Sem1.imul d25_231
theorem q25_232 : Sem1 tables_1 KT μ25 232 (o_iald 233) := Sem1.iald d25_232
theorem q25_233 : Sem1 tables_1 KT μ25 233 (o_icmp .eq 250 236) := Sem1.icmp d25_233 (by decide) (by decide)
theorem q25_236 : Sem1 tables_1 KT μ25 236 (o_ldI 2 237) := Sem1.ldI_n d25_236 rfl
theorem q25_237 : Sem1 tables_1 KT μ25 237 (o_ldA 0 238) := Sem1.ldA_n d25_237 rfl
theorem q25_238 : Sem1 tables_1 KT μ25 238 (o_gF 1 4 241) := Sem1.gF d25_238 (host := "") (Or.inl (List.mem_of_getElem? (i := 63) rfl)) (Or.inl rfl) rfl rfl
theorem q25_241 : Sem1 tables_1 KT μ25 241 (o_cI 2 242) := Sem1.cI (fun h => W.iconst' d25_241 (by decide) h)
theorem q25_242 : Sem1 tables_1 KT μ25 242 (o_ldI 1 243) := Sem1.ldI_n d25_242 rfl
theorem q25_243 : Sem1 tables_1 KT μ25 243 (o_bi 2 244) := Sem1.imul d25_243
theorem q25_244 : Sem1 tables_1 KT μ25 244 (o_cI 1 245) := Sem1.cI (fun h => W.iconst' d25_244 (by decide) h)
theorem q25_245 : Sem1 tables_1 KT μ25 245 (o_bi 0 246) := Sem1.iadd d25_245
theorem q25_246 : Sem1 tables_1 KT μ25 246 (o_iald 247) := Sem1.iald d25_246
theorem q25_247 : Sem1 tables_1 KT μ25 247 (o_icmp .ne 263 250) := Sem1.icmp d25_247 (by decide) (by decide)
theorem q25_250 : Sem1 tables_1 KT μ25 250 (o_ldA 0 251) := Sem1.ldA_n d25_250 rfl
theorem q25_251 : Sem1 tables_1 KT μ25 251 (o_ldI 1 252) := Sem1.ldI_n d25_251 rfl
theorem q25_252 : Sem1 tables_1 KT μ25 252 (o_cI 2 253) := Sem1.cI (fun h => W.iconst' d25_252 (by decide) h)
theorem q25_253 : Sem1 tables_1 KT μ25 253 (o_ldI 1 254) := Sem1.ldI_n d25_253 rfl
theorem q25_254 : Sem1 tables_1 KT μ25 254 (o_bi 2 255) := Sem1.imul d25_254
theorem q25_255 : Sem1 tables_1 KT μ25 255 (o_cI 2 256) := Sem1.cI (fun h => W.iconst' d25_255 (by decide) h)
theorem q25_256 : Sem1 tables_1 KT μ25 256 (o_ldI 1 257) := Sem1.ldI_n d25_256 rfl
theorem q25_257 : Sem1 tables_1 KT μ25 257 (o_bi 2 258) := Sem1.imul d25_257
theorem q25_258 : Sem1 tables_1 KT μ25 258 (o_cI 1 259) := Sem1.cI (fun h => W.iconst' d25_258 (by decide) h)
theorem q25_259 : Sem1 tables_1 KT μ25 259 (o_bi 0 260) := Sem1.iadd d25_259
theorem q25_260 : SemC tables_1 KT μ25 μ8 260 4 3 263 := SemC.V (c := 1) d25_260 (List.mem_of_getElem? (i := 173) rfl) (List.mem_of_getElem? (i := 78) rfl) (List.mem_of_getElem? (i := 80) rfl) (Or.inl rfl) kt (List.mem_of_getElem? (i := 79) rfl) (List.mem_of_getElem? (i := 40) rfl) (List.mem_of_getElem? (i := 81) rfl) (by decide) rfl pd8 rfl
theorem q25_263 : Sem1 tables_1 KT μ25 263 (o_ldI 8 265) := Sem1.ldI d25_263
theorem q25_265 : SemR tables_1 KT μ25 265 2 := SemR.z d25_265 rfl
def T25 : Tr := (tr1 (tr1 (tr1 (tr1 (tr1 (tr1 (tr1 (tr1 tr0 0 (.inl (o_ldI 3 1)) tr0) 1 (.inl (o_ifc .eq 10 4)) tr0) 4 (.inl (o_cI 2 5)) (tr1 (tr1 tr0 5 (.inl (o_ldI 1 6)) tr0) 6 (.inl (o_bi 2 7)) tr0)) 7 (.inl (o_jmp 15)) (tr1 (tr1 (tr1 tr0 10 (.inl (o_cI 2 11)) tr0) 11 (.inl (o_ldI 1 12)) tr0) 12 (.inl (o_bi 2 13)) (tr1 tr0 13 (.inl (o_cI 1 14)) tr0))) 14 (.inl (o_bi 0 15)) (tr1 (tr1 (tr1 (tr1 tr0 15 (.inl (o_stI 5 17)) tr0) 17 (.inl (o_ldI 3 18)) tr0) 18 (.inl (o_ifc .eq 29 21)) (tr1 tr0 21 (.inl (o_cI 2 22)) tr0)) 22 (.inl (o_ldI 1 23)) (tr1 (tr1 (tr1 tr0 23 (.inl (o_bi 2 24)) tr0) 24 (.inl (o_cI 1 25)) tr0) 25 (.inl (o_bi 0 26)) (tr1 tr0 26 (.inl (o_jmp 32)) tr0)))) 29 (.inl (o_cI 2 30)) (tr1 (tr1 (tr1 (tr1 (tr1 tr0 30 (.inl (o_ldI 1 31)) tr0) 31 (.inl (o_bi 2 32)) tr0) 32 (.inl (o_stI 6 34)) (tr1 tr0 34 (.inl (o_ldA 0 35)) tr0)) 35 (.inl (o_gF 1 0 38)) (tr1 (tr1 (tr1 tr0 38 (.inl (o_gF 0 4 41)) tr0) 41 (.inl (o_ldI 6 43)) tr0) 43 (.inl (o_iald 44)) (tr1 tr0 44 (.inl (o_ifc .lt 60 47)) tr0))) 47 (.inl (o_ldA 0 48)) (tr1 (tr1 (tr1 (tr1 tr0 48 (.inl (o_gF 1 0 51)) tr0) 51 (.inl (o_gF 0 4 54)) tr0) 54 (.inl (o_ldI 5 56)) (tr1 tr0 56 (.inl (o_iald 57)) tr0)) 57 (.inl (o_ifc .ge 62 60)) (tr1 (tr1 (tr1 tr0 60 (.inl (o_cI 1 61)) tr0) 61 (.inr (.inr 2)) tr0) 62 (.inl (o_ldA 0 63)) (tr1 tr0 63 (.inl (o_gF 1 0 66)) tr0))))) 66 (.inl (o_gF 0 4 69)) (tr1 (tr1 (tr1 (tr1 (tr1 (tr1 tr0 69 (.inl (o_ldI 5 71)) tr0) 71 (.inl (o_iald 72)) tr0) 72 (.inl (o_ldI 2 73)) (tr1 tr0 73 (.inl (o_icmp .ne 94 76)) tr0)) 76 (.inl (o_ldA 0 77)) (tr1 (tr1 (tr1 tr0 77 (.inl (o_gF 1 0 80)) tr0) 80 (.inl (o_gF 0 5 83)) tr0) 83 (.inl (o_ldI 5 85)) (tr1 tr0 85 (.inl (o_iald 86)) tr0))) 86 (.inl (o_ldI 2 87)) (tr1 (tr1 (tr1 (tr1 tr0 87 (.inl (o_icmp .ne 94 90)) tr0) 90 (.inl (o_cI 1 91)) tr0) 91 (.inl (o_jmp 95)) (tr1 tr0 94 (.inl (o_cI 0 95)) tr0)) 95 (.inl (o_stI 7 97)) (tr1 (tr1 (tr1 tr0 97 (.inl (o_ldI 4 99)) tr0) 99 (.inl (o_ifc .eq 174 102)) tr0) 102 (.inl (o_ldI 7 104)) (tr1 tr0 104 (.inl (o_ifc .ne 133 107)) tr0)))) 107 (.inl (o_ldA 0 108)) (tr1 (tr1 (tr1 (tr1 (tr1 tr0 108 (.inl (o_ldI 2 109)) tr0) 109 (.inl (o_ldA 0 110)) tr0) 110 (.inl (o_gF 1 4 113)) (tr1 tr0 113 (.inl (o_cI 2 114)) tr0)) 114 (.inl (o_ldI 1 115)) (tr1 (tr1 (tr1 tr0 115 (.inl (o_bi 2 116)) tr0) 116 (.inl (o_iald 117)) tr0) 117 (.inl (o_ldA 0 118)) (tr1 tr0 118 (.inl (o_gF 1 4 121)) tr0))) 121 (.inl (o_cI 2 122)) (tr1 (tr1 (tr1 (tr1 tr0 122 (.inl (o_ldI 1 123)) tr0) 123 (.inl (o_bi 2 124)) tr0) 124 (.inl (o_cI 1 125)) (tr1 tr0 125 (.inl (o_bi 0 126)) tr0)) 126 (.inl (o_iald 127)) (tr1 (tr1 (tr1 tr0 127 (.inr (.inl (15, 4, 3, 130))) tr0) 130 (.inl (o_ifc .eq 174 133)) tr0) 133 (.inl (o_ldA 0 134)) (tr1 tr0 134 (.inl (o_ldI 1 135)) tr0)))))) 135 (.inl (o_ldI 3 136)) (tr1 (tr1 (tr1 (tr1 (tr1 (tr1 (tr1 tr0 136 (.inl (o_ifc .eq 151 139)) tr0) 139 (.inl (o_ldA 0 140)) tr0) 140 (.inl (o_gF 1 0 143)) (tr1 tr0 143 (.inl (o_gF 0 3 146)) tr0)) 146 (.inl (o_ldI 2 147)) (tr1 (tr1 (tr1 tr0 147 (.inl (o_bi 0 148)) tr0) 148 (.inl (o_jmp 153)) tr0) 151 (.inl (o_ldI 6 153)) (tr1 tr0 153 (.inl (o_ldI 3 154)) tr0))) 154 (.inl (o_ifc .eq 162 157)) (tr1 (tr1 (tr1 (tr1 tr0 157 (.inl (o_ldI 6 159)) tr0) 159 (.inl (o_jmp 171)) tr0) 162 (.inl (o_ldA 0 163)) (tr1 tr0 163 (.inl (o_gF 1 0 166)) tr0)) 166 (.inl (o_gF 0 3 169)) (tr1 (tr1 (tr1 tr0 169 (.inl (o_ldI 2 170)) tr0) 170 (.inl (o_bi 0 171)) tr0) 171 (.inr (.inl (8, 4, 3, 174))) (tr1 tr0 174 (.inl (o_ldI 3 175)) tr0)))) 175 (.inl (o_ifc .eq 198 178)) (tr1 (tr1 (tr1 (tr1 (tr1 tr0 178 (.inl (o_ldI 2 179)) tr0) 179 (.inl (o_ldA 0 180)) tr0) 180 (.inl (o_gF 1 4 183)) (tr1 tr0 183 (.inl (o_cI 2 184)) tr0)) 184 (.inl (o_ldI 1 185)) (tr1 (tr1 (tr1 tr0 185 (.inl (o_bi 2 186)) tr0) 186 (.inl (o_iald 187)) tr0) 187 (.inl (o_icmp .gt 194 190)) (tr1 tr0 190 (.inl (o_cI 1 191)) tr0))) 191 (.inl (o_jmp 217)) (tr1 (tr1 (tr1 (tr1 tr0 194 (.inl (o_cI 0 195)) tr0) 195 (.inl (o_jmp 217)) tr0) 198 (.inl (o_ldI 2 199)) (tr1 tr0 199 (.inl (o_ldA 0 200)) tr0)) 200 (.inl (o_gF 1 4 203)) (tr1 (tr1 (tr1 tr0 203 (.inl (o_cI 2 204)) tr0) 204 (.inl (o_ldI 1 205)) tr0) 205 (.inl (o_bi 2 206)) (tr1 tr0 206 (.inl (o_cI 1 207)) tr0))))) 207 (.inl (o_bi 0 208)) (tr1 (tr1 (tr1 (tr1 (tr1 (tr1 tr0 208 (.inl (o_iald 209)) tr0) 209 (.inl (o_icmp .lt 216 212)) tr0) 212 (.inl (o_cI 1 213)) (tr1 tr0 213 (.inl (o_jmp 217)) tr0)) 216 (.inl (o_cI 0 217)) (tr1 (tr1 (tr1 tr0 217 (.inl (o_stI 8 219)) tr0) 219 (.inl (o_ldI 4 221)) tr0) 221 (.inl (o_ifc .ne 263 224)) (tr1 tr0 224 (.inl (o_ldI 2 225)) tr0))) 225 (.inl (o_ldA 0 226)) (tr1 (tr1 (tr1 (tr1 tr0 226 (.inl (o_gF 1 4 229)) tr0) 229 (.inl (o_cI 2 230)) tr0) 230 (.inl (o_ldI 1 231)) (tr1 tr0 231 (.inl (o_bi 2 232)) tr0)) 232 (.inl (o_iald 233)) (tr1 (tr1 (tr1 tr0 233 (.inl (o_icmp .eq 250 236)) tr0) 236 (.inl (o_ldI 2 237)) tr0) 237 (.inl (o_ldA 0 238)) (tr1 tr0 238 (.inl (o_gF 1 4 241)) tr0)))) 241 (.inl (o_cI 2 242)) (tr1 (tr1 (tr1 (tr1 (tr1 tr0 242 (.inl (o_ldI 1 243)) tr0) 243 (.inl (o_bi 2 244)) tr0) 244 (.inl (o_cI 1 245)) (tr1 tr0 245 (.inl (o_bi 0 246)) tr0)) 246 (.inl (o_iald 247)) (tr1 (tr1 (tr1 tr0 247 (.inl (o_icmp .ne 263 250)) tr0) 250 (.inl (o_ldA 0 251)) tr0) 251 (.inl (o_ldI 1 252)) (tr1 tr0 252 (.inl (o_cI 2 253)) tr0))) 253 (.inl (o_ldI 1 254)) (tr1 (tr1 (tr1 (tr1 tr0 254 (.inl (o_bi 2 255)) tr0) 255 (.inl (o_cI 2 256)) tr0) 256 (.inl (o_ldI 1 257)) (tr1 tr0 257 (.inl (o_bi 2 258)) tr0)) 258 (.inl (o_cI 1 259)) (tr1 (tr1 (tr1 tr0 259 (.inl (o_bi 0 260)) tr0) 260 (.inr (.inl (8, 4, 3, 263))) tr0) 263 (.inl (o_ldI 8 265)) (tr1 tr0 265 (.inr (.inr 2)) tr0)))))))
theorem a25 : TrAll (SemO tables_1 KT MS μ25) T25 := (all_n (all_n (all_n (all_n (all_n (all_n (all_n (all_n all_e q25_0 all_e) q25_1 all_e) q25_4 (all_n (all_n all_e q25_5 all_e) q25_6 all_e)) q25_7 (all_n (all_n (all_n all_e q25_10 all_e) q25_11 all_e) q25_12 (all_n all_e q25_13 all_e))) q25_14 (all_n (all_n (all_n (all_n all_e q25_15 all_e) q25_17 all_e) q25_18 (all_n all_e q25_21 all_e)) q25_22 (all_n (all_n (all_n all_e q25_23 all_e) q25_24 all_e) q25_25 (all_n all_e q25_26 all_e)))) q25_29 (all_n (all_n (all_n (all_n (all_n all_e q25_30 all_e) q25_31 all_e) q25_32 (all_n all_e q25_34 all_e)) q25_35 (all_n (all_n (all_n all_e q25_38 all_e) q25_41 all_e) q25_43 (all_n all_e q25_44 all_e))) q25_47 (all_n (all_n (all_n (all_n all_e q25_48 all_e) q25_51 all_e) q25_54 (all_n all_e q25_56 all_e)) q25_57 (all_n (all_n (all_n all_e q25_60 all_e) q25_61 all_e) q25_62 (all_n all_e q25_63 all_e))))) q25_66 (all_n (all_n (all_n (all_n (all_n (all_n all_e q25_69 all_e) q25_71 all_e) q25_72 (all_n all_e q25_73 all_e)) q25_76 (all_n (all_n (all_n all_e q25_77 all_e) q25_80 all_e) q25_83 (all_n all_e q25_85 all_e))) q25_86 (all_n (all_n (all_n (all_n all_e q25_87 all_e) q25_90 all_e) q25_91 (all_n all_e q25_94 all_e)) q25_95 (all_n (all_n (all_n all_e q25_97 all_e) q25_99 all_e) q25_102 (all_n all_e q25_104 all_e)))) q25_107 (all_n (all_n (all_n (all_n (all_n all_e q25_108 all_e) q25_109 all_e) q25_110 (all_n all_e q25_113 all_e)) q25_114 (all_n (all_n (all_n all_e q25_115 all_e) q25_116 all_e) q25_117 (all_n all_e q25_118 all_e))) q25_121 (all_n (all_n (all_n (all_n all_e q25_122 all_e) q25_123 all_e) q25_124 (all_n all_e q25_125 all_e)) q25_126 (all_n (all_n (all_n all_e (SemO.call ms15 q25_127) all_e) q25_130 all_e) q25_133 (all_n all_e q25_134 all_e)))))) q25_135 (all_n (all_n (all_n (all_n (all_n (all_n (all_n all_e q25_136 all_e) q25_139 all_e) q25_140 (all_n all_e q25_143 all_e)) q25_146 (all_n (all_n (all_n all_e q25_147 all_e) q25_148 all_e) q25_151 (all_n all_e q25_153 all_e))) q25_154 (all_n (all_n (all_n (all_n all_e q25_157 all_e) q25_159 all_e) q25_162 (all_n all_e q25_163 all_e)) q25_166 (all_n (all_n (all_n all_e q25_169 all_e) q25_170 all_e) (SemO.call ms8 q25_171) (all_n all_e q25_174 all_e)))) q25_175 (all_n (all_n (all_n (all_n (all_n all_e q25_178 all_e) q25_179 all_e) q25_180 (all_n all_e q25_183 all_e)) q25_184 (all_n (all_n (all_n all_e q25_185 all_e) q25_186 all_e) q25_187 (all_n all_e q25_190 all_e))) q25_191 (all_n (all_n (all_n (all_n all_e q25_194 all_e) q25_195 all_e) q25_198 (all_n all_e q25_199 all_e)) q25_200 (all_n (all_n (all_n all_e q25_203 all_e) q25_204 all_e) q25_205 (all_n all_e q25_206 all_e))))) q25_207 (all_n (all_n (all_n (all_n (all_n (all_n all_e q25_208 all_e) q25_209 all_e) q25_212 (all_n all_e q25_213 all_e)) q25_216 (all_n (all_n (all_n all_e q25_217 all_e) q25_219 all_e) q25_221 (all_n all_e q25_224 all_e))) q25_225 (all_n (all_n (all_n (all_n all_e q25_226 all_e) q25_229 all_e) q25_230 (all_n all_e q25_231 all_e)) q25_232 (all_n (all_n (all_n all_e q25_233 all_e) q25_236 all_e) q25_237 (all_n all_e q25_238 all_e)))) q25_241 (all_n (all_n (all_n (all_n (all_n all_e q25_242 all_e) q25_243 all_e) q25_244 (all_n all_e q25_245 all_e)) q25_246 (all_n (all_n (all_n all_e q25_247 all_e) q25_250 all_e) q25_251 (all_n all_e q25_252 all_e))) q25_253 (all_n (all_n (all_n (all_n all_e q25_254 all_e) q25_255 all_e) q25_256 (all_n all_e q25_257 all_e)) q25_258 (all_n (all_n (all_n all_e q25_259 all_e) (SemO.call ms8 q25_260) all_e) q25_263 (all_n all_e q25_265 all_e)))))))
abbrev R25 : Room := ⟨4, 0, 0, 75⟩
theorem d26_0 : decode prog_13_method_3_code 0 = .ok (.aload_n 0, 1) := by decide +kernel
theorem d26_1 : decode prog_13_method_3_code 1 = .ok (.getfield 56, 3) := by decide +kernel
theorem d26_4 : decode prog_13_method_3_code 4 = .ok (.newarray .int, 2) := by decide +kernel
theorem d26_6 : decode prog_13_method_3_code 6 = .ok (.astore_n 1, 1) := by decide +kernel
theorem d26_7 : decode prog_13_method_3_code 7 = .ok (.iconst 0, 1) := by decide +kernel
theorem d26_8 : decode prog_13_method_3_code 8 = .ok (.istore_n 2, 1) := by decide +kernel
theorem d26_9 : decode prog_13_method_3_code 9 = .ok (.iconst 0, 1) := by decide +kernel
theorem d26_10 : decode prog_13_method_3_code 10 = .ok (.istore_n 3, 1) := by decide +kernel
theorem d26_11 : decode prog_13_method_3_code 11 = .ok (.iload_n 3, 1) := by decide +kernel
theorem d26_12 : decode prog_13_method_3_code 12 = .ok (.aload_n 0, 1) := by decide +kernel
theorem d26_13 : decode prog_13_method_3_code 13 = .ok (.getfield 13, 3) := by decide +kernel
theorem d26_16 : decode prog_13_method_3_code 16 = .ok (.arraylength, 1) := by decide +kernel
theorem d26_17 : decode prog_13_method_3_code 17 = .ok (.if_icmp .ge 35, 3) := by decide +kernel
theorem d26_20 : decode prog_13_method_3_code 20 = .ok (.aload_n 0, 1) := by decide +kernel
theorem d26_21 : decode prog_13_method_3_code 21 = .ok (.getfield 24, 3) := by decide +kernel
theorem d26_24 : decode prog_13_method_3_code 24 = .ok (.aload_n 0, 1) := by decide +kernel
theorem d26_25 : decode prog_13_method_3_code 25 = .ok (.getfield 20, 3) := by decide +kernel
theorem d26_28 : decode prog_13_method_3_code 28 = .ok (.iload_n 3, 1) := by decide +kernel
theorem d26_29 : decode prog_13_method_3_code 29 = .ok (.iadd, 1) := by decide +kernel
theorem d26_30 : decode prog_13_method_3_code 30 = .ok (.iaload, 1) := by decide +kernel
theorem d26_31 : decode prog_13_method_3_code 31 = .ok (.ifCond .lt 15, 3) := by decide +kernel
theorem d26_34 : decode prog_13_method_3_code 34 = .ok (.aload_n 1, 1) := by decide +kernel
theorem d26_35 : decode prog_13_method_3_code 35 = .ok (.iload_n 2, 1) := by decide +kernel
theorem d26_36 : decode prog_13_method_3_code 36 = .ok (.iinc 2 1, 3) := by decide +kernel
theorem d26_39 : decode prog_13_method_3_code 39 = .ok (.aload_n 0, 1) := by decide +kernel
theorem d26_40 : decode prog_13_method_3_code 40 = .ok (.getfield 13, 3) := by decide +kernel
theorem d26_43 : decode prog_13_method_3_code 43 = .ok (.iload_n 3, 1) := by decide +kernel
theorem d26_44 : decode prog_13_method_3_code 44 = .ok (.iaload, 1) := by decide +kernel
theorem d26_45 : decode prog_13_method_3_code 45 = .ok (.iastore, 1) := by decide +kernel
theorem d26_46 : decode prog_13_method_3_code 46 = .ok (.iinc 3 1, 3) := by decide +kernel
theorem d26_49 : decode prog_13_method_3_code 49 = .ok (.goto (-38), 3) := by decide +kernel
theorem d26_52 : decode prog_13_method_3_code 52 = .ok (.aload_n 1, 1) := by decide +kernel
theorem d26_53 : decode prog_13_method_3_code 53 = .ok (.areturn, 1) := by decide +kernel
theorem q26_0 : Sem1 tables_1 KT μ26 0 (o_ldA 0 1) := Sem1.ldA_n d26_0 rfl
theorem q26_1 : Sem1 tables_1 KT μ26 1 (o_gF 0 8 4) := Sem1.gF d26_1 (host := "") (Or.inl (List.mem_of_getElem? (i := 149) rfl)) (Or.inl rfl) rfl rfl
theorem q26_4 : Sem1 tables_1 KT μ26 4 (o_newI 6) := Sem1.newI d26_4 (List.mem_of_getElem? (i := 12) rfl)
theorem q26_6 : Sem1 tables_1 KT μ26 6 (o_stA 1 7) := Sem1.stA_n d26_6 rfl
theorem q26_7 : Sem1 tables_1 KT μ26 7 (o_cI 0 8) := Sem1.cI (fun h => W.iconst' d26_7 (by decide) h)
theorem q26_8 : Sem1 tables_1 KT μ26 8 (o_stI 2 9) := Sem1.stI_n d26_8 rfl
theorem q26_9 : Sem1 tables_1 KT μ26 9 (o_cI 0 10) := Sem1.cI (fun h => W.iconst' d26_9 (by decide) h)
theorem q26_10 : Sem1 tables_1 KT μ26 10 (o_stI 3 11) := Sem1.stI_n d26_10 rfl
theorem q26_11 : Sem1 tables_1 KT μ26 11 (o_ldI 3 12) := Sem1.ldI_n d26_11 rfl
theorem q26_12 : Sem1 tables_1 KT μ26 12 (o_ldA 0 13) := Sem1.ldA_n d26_12 rfl
theorem q26_13 : Sem1 tables_1 KT μ26 13 (o_gF 0 1 16) := Sem1.gF d26_13 (host := "") (Or.inl (List.mem_of_getElem? (i := 28) rfl)) (Or.inl rfl) rfl rfl
theorem q26_16 : Sem1 tables_1 KT μ26 16 (o_alen 17) := Sem1.alen d26_16
theorem q26_17 : Sem1 tables_1 KT μ26 17 (o_icmp .ge 52 20) := Sem1.icmp d26_17 (by decide) (by decide)
theorem q26_20 : Sem1 tables_1 KT μ26 20 (o_ldA 0 21) := Sem1.ldA_n d26_20 rfl
theorem q26_21 : Sem1 tables_1 KT μ26 21 (o_gF 0 4 24) := Sem1.gF d26_21 (host := "") (Or.inl (List.mem_of_getElem? (i := 34) rfl)) (Or.inl rfl) rfl rfl
theorem q26_24 : Sem1 tables_1 KT μ26 24 (o_ldA 0 25) := Sem1.ldA_n d26_24 rfl
theorem q26_25 : Sem1 tables_1 KT μ26 25 (o_gF 0 3 28) := Sem1.gF d26_25 (host := "") (Or.inl (List.mem_of_getElem? (i := 32) rfl)) (Or.inl rfl) rfl rfl
theorem q26_28 : Sem1 tables_1 KT μ26 28 (o_ldI 3 29) := Sem1.ldI_n d26_28 rfl
theorem q26_29 : Sem1 tables_1 KT μ26 29 (o_bi 0 30) := Sem1.iadd d26_29
theorem q26_30 : Sem1 tables_1 KT μ26 30 (o_iald 31) := Sem1.iald d26_30
theorem q26_31 : Sem1 tables_1 KT μ26 31 (o_ifc .lt 46 34) := Sem1.ifc d26_31 (by decide) (by decide)
theorem q26_34 : Sem1 tables_1 KT μ26 34 (o_ldA 1 35) := Sem1.ldA_n d26_34 rfl
theorem q26_35 : Sem1 tables_1 KT μ26 35 (o_ldI 2 36) := Sem1.ldI_n d26_35 rfl
theorem q26_36 : Sem1 tables_1 KT μ26 36 (o_inc 2 1 39) := Sem1.inc d26_36 (by decide)
theorem q26_39 : Sem1 tables_1 KT μ26 39 (o_ldA 0 40) := Sem1.ldA_n d26_39 rfl
theorem q26_40 : Sem1 tables_1 KT μ26 40 (o_gF 0 1 43) := Sem1.gF d26_40 (host := "") (Or.inl (List.mem_of_getElem? (i := 28) rfl)) (Or.inl rfl) rfl rfl
theorem q26_43 : Sem1 tables_1 KT μ26 43 (o_ldI 3 44) := Sem1.ldI_n d26_43 rfl
theorem q26_44 : Sem1 tables_1 KT μ26 44 (o_iald 45) := Sem1.iald d26_44
theorem q26_45 : Sem1 tables_1 KT μ26 45 (o_iast 46) := Sem1.iast d26_45
theorem q26_46 : Sem1 tables_1 KT μ26 46 (o_inc 3 1 49) := Sem1.inc d26_46 (by decide)
theorem q26_49 : Sem1 tables_1 KT μ26 49 (o_jmp 11) := Sem1.jmp d26_49 (by decide) (by decide)
theorem q26_52 : Sem1 tables_1 KT μ26 52 (o_ldA 1 53) := Sem1.ldA_n d26_52 rfl
theorem q26_53 : SemR tables_1 KT μ26 53 4 := SemR.a d26_53 rfl rfl
def T26 : Tr := (tr1 (tr1 (tr1 (tr1 (tr1 (tr1 tr0 0 (.inl (o_ldA 0 1)) tr0) 1 (.inl (o_gF 0 8 4)) tr0) 4 (.inl (o_newI 6)) (tr1 tr0 6 (.inl (o_stA 1 7)) tr0)) 7 (.inl (o_cI 0 8)) (tr1 (tr1 tr0 8 (.inl (o_stI 2 9)) tr0) 9 (.inl (o_cI 0 10)) (tr1 tr0 10 (.inl (o_stI 3 11)) tr0))) 11 (.inl (o_ldI 3 12)) (tr1 (tr1 (tr1 tr0 12 (.inl (o_ldA 0 13)) tr0) 13 (.inl (o_gF 0 1 16)) (tr1 tr0 16 (.inl (o_alen 17)) tr0)) 17 (.inl (o_icmp .ge 52 20)) (tr1 (tr1 tr0 20 (.inl (o_ldA 0 21)) tr0) 21 (.inl (o_gF 0 4 24)) (tr1 tr0 24 (.inl (o_ldA 0 25)) tr0)))) 25 (.inl (o_gF 0 3 28)) (tr1 (tr1 (tr1 (tr1 (tr1 tr0 28 (.inl (o_ldI 3 29)) tr0) 29 (.inl (o_bi 0 30)) tr0) 30 (.inl (o_iald 31)) (tr1 tr0 31 (.inl (o_ifc .lt 46 34)) tr0)) 34 (.inl (o_ldA 1 35)) (tr1 (tr1 tr0 35 (.inl (o_ldI 2 36)) tr0) 36 (.inl (o_inc 2 1 39)) (tr1 tr0 39 (.inl (o_ldA 0 40)) tr0))) 40 (.inl (o_gF 0 1 43)) (tr1 (tr1 (tr1 tr0 43 (.inl (o_ldI 3 44)) tr0) 44 (.inl (o_iald 45)) (tr1 tr0 45 (.inl (o_iast 46)) tr0)) 46 (.inl (o_inc 3 1 49)) (tr1 (tr1 tr0 49 (.inl (o_jmp 11)) tr0) 52 (.inl (o_ldA 1 53)) (tr1 tr0 53 (.inr (.inr 4)) tr0)))))
theorem a26 : TrAll (SemO tables_1 KT MS μ26) T26 := (all_n (all_n (all_n (all_n (all_n (all_n all_e q26_0 all_e) q26_1 all_e) q26_4 (all_n all_e q26_6 all_e)) q26_7 (all_n (all_n all_e q26_8 all_e) q26_9 (all_n all_e q26_10 all_e))) q26_11 (all_n (all_n (all_n all_e q26_12 all_e) q26_13 (all_n all_e q26_16 all_e)) q26_17 (all_n (all_n all_e q26_20 all_e) q26_21 (all_n all_e q26_24 all_e)))) q26_25 (all_n (all_n (all_n (all_n (all_n all_e q26_28 all_e) q26_29 all_e) q26_30 (all_n all_e q26_31 all_e)) q26_34 (all_n (all_n all_e q26_35 all_e) q26_36 (all_n all_e q26_39 all_e))) q26_40 (all_n (all_n (all_n all_e q26_43 all_e) q26_44 (all_n all_e q26_45 all_e)) q26_46 (all_n (all_n all_e q26_49 all_e) q26_52 (all_n all_e q26_53 all_e)))))
abbrev R26 : Room := ⟨0, 1, 4, 0⟩
theorem d27_0 : decode prog_14_method_6_code 0 = .ok (.aload_n 1, 1) := by decide +kernel
theorem d27_1 : decode prog_14_method_6_code 1 = .ok (.invokevirtual 55, 3) := by decide +kernel
theorem d27_4 : decode prog_14_method_6_code 4 = .ok (.istore 5, 2) := by decide +kernel
theorem d27_6 : decode prog_14_method_6_code 6 = .ok (.aload_n 1, 1) := by decide +kernel
theorem d27_7 : decode prog_14_method_6_code 7 = .ok (.invokevirtual 59, 3) := by decide +kernel
theorem d27_10 : decode prog_14_method_6_code 10 = .ok (.istore 6, 2) := by decide +kernel
theorem d27_12 : decode prog_14_method_6_code 12 = .ok (.aload_n 2, 1) := by decide +kernel
theorem d27_13 : decode prog_14_method_6_code 13 = .ok (.invokevirtual 55, 3) := by decide +kernel
theorem d27_16 : decode prog_14_method_6_code 16 = .ok (.istore 7, 2) := by decide +kernel
theorem d27_18 : decode prog_14_method_6_code 18 = .ok (.aload_n 2, 1) := by decide +kernel
theorem d27_19 : decode prog_14_method_6_code 19 = .ok (.invokevirtual 59, 3) := by decide +kernel
theorem d27_22 : decode prog_14_method_6_code 22 = .ok (.istore 8, 2) := by decide +kernel
theorem d27_24 : decode prog_14_method_6_code 24 = .ok (.aload_n 0, 1) := by decide +kernel
theorem d27_25 : decode prog_14_method_6_code 25 = .ok (.iload 7, 2) := by decide +kernel
theorem d27_27 : decode prog_14_method_6_code 27 = .ok (.iload 5, 2) := by decide +kernel
theorem d27_29 : decode prog_14_method_6_code 29 = .ok (.iload 6, 2) := by decide +kernel
theorem d27_31 : decode prog_14_method_6_code 31 = .ok (.invokevirtual 83, 3) := by decide +kernel
theorem d27_34 : decode prog_14_method_6_code 34 = .ok (.istore 9, 2) := by decide +kernel
theorem d27_36 : decode prog_14_method_6_code 36 = .ok (.aload_n 0, 1) := by decide +kernel
theorem d27_37 : decode prog_14_method_6_code 37 = .ok (.iload 6, 2) := by decide +kernel
theorem d27_39 : decode prog_14_method_6_code 39 = .ok (.iload 7, 2) := by decide +kernel
theorem d27_41 : decode prog_14_method_6_code 41 = .ok (.iload 8, 2) := by decide +kernel
theorem d27_43 : decode prog_14_method_6_code 43 = .ok (.invokevirtual 83, 3) := by decide +kernel
theorem d27_46 : decode prog_14_method_6_code 46 = .ok (.istore 10, 2) := by decide +kernel
theorem d27_48 : decode prog_14_method_6_code 48 = .ok (.iload 9, 2) := by decide +kernel
theorem d27_50 : decode prog_14_method_6_code 50 = .ok (.ifCond .ne 8, 3) := by decide +kernel
theorem d27_53 : decode prog_14_method_6_code 53 = .ok (.iload 10, 2) := by decide +kernel
theorem d27_55 : decode prog_14_method_6_code 55 = .ok (.ifCond .eq 24, 3) := by decide +kernel
theorem d27_58 : decode prog_14_method_6_code 58 = .ok (.iload 9, 2) := by decide +kernel
theorem d27_60 : decode prog_14_method_6_code 60 = .ok (.ifCond .eq 7, 3) := by decide +kernel
theorem d27_63 : decode prog_14_method_6_code 63 = .ok (.aload_n 1, 1) := by decide +kernel
theorem d27_64 : decode prog_14_method_6_code 64 = .ok (.invokevirtual 68, 3) := by decide +kernel
theorem d27_67 : decode prog_14_method_6_code 67 = .ok (.iload 10, 2) := by decide +kernel
theorem d27_69 : decode prog_14_method_6_code 69 = .ok (.ifCond .eq 37, 3) := by decide +kernel
theorem d27_72 : decode prog_14_method_6_code 72 = .ok (.aload_n 2, 1) := by decide +kernel
theorem d27_73 : decode prog_14_method_6_code 73 = .ok (.invokevirtual 71, 3) := by decide +kernel
theorem d27_76 : decode prog_14_method_6_code 76 = .ok (.goto 30, 3) := by decide +kernel
theorem d27_79 : decode prog_14_method_6_code 79 = .ok (.aload_n 0, 1) := by decide +kernel
theorem d27_80 : decode prog_14_method_6_code 80 = .ok (.iload 5, 2) := by decide +kernel
theorem d27_82 : decode prog_14_method_6_code 82 = .ok (.iload 6, 2) := by decide +kernel
theorem d27_84 : decode prog_14_method_6_code 84 = .ok (.iload 7, 2) := by decide +kernel
theorem d27_86 : decode prog_14_method_6_code 86 = .ok (.iload 8, 2) := by decide +kernel
theorem d27_88 : decode prog_14_method_6_code 88 = .ok (.lload_n 3, 1) := by decide +kernel
theorem d27_106 : decode prog_14_method_6_code 106 = .ok (.return_, 1) := by decide +kernel
theorem q27_0 : Sem1 tables_1 KT μ27 0 (o_ldA 1 1) := Sem1.ldA_n d27_0 rfl
theorem q27_1 : SemC tables_1 KT μ27 μ13 1 1 4 4 := SemC.V (c := 2) d27_1 (List.mem_of_getElem? (i := 113) rfl) (List.mem_of_getElem? (i := 114) rfl) (List.mem_of_getElem? (i := 116) rfl) (Or.inl rfl) kt (List.mem_of_getElem? (i := 115) rfl) (List.mem_of_getElem? (i := 49) rfl) (List.mem_of_getElem? (i := 117) rfl) (by decide) rfl pd11 rfl
theorem q27_4 : Sem1 tables_1 KT μ27 4 (o_stI 5 6) := Sem1.stI d27_4
theorem q27_6 : Sem1 tables_1 KT μ27 6 (o_ldA 1 7) := Sem1.ldA_n d27_6 rfl
theorem q27_7 : SemC tables_1 KT μ27 μ14 7 1 4 10 := SemC.V (c := 2) d27_7 (List.mem_of_getElem? (i := 118) rfl) (List.mem_of_getElem? (i := 119) rfl) (List.mem_of_getElem? (i := 121) rfl) (Or.inl rfl) kt (List.mem_of_getElem? (i := 120) rfl) (List.mem_of_getElem? (i := 49) rfl) (List.mem_of_getElem? (i := 122) rfl) (by decide) rfl pd11 rfl
theorem q27_10 : Sem1 tables_1 KT μ27 10 (o_stI 6 12) := Sem1.stI d27_10
theorem q27_12 : Sem1 tables_1 KT μ27 12 (o_ldA 2 13) := Sem1.ldA_n d27_12 rfl
theorem q27_13 : SemC tables_1 KT μ27 μ13 13 1 4 16 := SemC.V (c := 2) d27_13 (List.mem_of_getElem? (i := 113) rfl) (List.mem_of_getElem? (i := 114) rfl) (List.mem_of_getElem? (i := 116) rfl) (Or.inl rfl) kt (List.mem_of_getElem? (i := 115) rfl) (List.mem_of_getElem? (i := 49) rfl) (List.mem_of_getElem? (i := 117) rfl) (by decide) rfl pd11 rfl
theorem q27_16 : Sem1 tables_1 KT μ27 16 (o_stI 7 18) := Sem1.stI d27_16
theorem q27_18 : Sem1 tables_1 KT μ27 18 (o_ldA 2 19) := Sem1.ldA_n d27_18 rfl
theorem q27_19 : SemC tables_1 KT μ27 μ14 19 1 4 22 := SemC.V (c := 2) d27_19 (List.mem_of_getElem? (i := 118) rfl) (List.mem_of_getElem? (i := 119) rfl) (List.mem_of_getElem? (i := 121) rfl) (Or.inl rfl) kt (List.mem_of_getElem? (i := 120) rfl) (List.mem_of_getElem? (i := 49) rfl) (List.mem_of_getElem? (i := 122) rfl) (by decide) rfl pd11 rfl
theorem q27_22 : Sem1 tables_1 KT μ27 22 (o_stI 8 24) := Sem1.stI d27_22
theorem q27_24 : Sem1 tables_1 KT μ27 24 (o_ldA 0 25) := Sem1.ldA_n d27_24 rfl
theorem q27_25 : Sem1 tables_1 KT μ27 25 (o_ldI 7 27) := Sem1.ldI d27_25
theorem q27_27 : Sem1 tables_1 KT μ27 27 (o_ldI 5 29) := Sem1.ldI d27_27
theorem q27_29 : Sem1 tables_1 KT μ27 29 (o_ldI 6 31) := Sem1.ldI d27_29
theorem q27_31 : SemC tables_1 KT μ27 μ15 31 4 3 34 := SemC.P (c := 1) d27_31 (List.mem_of_getElem? (i := 123) rfl) (List.mem_of_getElem? (i := 125) rfl) kt (List.mem_of_getElem? (i := 124) rfl) (List.mem_of_getElem? (i := 40) rfl) (List.mem_of_getElem? (i := 126) rfl) (by decide) rfl rfl pd12 rfl
theorem q27_34 : Sem1 tables_1 KT μ27 34 (o_stI 9 36) := Sem1.stI d27_34
theorem q27_36 : Sem1 tables_1 KT μ27 36 (o_ldA 0 37) := Sem1.ldA_n d27_36 rfl
theorem q27_37 : Sem1 tables_1 KT μ27 37 (o_ldI 6 39) := Sem1.ldI d27_37
theorem q27_39 : Sem1 tables_1 KT μ27 39 (o_ldI 7 41) := Sem1.ldI d27_39
theorem q27_41 : Sem1 tables_1 KT μ27 41 (o_ldI 8 43) := Sem1.ldI d27_41
theorem q27_43 : SemC tables_1 KT μ27 μ15 43 4 3 46 := SemC.P (c := 1) d27_43 (List.mem_of_getElem? (i := 123) rfl) (List.mem_of_getElem? (i := 125) rfl) kt (List.mem_of_getElem? (i := 124) rfl) (List.mem_of_getElem? (i := 40) rfl) (List.mem_of_getElem? (i := 126) rfl) (by decide) rfl rfl pd12 rfl
theorem q27_46 : Sem1 tables_1 KT μ27 46 (o_stI 10 48) := Sem1.stI d27_46
theorem q27_48 : Sem1 tables_1 KT μ27 48 (o_ldI 9 50) := Sem1.ldI d27_48
theorem q27_50 : Sem1 tables_1 KT μ27 50 (o_ifc .ne 58 53) := Sem1.ifc d27_50 (by decide) (by decide)
theorem q27_53 : Sem1 tables_1 KT μ27 53 (o_ldI 10 55) := Sem1.ldI d27_53
theorem q27_55 : Sem1 tables_1 KT μ27 55 (o_ifc .eq 79 58) := Sem1.ifc d27_55 (by decide) (by decide)
theorem q27_58 : Sem1 tables_1 KT μ27 58 (o_ldI 9 60) := Sem1.ldI d27_58
theorem q27_60 : Sem1 tables_1 KT μ27 60 (o_ifc .eq 67 63) := Sem1.ifc d27_60 (by decide) (by decide)
theorem q27_63 : Sem1 tables_1 KT μ27 63 (o_ldA 1 64) := Sem1.ldA_n d27_63 rfl
theorem q27_64 : SemC tables_1 KT μ27 μ19 64 1 4 67 := SemC.V (c := 2) d27_64 (List.mem_of_getElem? (i := 139) rfl) (List.mem_of_getElem? (i := 140) rfl) (List.mem_of_getElem? (i := 142) rfl) (Or.inl rfl) kt (List.mem_of_getElem? (i := 141) rfl) (List.mem_of_getElem? (i := 49) rfl) (List.mem_of_getElem? (i := 143) rfl) (by decide) rfl pd9 rfl
theorem q27_67 : Sem1 tables_1 KT μ27 67 (o_ldI 10 69) := Sem1.ldI d27_67
theorem q27_69 : Sem1 tables_1 KT μ27 69 (o_ifc .eq 106 72) := Sem1.ifc d27_69 (by decide) (by decide)
theorem q27_72 : Sem1 tables_1 KT μ27 72 (o_ldA 2 73) := Sem1.ldA_n d27_72 rfl
theorem q27_73 : SemC tables_1 KT μ27 μ20 73 1 4 76 := SemC.V (c := 2) d27_73 (List.mem_of_getElem? (i := 144) rfl) (List.mem_of_getElem? (i := 145) rfl) (List.mem_of_getElem? (i := 147) rfl) (Or.inl rfl) kt (List.mem_of_getElem? (i := 146) rfl) (List.mem_of_getElem? (i := 49) rfl) (List.mem_of_getElem? (i := 148) rfl) (by decide) rfl pd9 rfl
theorem q27_76 : Sem1 tables_1 KT μ27 76 (o_jmp 106) := Sem1.jmp d27_76 (by decide) (by decide)
theorem q27_79 : Sem1 tables_1 KT μ27 79 (o_ldA 0 80) := Sem1.ldA_n d27_79 rfl
theorem q27_80 : Sem1 tables_1 KT μ27 80 (o_ldI 5 82) := Sem1.ldI d27_80
theorem q27_82 : Sem1 tables_1 KT μ27 82 (o_ldI 6 84) := Sem1.ldI d27_82
theorem q27_84 : Sem1 tables_1 KT μ27 84 (o_ldI 7 86) := Sem1.ldI d27_84
theorem q27_86 : Sem1 tables_1 KT μ27 86 (o_ldI 8 88) := Sem1.ldI d27_86
theorem q27_88 : Sem1 tables_1 KT μ27 88 (o_ldL 3 89) := Sem1.ldL_n d27_88 rfl
theorem q27_106 : SemR tables_1 KT μ27 106 0 := SemR.v d27_106 rfl
def T27 : Tr := (tr1 (tr1 (tr1 (tr1 (tr1 (tr1 tr0 0 (.inl (o_ldA 1 1)) tr0) 1 (.inr (.inl (13, 1, 4, 4))) tr0) 4 (.inl (o_stI 5 6)) (tr1 (tr1 tr0 6 (.inl (o_ldA 1 7)) tr0) 7 (.inr (.inl (14, 1, 4, 10))) tr0)) 10 (.inl (o_stI 6 12)) (tr1 (tr1 (tr1 tr0 12 (.inl (o_ldA 2 13)) tr0) 13 (.inr (.inl (13, 1, 4, 16))) tr0) 16 (.inl (o_stI 7 18)) (tr1 (tr1 tr0 18 (.inl (o_ldA 2 19)) tr0) 19 (.inr (.inl (14, 1, 4, 22))) tr0))) 22 (.inl (o_stI 8 24)) (tr1 (tr1 (tr1 (tr1 tr0 24 (.inl (o_ldA 0 25)) tr0) 25 (.inl (o_ldI 7 27)) tr0) 27 (.inl (o_ldI 5 29)) (tr1 (tr1 tr0 29 (.inl (o_ldI 6 31)) tr0) 31 (.inr (.inl (15, 4, 3, 34))) tr0)) 34 (.inl (o_stI 9 36)) (tr1 (tr1 (tr1 tr0 36 (.inl (o_ldA 0 37)) tr0) 37 (.inl (o_ldI 6 39)) tr0) 39 (.inl (o_ldI 7 41)) (tr1 tr0 41 (.inl (o_ldI 8 43)) tr0)))) 43 (.inr (.inl (15, 4, 3, 46))) (tr1 (tr1 (tr1 (tr1 (tr1 tr0 46 (.inl (o_stI 10 48)) tr0) 48 (.inl (o_ldI 9 50)) tr0) 50 (.inl (o_ifc .ne 58 53)) (tr1 (tr1 tr0 53 (.inl (o_ldI 10 55)) tr0) 55 (.inl (o_ifc .eq 79 58)) tr0)) 58 (.inl (o_ldI 9 60)) (tr1 (tr1 (tr1 tr0 60 (.inl (o_ifc .eq 67 63)) tr0) 63 (.inl (o_ldA 1 64)) tr0) 64 (.inr (.inl (19, 1, 4, 67))) (tr1 tr0 67 (.inl (o_ldI 10 69)) tr0))) 69 (.inl (o_ifc .eq 106 72)) (tr1 (tr1 (tr1 (tr1 tr0 72 (.inl (o_ldA 2 73)) tr0) 73 (.inr (.inl (20, 1, 4, 76))) tr0) 76 (.inl (o_jmp 106)) (tr1 (tr1 tr0 79 (.inl (o_ldA 0 80)) tr0) 80 (.inl (o_ldI 5 82)) tr0)) 82 (.inl (o_ldI 6 84)) (tr1 (tr1 (tr1 tr0 84 (.inl (o_ldI 7 86)) tr0) 86 (.inl (o_ldI 8 88)) tr0) 88 (.inl (o_ldL 3 89)) (tr1 tr0 106 (.inr (.inr 0)) tr0)))))
theorem a27 : TrAll (SemO tables_1 KT MS μ27) T27 := (all_n (all_n (all_n (all_n (all_n (all_n all_e q27_0 all_e) (SemO.call ms13 q27_1) all_e) q27_4 (all_n (all_n all_e q27_6 all_e) (SemO.call ms14 q27_7) all_e)) q27_10 (all_n (all_n (all_n all_e q27_12 all_e) (SemO.call ms13 q27_13) all_e) q27_16 (all_n (all_n all_e q27_18 all_e) (SemO.call ms14 q27_19) all_e))) q27_22 (all_n (all_n (all_n (all_n all_e q27_24 all_e) q27_25 all_e) q27_27 (all_n (all_n all_e q27_29 all_e) (SemO.call ms15 q27_31) all_e)) q27_34 (all_n (all_n (all_n all_e q27_36 all_e) q27_37 all_e) q27_39 (all_n all_e q27_41 all_e)))) (SemO.call ms15 q27_43) (all_n (all_n (all_n (all_n (all_n all_e q27_46 all_e) q27_48 all_e) q27_50 (all_n (all_n all_e q27_53 all_e) q27_55 all_e)) q27_58 (all_n (all_n (all_n all_e q27_60 all_e) q27_63 all_e) (SemO.call ms19 q27_64) (all_n all_e q27_67 all_e))) q27_69 (all_n (all_n (all_n (all_n all_e q27_72 all_e) (SemO.call ms20 q27_73) all_e) q27_76 (all_n (all_n all_e q27_79 all_e) q27_80 all_e)) q27_82 (all_n (all_n (all_n all_e q27_84 all_e) q27_86 all_e) q27_88 (all_n all_e q27_106 all_e)))))
abbrev R27 : Room := ⟨2, 0, 0, 34⟩
def PR : Prg := [(T0, 20, R0), (T1, 4, R1), (T2, 12, R2), (T3, 6, R3), (T4, 3, R4), (T5, 2, R5), (T6, 4, R6), (T7, 2, R7), (T8, 8, R8), (T9, 4, R9), (T10, 2, R10), (T11, 1, R11), (T12, 1, R12), (T13, 1, R13), (T14, 1, R14), (T15, 4, R15), (T16, 2, R16), (T17, 2, R17), (T18, 3, R18), (T19, 1, R19), (T20, 1, R20), (T21, 2, R21), (T22, 10, R22), (T23, 3, R23), (T24, 6, R24), (T25, 9, R25), (T26, 4, R26), (T27, 11, R27)]
theorem pr_ok : PrgOk tables_1 KT MS PR := by
  intro m t n rm h
  match m, h with
  | 0, h => cases h; exact ⟨μ0, rfl, rfl, pf0, a0⟩
  | 1, h => cases h; exact ⟨μ1, rfl, rfl, pf1, a1⟩
  | 2, h => cases h; exact ⟨μ2, rfl, rfl, pf2, a2⟩
  | 3, h => cases h; exact ⟨μ3, rfl, rfl, pf3, a3⟩
  | 4, h => cases h; exact ⟨μ4, rfl, rfl, pf4, a4⟩
  | 5, h => cases h; exact ⟨μ5, rfl, rfl, pf5, a5⟩
  | 6, h => cases h; exact ⟨μ6, rfl, rfl, pf6, a6⟩
  | 7, h => cases h; exact ⟨μ7, rfl, rfl, pf7, a7⟩
  | 8, h => cases h; exact ⟨μ8, rfl, rfl, pf8, a8⟩
  | 9, h => cases h; exact ⟨μ9, rfl, rfl, pf9, a9⟩
  | 10, h => cases h; exact ⟨μ10, rfl, rfl, pf10, a10⟩
  | 11, h => cases h; exact ⟨μ11, rfl, rfl, pf11, a11⟩
  | 12, h => cases h; exact ⟨μ12, rfl, rfl, pf12, a12⟩
  | 13, h => cases h; exact ⟨μ13, rfl, rfl, pf13, a13⟩
  | 14, h => cases h; exact ⟨μ14, rfl, rfl, pf14, a14⟩
  | 15, h => cases h; exact ⟨μ15, rfl, rfl, pf15, a15⟩
  | 16, h => cases h; exact ⟨μ16, rfl, rfl, pf16, a16⟩
  | 17, h => cases h; exact ⟨μ17, rfl, rfl, pf17, a17⟩
  | 18, h => cases h; exact ⟨μ18, rfl, rfl, pf18, a18⟩
  | 19, h => cases h; exact ⟨μ19, rfl, rfl, pf19, a19⟩
  | 20, h => cases h; exact ⟨μ20, rfl, rfl, pf20, a20⟩
  | 21, h => cases h; exact ⟨μ21, rfl, rfl, pf21, a21⟩
  | 22, h => cases h; exact ⟨μ22, rfl, rfl, pf22, a22⟩
  | 23, h => cases h; exact ⟨μ23, rfl, rfl, pf23, a23⟩
  | 24, h => cases h; exact ⟨μ24, rfl, rfl, pf24, a24⟩
  | 25, h => cases h; exact ⟨μ25, rfl, rfl, pf25, a25⟩
  | 26, h => cases h; exact ⟨μ26, rfl, rfl, pf26, a26⟩
  | 27, h => cases h; exact ⟨μ27, rfl, rfl, pf27, a27⟩
  | n + 28, h => cases h
theorem e0 {rm : Room} {H : AHeap} {Q : Option Value → AHeap → Prop} {a0 : Int32} {a1 : Int32} {a2 : Int32} {a3 : Int32} {a4 : Int32} (h : W0 rm 0 [.val (.int a0), .val (.int a1), .val (.int a2), .val (.int a3), .val (.int a4), .unset, .unset, .unset, .unset, .unset, .unset, .unset, .unset, .unset, .unset, .unset, .unset, .unset, .unset, .unset] [] H Q) : M0 rm [.int a0, .int a1, .int a2, .int a3, .int a4] H Q := M.of pf0 rfl rfl h
theorem e0L {rm : Room} {H : AHeap} {Q : Option Value → AHeap → Prop} {L : List Slot} {as : List Value} (h : W0 rm 0 L [] H Q) (hl : ent as ++ List.replicate (20 - (ent as).length) .unset = L := by rfl) (hn : L.length = 20 := by rfl) : M0 rm as H Q := M.of pf0 hl hn h
theorem s0_0 {rm : Room} {S : List Value} {H : AHeap} {Q : Option Value → AHeap → Prop} {l0 l1 l2 l3 l4 l5 l6 l7 l8 l9 l10 l11 l12 l13 l14 l15 l16 l17 l18 l19 : Slot}  (h : W0 rm 1 [l0, l1, l2, l3, l4, l5, l6, l7, l8, l9, l10, l11, l12, l13, l14, l15, l16, l17, l18, l19] (.int 3 :: S) (H) Q) : W0 rm 0 [l0, l1, l2, l3, l4, l5, l6, l7, l8, l9, l10, l11, l12, l13, l14, l15, l16, l17, l18, l19] (S) H Q := W.iconst' at_0 (by decide) h
theorem s0_1 {rm : Room} {S : List Value} {H : AHeap} {Q : Option Value → AHeap → Prop} {l1 l2 l3 l4 l5 l6 l7 l8 l9 l10 l11 l12 l13 l14 l15 l16 l17 l18 l19 : Slot} {x : Int32} (h : W0 rm 2 [.val (.int x), l1, l2, l3, l4, l5, l6, l7, l8, l9, l10, l11, l12, l13, l14, l15, l16, l17, l18, l19] (.int x :: S) (H) Q) : W0 rm 1 [.val (.int x), l1, l2, l3, l4, l5, l6, l7, l8, l9, l10, l11, l12, l13, l14, l15, l16, l17, l18, l19] (S) H Q := W.iload_n at_1 rfl h
theorem s0_2 {rm : Room} {S : List Value} {H : AHeap} {Q : Option Value → AHeap → Prop} {l0 l1 l2 l3 l4 l5 l6 l7 l8 l9 l10 l11 l12 l13 l14 l15 l16 l17 l18 l19 : Slot}  (h : W0 rm 3 [l0, l1, l2, l3, l4, l5, l6, l7, l8, l9, l10, l11, l12, l13, l14, l15, l16, l17, l18, l19] (.int 1 :: S) (H) Q) : W0 rm 2 [l0, l1, l2, l3, l4, l5, l6, l7, l8, l9, l10, l11, l12, l13, l14, l15, l16, l17, l18, l19] (S) H Q := W.iconst' at_2 (by decide) h
theorem s0_3 {rm : Room} {S : List Value} {H : AHeap} {Q : Option Value → AHeap → Prop} {l0 l1 l2 l3 l4 l5 l6 l7 l8 l9 l10 l11 l12 l13 l14 l15 l16 l17 l18 l19 : Slot} {x y : Int32} (h : W0 rm 4 [l0, l1, l2, l3, l4, l5, l6, l7, l8, l9, l10, l11, l12, l13, l14, l15, l16, l17, l18, l19] (.int (x &&& y) :: S) (H) Q) : W0 rm 3 [l0, l1, l2, l3, l4, l5, l6, l7, l8, l9, l10, l11, l12, l13, l14, l15, l16, l17, l18, l19] (.int y :: .int x :: S) H Q := W.iand at_3 h
theorem s0_4 {rm : Room} {S : List Value} {H : AHeap} {Q : Option Value → AHeap → Prop} {l0 l1 l2 l3 l4 l5 l6 l7 l8 l9 l10 l11 l12 l13 l14 l15 l16 l17 l18 l19 : Slot} {x y : Int32} (h : W0 rm 5 [l0, l1, l2, l3, l4, l5, l6, l7, l8, l9, l10, l11, l12, l13, l14, l15, l16, l17, l18, l19] (.int (x + y) :: S) (H) Q) : W0 rm 4 [l0, l1, l2, l3, l4, l5, l6, l7, l8, l9, l10, l11, l12, l13, l14, l15, l16, l17, l18, l19] (.int y :: .int x :: S) H Q := W.iadd at_4 h
theorem s0_5 {rm : Room} {S : List Value} {H : AHeap} {Q : Option Value → AHeap → Prop} {l0 l1 l2 l3 l4 l5 l6 l7 l8 l9 l10 l11 l12 l13 l14 l15 l16 l17 l18 l19 : Slot} {x : Int32} (ho : one l5 = true) (h : W0 rm 7 [l0, l1, l2, l3, l4, .val (.int x), l6, l7, l8, l9, l10, l11, l12, l13, l14, l15, l16, l17, l18, l19] (S) (H) Q) : W0 rm 5 [l0, l1, l2, l3, l4, l5, l6, l7, l8, l9, l10, l11, l12, l13, l14, l15, l16, l17, l18, l19] (.int x :: S) H Q := W.istore at_5 rfl ho h
theorem s0_5w {rm : Room} {S : List Value} {H : AHeap} {Q : Option Value → AHeap → Prop} {l0 l1 l2 l3 l4 l6 l7 l8 l9 l10 l11 l12 l13 l14 l15 l16 l17 l18 l19 : Slot} {w : Value} {x : Int32} (ho : w.category = 2) (h : W0 rm 7 [l0, l1, l2, l3, l4, .val (.int x), .unset, l7, l8, l9, l10, l11, l12, l13, l14, l15, l16, l17, l18, l19] (S) (H) Q) : W0 rm 5 [l0, l1, l2, l3, l4, .val w, l6, l7, l8, l9, l10, l11, l12, l13, l14, l15, l16, l17, l18, l19] (.int x :: S) H Q := W.istoreW at_5 rfl ho (Nat.le_of_ble_eq_true rfl) h
theorem s0_5s {rm : Room} {S : List Value} {H : AHeap} {Q : Option Value → AHeap → Prop} {l0 l1 l2 l3 l4 l6 l7 l8 l9 l10 l11 l12 l13 l14 l15 l16 l17 l18 l19 : Slot} {x : Int32} (h : W0 rm 7 [l0, l1, l2, l3, .unset, .val (.int x), l6, l7, l8, l9, l10, l11, l12, l13, l14, l15, l16, l17, l18, l19] (S) (H) Q) : W0 rm 5 [l0, l1, l2, l3, l4, .second, l6, l7, l8, l9, l10, l11, l12, l13, l14, l15, l16, l17, l18, l19] (.int x :: S) H Q := W.istoreS at_5 rfl (by decide) h
theorem s0_7 {rm : Room} {S : List Value} {H : AHeap} {Q : Option Value → AHeap → Prop} {l0 l1 l3 l4 l5 l6 l7 l8 l9 l10 l11 l12 l13 l14 l15 l16 l17 l18 l19 : Slot} {x : Int32} (h : W0 rm 8 [l0, l1, .val (.int x), l3, l4, l5, l6, l7, l8, l9, l10, l11, l12, l13, l14, l15, l16, l17, l18, l19] (.int x :: S) (H) Q) : W0 rm 7 [l0, l1, .val (.int x), l3, l4, l5, l6, l7, l8, l9, l10, l11, l12, l13, l14, l15, l16, l17, l18, l19] (S) H Q := W.iload_n at_7 rfl h
theorem s0_8 {rm : Room} {S : List Value} {H : AHeap} {Q : Option Value → AHeap → Prop} {l0 l1 l2 l3 l4 l5 l6 l7 l8 l9 l10 l11 l12 l13 l14 l15 l16 l17 l18 l19 : Slot}  (h : W0 rm 10 [l0, l1, l2, l3, l4, l5, l6, l7, l8, l9, l10, l11, l12, l13, l14, l15, l16, l17, l18, l19] (.int 2147483647 :: S) (H) Q) : W0 rm 8 [l0, l1, l2, l3, l4, l5, l6, l7, l8, l9, l10, l11, l12, l13, l14, l15, l16, l17, l18, l19] (S) H Q := W.ldcInt at_8 (List.mem_of_getElem? (i := 0) rfl) h
theorem s0_10 {rm : Room} {S : List Value} {H : AHeap} {Q : Option Value → AHeap → Prop} {l0 l1 l2 l3 l4 l5 l6 l7 l8 l9 l10 l11 l12 l13 l14 l15 l16 l17 l18 l19 : Slot} {x y : Int32} (h : W0 rm 11 [l0, l1, l2, l3, l4, l5, l6, l7, l8, l9, l10, l11, l12, l13, l14, l15, l16, l17, l18, l19] (.int (x &&& y) :: S) (H) Q) : W0 rm 10 [l0, l1, l2, l3, l4, l5, l6, l7, l8, l9, l10, l11, l12, l13, l14, l15, l16, l17, l18, l19] (.int y :: .int x :: S) H Q := W.iand at_10 h
theorem s0_11 {rm : Room} {S : List Value} {H : AHeap} {Q : Option Value → AHeap → Prop} {l0 l1 l2 l3 l4 l6 l7 l8 l9 l10 l11 l12 l13 l14 l15 l16 l17 l18 l19 : Slot} {x : Int32} (h : W0 rm 13 [l0, l1, l2, l3, l4, .val (.int x), l6, l7, l8, l9, l10, l11, l12, l13, l14, l15, l16, l17, l18, l19] (.int x :: S) (H) Q) : W0 rm 11 [l0, l1, l2, l3, l4, .val (.int x), l6, l7, l8, l9, l10, l11, l12, l13, l14, l15, l16, l17, l18, l19] (S) H Q := W.iload at_11 rfl h
theorem s0_13 {rm : Room} {S : List Value} {H : AHeap} {Q : Option Value → AHeap → Prop} {l0 l1 l2 l3 l4 l5 l6 l7 l8 l9 l10 l11 l12 l13 l14 l15 l16 l17 l18 l19 : Slot} {x y : Int32} (hy : y ≠ 0) (h : W0 rm 14 [l0, l1, l2, l3, l4, l5, l6, l7, l8, l9, l10, l11, l12, l13, l14, l15, l16, l17, l18, l19] (.int (x % y) :: S) (H) Q) : W0 rm 13 [l0, l1, l2, l3, l4, l5, l6, l7, l8, l9, l10, l11, l12, l13, l14, l15, l16, l17, l18, l19] (.int y :: .int x :: S) H Q := W.irem at_13 hy h
theorem s0_14 {rm : Room} {S : List Value} {H : AHeap} {Q : Option Value → AHeap → Prop} {l0 l1 l2 l3 l4 l5 l6 l7 l8 l9 l10 l11 l12 l13 l14 l15 l16 l17 l18 l19 : Slot} {x : Int32} (ho : one l6 = true) (h : W0 rm 16 [l0, l1, l2, l3, l4, l5, .val (.int x), l7, l8, l9, l10, l11, l12, l13, l14, l15, l16, l17, l18, l19] (S) (H) Q) : W0 rm 14 [l0, l1, l2, l3, l4, l5, l6, l7, l8, l9, l10, l11, l12, l13, l14, l15, l16, l17, l18, l19] (.int x :: S) H Q := W.istore at_14 rfl ho h
theorem s0_14w {rm : Room} {S : List Value} {H : AHeap} {Q : Option Value → AHeap → Prop} {l0 l1 l2 l3 l4 l5 l7 l8 l9 l10 l11 l12 l13 l14 l15 l16 l17 l18 l19 : Slot} {w : Value} {x : Int32} (ho : w.category = 2) (h : W0 rm 16 [l0, l1, l2, l3, l4, l5, .val (.int x), .unset, l8, l9, l10, l11, l12, l13, l14, l15, l16, l17, l18, l19] (S) (H) Q) : W0 rm 14 [l0, l1, l2, l3, l4, l5, .val w, l7, l8, l9, l10, l11, l12, l13, l14, l15, l16, l17, l18, l19] (.int x :: S) H Q := W.istoreW at_14 rfl ho (Nat.le_of_ble_eq_true rfl) h
theorem s0_14s {rm : Room} {S : List Value} {H : AHeap} {Q : Option Value → AHeap → Prop} {l0 l1 l2 l3 l4 l5 l7 l8 l9 l10 l11 l12 l13 l14 l15 l16 l17 l18 l19 : Slot} {x : Int32} (h : W0 rm 16 [l0, l1, l2, l3, l4, .unset, .val (.int x), l7, l8, l9, l10, l11, l12, l13, l14, l15, l16, l17, l18, l19] (S) (H) Q) : W0 rm 14 [l0, l1, l2, l3, l4, l5, .second, l7, l8, l9, l10, l11, l12, l13, l14, l15, l16, l17, l18, l19] (.int x :: S) H Q := W.istoreS at_14 rfl (by decide) h
theorem s0_16 {rm : Room} {S : List Value} {H : AHeap} {Q : Option Value → AHeap → Prop} {l0 l1 l2 l4 l5 l6 l7 l8 l9 l10 l11 l12 l13 l14 l15 l16 l17 l18 l19 : Slot} {x : Int32} (h : W0 rm 17 [l0, l1, l2, .val (.int x), l4, l5, l6, l7, l8, l9, l10, l11, l12, l13, l14, l15, l16, l17, l18, l19] (.int x :: S) (H) Q) : W0 rm 16 [l0, l1, l2, .val (.int x), l4, l5, l6, l7, l8, l9, l10, l11, l12, l13, l14, l15, l16, l17, l18, l19] (S) H Q := W.iload_n at_16 rfl h
theorem s0_17 {rm : Room} {S : List Value} {H : AHeap} {Q : Option Value → AHeap → Prop} {l0 l1 l2 l3 l4 l5 l6 l7 l8 l9 l10 l11 l12 l13 l14 l15 l16 l17 l18 l19 : Slot} {x : Int32} (h : W0 rm 18 [l0, l1, l2, l3, l4, l5, l6, l7, l8, l9, l10, l11, l12, l13, l14, l15, l16, l17, l18, l19] (.long x.toInt64 :: S) (H) Q) : W0 rm 17 [l0, l1, l2, l3, l4, l5, l6, l7, l8, l9, l10, l11, l12, l13, l14, l15, l16, l17, l18, l19] (.int x :: S) H Q := W.i2l at_17 h
theorem s0_18 {rm : Room} {S : List Value} {H : AHeap} {Q : Option Value → AHeap → Prop} {l0 l1 l2 l3 l4 l5 l6 l7 l8 l9 l10 l11 l12 l13 l14 l15 l16 l17 l18 l19 : Slot}  (h : W0 rm 21 [l0, l1, l2, l3, l4, l5, l6, l7, l8, l9, l10, l11, l12, l13, l14, l15, l16, l17, l18, l19] (.long 2147483647 :: S) (H) Q) : W0 rm 18 [l0, l1, l2, l3, l4, l5, l6, l7, l8, l9, l10, l11, l12, l13, l14, l15, l16, l17, l18, l19] (S) H Q := W.ldcLong at_18 (List.mem_of_getElem? (i := 1) rfl) h
theorem s0_21 {rm : Room} {S : List Value} {H : AHeap} {Q : Option Value → AHeap → Prop} {l0 l1 l2 l3 l4 l5 l6 l7 l8 l9 l10 l11 l12 l13 l14 l15 l16 l17 l18 l19 : Slot} {x y : Int64} (h : W0 rm 22 [l0, l1, l2, l3, l4, l5, l6, l7, l8, l9, l10, l11, l12, l13, l14, l15, l16, l17, l18, l19] (.long (x &&& y) :: S) (H) Q) : W0 rm 21 [l0, l1, l2, l3, l4, l5, l6, l7, l8, l9, l10, l11, l12, l13, l14, l15, l16, l17, l18, l19] (.long y :: .long x :: S) H Q := W.land at_21 h
theorem s0_22 {rm : Room} {S : List Value} {H : AHeap} {Q : Option Value → AHeap → Prop} {l0 l1 l2 l3 l4 l5 l6 l7 l8 l9 l10 l11 l12 l13 l14 l15 l16 l17 l18 l19 : Slot}  (h : W0 rm 25 [l0, l1, l2, l3, l4, l5, l6, l7, l8, l9, l10, l11, l12, l13, l14, l15, l16, l17, l18, l19] (.long 2147483643 :: S) (H) Q) : W0 rm 22 [l0, l1, l2, l3, l4, l5, l6, l7, l8, l9, l10, l11, l12, l13, l14, l15, l16, l17, l18, l19] (S) H Q := W.ldcLong at_22 (List.mem_of_getElem? (i := 2) rfl) h
theorem s0_25 {rm : Room} {S : List Value} {H : AHeap} {Q : Option Value → AHeap → Prop} {l0 l1 l2 l3 l4 l5 l6 l7 l8 l9 l10 l11 l12 l13 l14 l15 l16 l17 l18 l19 : Slot} {rm' : Room} {H' : AHeap} {a0 : Int64} {a1 : Int64} {r : Int64} (hM : M1 rm' [.long a0, .long a1] H (Is (some (.long r)) H')) (hr : rok rm rm' 4 S = true) (h : W0 (less rm rm') 28 [l0, l1, l2, l3, l4, l5, l6, l7, l8, l9, l10, l11, l12, l13, l14, l15, l16, l17, l18, l19] (.long r :: S) H' Q) : W0 rm 25 [l0, l1, l2, l3, l4, l5, l6, l7, l8, l9, l10, l11, l12, l13, l14, l15, l16, l17, l18, l19] (.long a1 :: .long a0 :: S) H Q := W.callS (S := S) (as := [.long a0, .long a1]) (rm' := rm') at_25 (List.mem_of_getElem? (i := 3) rfl) (List.mem_of_getElem? (i := 4) rfl) (List.mem_of_getElem? (i := 5) rfl) (List.mem_of_getElem? (i := 6) rfl) (by decide) pd1 rfl rfl hM hr (fun _ _ q => by obtain ⟨rfl, rfl⟩ := q; exact h)
theorem s0_25q {rm : Room} {S : List Value} {H : AHeap} {Q : Option Value → AHeap → Prop} {l0 l1 l2 l3 l4 l5 l6 l7 l8 l9 l10 l11 l12 l13 l14 l15 l16 l17 l18 l19 : Slot} {rm' : Room} {Q' : Option Value → AHeap → Prop} {a0 a1 : Value} (hM : M1 rm' [a0, a1] H Q') (hr : rok rm rm' 4 S = true) (h : ∀ v H', Q' v H' → W0 (less rm rm') 28 [l0, l1, l2, l3, l4, l5, l6, l7, l8, l9, l10, l11, l12, l13, l14, l15, l16, l17, l18, l19] (v.toList ++ S) H' Q) : W0 rm 25 [l0, l1, l2, l3, l4, l5, l6, l7, l8, l9, l10, l11, l12, l13, l14, l15, l16, l17, l18, l19] (a1 :: a0 :: S) H Q := W.callS (S := S) (as := [a0, a1]) (rm' := rm') at_25 (List.mem_of_getElem? (i := 3) rfl) (List.mem_of_getElem? (i := 4) rfl) (List.mem_of_getElem? (i := 5) rfl) (List.mem_of_getElem? (i := 6) rfl) (by decide) pd1 rfl rfl hM hr h
theorem s0_28 {rm : Room} {S : List Value} {H : AHeap} {Q : Option Value → AHeap → Prop} {l0 l1 l2 l3 l4 l5 l6 l7 l8 l9 l10 l11 l12 l13 l14 l15 l16 l17 l18 l19 : Slot} {x : Int64} (ho : two l7 l8 = true) (h : W0 rm 30 [l0, l1, l2, l3, l4, l5, l6, .val (.long x), .second, l9, l10, l11, l12, l13, l14, l15, l16, l17, l18, l19] (S) (H) Q) : W0 rm 28 [l0, l1, l2, l3, l4, l5, l6, l7, l8, l9, l10, l11, l12, l13, l14, l15, l16, l17, l18, l19] (.long x :: S) H Q := W.lstore at_28 rfl rfl ho h
theorem s0_30 {rm : Room} {S : List Value} {H : AHeap} {Q : Option Value → AHeap → Prop} {l0 l1 l2 l3 l5 l6 l7 l8 l9 l10 l11 l12 l13 l14 l15 l16 l17 l18 l19 : Slot} {x : Int32} (h : W0 rm 32 [l0, l1, l2, l3, .val (.int x), l5, l6, l7, l8, l9, l10, l11, l12, l13, l14, l15, l16, l17, l18, l19] (.int x :: S) (H) Q) : W0 rm 30 [l0, l1, l2, l3, .val (.int x), l5, l6, l7, l8, l9, l10, l11, l12, l13, l14, l15, l16, l17, l18, l19] (S) H Q := W.iload at_30 rfl h
theorem s0_32 {rm : Room} {S : List Value} {H : AHeap} {Q : Option Value → AHeap → Prop} {l0 l1 l2 l3 l4 l5 l6 l7 l8 l9 l10 l11 l12 l13 l14 l15 l16 l17 l18 l19 : Slot} {x : Int32} (h : W0 rm 33 [l0, l1, l2, l3, l4, l5, l6, l7, l8, l9, l10, l11, l12, l13, l14, l15, l16, l17, l18, l19] (.long x.toInt64 :: S) (H) Q) : W0 rm 32 [l0, l1, l2, l3, l4, l5, l6, l7, l8, l9, l10, l11, l12, l13, l14, l15, l16, l17, l18, l19] (.int x :: S) H Q := W.i2l at_32 h
theorem s0_33 {rm : Room} {S : List Value} {H : AHeap} {Q : Option Value → AHeap → Prop} {l0 l1 l2 l3 l4 l5 l6 l7 l8 l9 l10 l11 l12 l13 l14 l15 l16 l17 l18 l19 : Slot}  (h : W0 rm 36 [l0, l1, l2, l3, l4, l5, l6, l7, l8, l9, l10, l11, l12, l13, l14, l15, l16, l17, l18, l19] (.long 2147483647 :: S) (H) Q) : W0 rm 33 [l0, l1, l2, l3, l4, l5, l6, l7, l8, l9, l10, l11, l12, l13, l14, l15, l16, l17, l18, l19] (S) H Q := W.ldcLong at_33 (List.mem_of_getElem? (i := 1) rfl) h
theorem s0_36 {rm : Room} {S : List Value} {H : AHeap} {Q : Option Value → AHeap → Prop} {l0 l1 l2 l3 l4 l5 l6 l7 l8 l9 l10 l11 l12 l13 l14 l15 l16 l17 l18 l19 : Slot} {x y : Int64} (h : W0 rm 37 [l0, l1, l2, l3, l4, l5, l6, l7, l8, l9, l10, l11, l12, l13, l14, l15, l16, l17, l18, l19] (.long (x &&& y) :: S) (H) Q) : W0 rm 36 [l0, l1, l2, l3, l4, l5, l6, l7, l8, l9, l10, l11, l12, l13, l14, l15, l16, l17, l18, l19] (.long y :: .long x :: S) H Q := W.land at_36 h
theorem s0_37 {rm : Room} {S : List Value} {H : AHeap} {Q : Option Value → AHeap → Prop} {l0 l1 l2 l3 l4 l5 l6 l7 l8 l9 l10 l11 l12 l13 l14 l15 l16 l17 l18 l19 : Slot}  (h : W0 rm 40 [l0, l1, l2, l3, l4, l5, l6, l7, l8, l9, l10, l11, l12, l13, l14, l15, l16, l17, l18, l19] (.long 2147483642 :: S) (H) Q) : W0 rm 37 [l0, l1, l2, l3, l4, l5, l6, l7, l8, l9, l10, l11, l12, l13, l14, l15, l16, l17, l18, l19] (S) H Q := W.ldcLong at_37 (List.mem_of_getElem? (i := 7) rfl) h
theorem s0_40 {rm : Room} {S : List Value} {H : AHeap} {Q : Option Value → AHeap → Prop} {l0 l1 l2 l3 l4 l5 l6 l7 l8 l9 l10 l11 l12 l13 l14 l15 l16 l17 l18 l19 : Slot} {rm' : Room} {H' : AHeap} {a0 : Int64} {a1 : Int64} {r : Int64} (hM : M1 rm' [.long a0, .long a1] H (Is (some (.long r)) H')) (hr : rok rm rm' 4 S = true) (h : W0 (less rm rm') 43 [l0, l1, l2, l3, l4, l5, l6, l7, l8, l9, l10, l11, l12, l13, l14, l15, l16, l17, l18, l19] (.long r :: S) H' Q) : W0 rm 40 [l0, l1, l2, l3, l4, l5, l6, l7, l8, l9, l10, l11, l12, l13, l14, l15, l16, l17, l18, l19] (.long a1 :: .long a0 :: S) H Q := W.callS (S := S) (as := [.long a0, .long a1]) (rm' := rm') at_40 (List.mem_of_getElem? (i := 3) rfl) (List.mem_of_getElem? (i := 4) rfl) (List.mem_of_getElem? (i := 5) rfl) (List.mem_of_getElem? (i := 6) rfl) (by decide) pd1 rfl rfl hM hr (fun _ _ q => by obtain ⟨rfl, rfl⟩ := q; exact h)
theorem s0_40q {rm : Room} {S : List Value} {H : AHeap} {Q : Option Value → AHeap → Prop} {l0 l1 l2 l3 l4 l5 l6 l7 l8 l9 l10 l11 l12 l13 l14 l15 l16 l17 l18 l19 : Slot} {rm' : Room} {Q' : Option Value → AHeap → Prop} {a0 a1 : Value} (hM : M1 rm' [a0, a1] H Q') (hr : rok rm rm' 4 S = true) (h : ∀ v H', Q' v H' → W0 (less rm rm') 43 [l0, l1, l2, l3, l4, l5, l6, l7, l8, l9, l10, l11, l12, l13, l14, l15, l16, l17, l18, l19] (v.toList ++ S) H' Q) : W0 rm 40 [l0, l1, l2, l3, l4, l5, l6, l7, l8, l9, l10, l11, l12, l13, l14, l15, l16, l17, l18, l19] (a1 :: a0 :: S) H Q := W.callS (S := S) (as := [a0, a1]) (rm' := rm') at_40 (List.mem_of_getElem? (i := 3) rfl) (List.mem_of_getElem? (i := 4) rfl) (List.mem_of_getElem? (i := 5) rfl) (List.mem_of_getElem? (i := 6) rfl) (by decide) pd1 rfl rfl hM hr h
theorem s0_43 {rm : Room} {S : List Value} {H : AHeap} {Q : Option Value → AHeap → Prop} {l0 l1 l2 l3 l4 l5 l6 l7 l8 l9 l10 l11 l12 l13 l14 l15 l16 l17 l18 l19 : Slot} {x : Int64} (ho : two l9 l10 = true) (h : W0 rm 45 [l0, l1, l2, l3, l4, l5, l6, l7, l8, .val (.long x), .second, l11, l12, l13, l14, l15, l16, l17, l18, l19] (S) (H) Q) : W0 rm 43 [l0, l1, l2, l3, l4, l5, l6, l7, l8, l9, l10, l11, l12, l13, l14, l15, l16, l17, l18, l19] (.long x :: S) H Q := W.lstore at_43 rfl rfl ho h
theorem e1 {rm : Room} {H : AHeap} {Q : Option Value → AHeap → Prop} {a0 : Int64} {a1 : Int64} (h : W1 rm 0 [.val (.long a0), .second, .val (.long a1), .second] [] H Q) : M1 rm [.long a0, .long a1] H Q := M.of pf1 rfl rfl h
theorem e1L {rm : Room} {H : AHeap} {Q : Option Value → AHeap → Prop} {L : List Slot} {as : List Value} (h : W1 rm 0 L [] H Q) (hl : ent as ++ List.replicate (4 - (ent as).length) .unset = L := by rfl) (hn : L.length = 4 := by rfl) : M1 rm as H Q := M.of pf1 hl hn h
theorem s1_0 {rm : Room} {S : List Value} {H : AHeap} {Q : Option Value → AHeap → Prop} {l1 l2 l3 : Slot} {x : Int64} (h : W1 rm 1 [.val (.long x), l1, l2, l3] (.long x :: S) (H) Q) : W1 rm 0 [.val (.long x), l1, l2, l3] (S) H Q := W.lload_n d1_0 rfl h
theorem s1_1 {rm : Room} {S : List Value} {H : AHeap} {Q : Option Value → AHeap → Prop} {l0 l1 l3 : Slot} {x : Int64} (h : W1 rm 2 [l0, l1, .val (.long x), l3] (.long x :: S) (H) Q) : W1 rm 1 [l0, l1, .val (.long x), l3] (S) H Q := W.lload_n d1_1 rfl h
theorem s1_3 {rm : Room} {S : List Value} {H : AHeap} {Q : Option Value → AHeap → Prop} {l0 l1 l2 l3 : Slot} {x : Int32} (h1 : 0 < x → W1 rm 10 [l0, l1, l2, l3] S H Q) (h2 : ¬ 0 < x → W1 rm 6 [l0, l1, l2, l3] S H Q) : W1 rm 3 [l0, l1, l2, l3] (.int x :: S) H Q := W.ifc d1_3 (by decide) (by decide) h1 h2
theorem s1_2c {rm : Room} {S : List Value} {H : AHeap} {Q : Option Value → AHeap → Prop} {l0 l1 l2 l3 : Slot} {x y : Int64} (h1 : y < x → W1 rm 10 [l0, l1, l2, l3] S H Q) (h2 : ¬ y < x → W1 rm 6 [l0, l1, l2, l3] S H Q) : W1 rm 2 [l0, l1, l2, l3] (.long y :: .long x :: S) H Q := W.lcif d1_2 rfl d1_3 (by decide) (by decide) h1 h2
theorem s1_6 {rm : Room} {S : List Value} {H : AHeap} {Q : Option Value → AHeap → Prop} {l1 l2 l3 : Slot} {x : Int64} (h : W1 rm 7 [.val (.long x), l1, l2, l3] (.long x :: S) (H) Q) : W1 rm 6 [.val (.long x), l1, l2, l3] (S) H Q := W.lload_n d1_6 rfl h
theorem s1_7 {rm : Room} {S : List Value} {H : AHeap} {Q : Option Value → AHeap → Prop} {l0 l1 l2 l3 : Slot}  (h : W1 rm 11 [l0, l1, l2, l3] (S) (H) Q) : W1 rm 7 [l0, l1, l2, l3] (S) H Q := W.goto d1_7 (by decide) (by decide) h
theorem s1_10 {rm : Room} {S : List Value} {H : AHeap} {Q : Option Value → AHeap → Prop} {l0 l1 l3 : Slot} {x : Int64} (h : W1 rm 11 [l0, l1, .val (.long x), l3] (.long x :: S) (H) Q) : W1 rm 10 [l0, l1, .val (.long x), l3] (S) H Q := W.lload_n d1_10 rfl h
theorem s1_11 {rm : Room} {S : List Value} {H : AHeap} {Q : Option Value → AHeap → Prop} {l0 l1 l2 l3 : Slot} {x : Int64} (hQ : Q (some (.long x)) H) : W1 rm 11 [l0, l1, l2, l3] (.long x :: S) H Q := W.lreturn d1_11 rfl hQ
theorem own_mask (x k : Int32) : ∃ N : Nat, N ≤ k.toBitVec.toNat ∧ x &&& k = Int32.ofNat N := by
  refine ⟨(x &&& k).toBitVec.toNat, ?_, ?_⟩
  · rw [Int32.toBitVec_and, BitVec.toNat_and]; exact Nat.and_le_right
  · apply Int32.toBitVec_inj.mp
    rw [Int32.toBitVec_ofNat']
    simp
theorem own_maskL (x : Int64) : 0 ≤ (x &&& 2147483647).toInt ∧ (x &&& 2147483647).toInt ≤ 2147483647 := by
  have h : (x &&& 2147483647).toBitVec.toNat ≤ 2147483647 := by
    rw [Int64.toBitVec_and, BitVec.toNat_and]; exact Nat.and_le_right
  have e : (x &&& 2147483647).toInt = (x &&& 2147483647).toBitVec.toNat := by
    rw [← Int64.toInt_toBitVec]; exact BitVec.toInt_eq_toNat_of_lt (by omega)
  omega
theorem own_rem (c : Int32) (n : Nat) (h0 : 0 < n) (h1 : n < 100) : ∃ R : Nat, R < n ∧ (c &&& 2147483647) % Int32.ofNat n = Int32.ofNat R := by
  obtain ⟨N, hN, e⟩ := own_mask c 2147483647
  have hN' : N ≤ 2147483647 := hN
  have q := Nat.mod_lt N h0
  refine ⟨N % n, q, ?_⟩
  rw [e]
  apply Int32.toInt_inj.mp
  rw [Int32.toInt_mod, Int32.toInt_ofNat_of_lt (by omega), Int32.toInt_ofNat_of_lt (by omega), Int32.toInt_ofNat_of_lt (by omega)]
  exact Int.ofNat_tmod N n
theorem own_min (a b : Int64) (H : AHeap) : M1 ⟨0, 0, 0, 0⟩ [.long a, .long b] H (fun v H' => H' = H ∧ ∃ z : Int64, v = some (.long z) ∧ ((z = a ∧ ¬ b < a) ∨ (z = b ∧ b < a))) := by
  refine e1 ?_
  refine s1_0 (s1_1 (s1_2c (fun h => ?_) (fun h => ?_)))
  · exact s1_10 (s1_11 ⟨rfl, _, rfl, Or.inr ⟨rfl, h⟩⟩)
  · exact s1_6 (s1_7 (s1_11 ⟨rfl, _, rfl, Or.inl ⟨rfl, h⟩⟩))
theorem own_bnd {d : Int32} {b z : Int64} (hb : 0 ≤ b.toInt ∧ b.toInt ≤ 2147483647) (h : (z = d.toInt64 &&& 2147483647 ∧ ¬ b < d.toInt64 &&& 2147483647) ∨ (z = b ∧ b < d.toInt64 &&& 2147483647)) : 0 ≤ z.toInt ∧ z.toInt ≤ 2 ^ 31 := by
  have := own_maskL d.toInt64
  rcases h with ⟨rfl, -⟩ | ⟨rfl, -⟩ <;> omega
/-- the room that the law has -/
def own_R : Room := ⟨10, 48, 320, 240⟩
def own_u (j : Nat) : AS := some (some (.inr (.inr (j, 0, 0))))
/-- the law's locals at pc 45 -/
def own_L (n r : Int32) : List AS := [own_u 0, own_u 1, own_u 2, own_u 3, own_u 4, some (some (.inl (.int n))), some (some (.inl (.int r))), some (some (.inr (.inl (1, 0, 0)))), some none, some (some (.inr (.inl (0, 1, 0)))), some none, none, none, none, none, none, none, none, none, none]
theorem own_c3_0 : ((List.range 8).all fun m => finM PR 3000 T0 1 1 7 (Int32.ofNat m) (runTo PR 189 3000 T0 own_R 45 (own_L 3 (Int32.ofNat 0)) [] [])) = true := by decide +kernel
theorem own_c3_1 : ((List.range 8).all fun m => finM PR 3000 T0 1 1 7 (Int32.ofNat m) (runTo PR 189 3000 T0 own_R 45 (own_L 3 (Int32.ofNat 1)) [] [])) = true := by decide +kernel
theorem own_c3_2 : ((List.range 8).all fun m => finM PR 3000 T0 1 1 7 (Int32.ofNat m) (runTo PR 189 3000 T0 own_R 45 (own_L 3 (Int32.ofNat 2)) [] [])) = true := by decide +kernel
theorem own_c4_0 : ((List.range 16).all fun m => finM PR 3000 T0 1 1 15 (Int32.ofNat m) (runTo PR 189 3000 T0 own_R 45 (own_L 4 (Int32.ofNat 0)) [] [])) = true := by decide +kernel
theorem own_c4_1 : ((List.range 16).all fun m => finM PR 3000 T0 1 1 15 (Int32.ofNat m) (runTo PR 189 3000 T0 own_R 45 (own_L 4 (Int32.ofNat 1)) [] [])) = true := by decide +kernel
theorem own_c4_2 : ((List.range 16).all fun m => finM PR 3000 T0 1 1 15 (Int32.ofNat m) (runTo PR 189 3000 T0 own_R 45 (own_L 4 (Int32.ofNat 2)) [] [])) = true := by decide +kernel
theorem own_c4_3 : ((List.range 16).all fun m => finM PR 3000 T0 1 1 15 (Int32.ofNat m) (runTo PR 189 3000 T0 own_R 45 (own_L 4 (Int32.ofNat 3)) [] [])) = true := by decide +kernel
theorem own_c3 (r m : Nat) (hr : r < 3) (hm : m < 8) : finM PR 3000 T0 1 1 7 (Int32.ofNat m) (runTo PR 189 3000 T0 own_R 45 (own_L 3 (Int32.ofNat r)) [] []) = true := by
  match r, hr with
  | 0, _ => exact List.all_eq_true.mp own_c3_0 m (List.mem_range.mpr hm)
  | 1, _ => exact List.all_eq_true.mp own_c3_1 m (List.mem_range.mpr hm)
  | 2, _ => exact List.all_eq_true.mp own_c3_2 m (List.mem_range.mpr hm)
theorem own_c4 (r m : Nat) (hr : r < 4) (hm : m < 16) : finM PR 3000 T0 1 1 15 (Int32.ofNat m) (runTo PR 189 3000 T0 own_R 45 (own_L 4 (Int32.ofNat r)) [] []) = true := by
  match r, hr with
  | 0, _ => exact List.all_eq_true.mp own_c4_0 m (List.mem_range.mpr hm)
  | 1, _ => exact List.all_eq_true.mp own_c4_1 m (List.mem_range.mpr hm)
  | 2, _ => exact List.all_eq_true.mp own_c4_2 m (List.mem_range.mpr hm)
  | 3, _ => exact List.all_eq_true.mp own_c4_3 m (List.mem_range.mpr hm)
def own_f (a b c d e : Int32) : Nat → Int32
  | 0 => a
  | 1 => b
  | 2 => c
  | 3 => d
  | _ => e
theorem own_go {a b c d e n r k m : Int32} {x y : Int64} (hx : 0 ≤ x.toInt ∧ x.toInt ≤ 2 ^ 31) (hy : 0 ≤ y.toInt ∧ y.toInt ≤ 2 ^ 31) (hm : b &&& k = m) (h : finM PR 3000 T0 1 1 k m (runTo PR 189 3000 T0 own_R 45 (own_L n r) [] []) = true) :
    W0 own_R 45 [.val (.int a), .val (.int b), .val (.int c), .val (.int d), .val (.int e), .val (.int n), .val (.int r), .val (.long x), .second, .val (.long y), .second, .unset, .unset, .unset, .unset, .unset, .unset, .unset, .unset, .unset] [] [] (fun v _ => v = some (.int 1)) := by
  have := finM_one (ox := x) (oy := (y, own_f a b c d e)) pr_ok ⟨hx.1, hx.2, hy.1, hy.2⟩ a0 hm h
  have u : ∀ j : Nat, gs x (y, own_f a b c d e) (own_u j) = .val (.int (own_f a b c d e j)) := fun j => by simp only [own_u, gs, gv, Int32.and_zero, if_true]
  have x1 : gl x (y, own_f a b c d e) 1 0 0 = x := by simp [gl]
  have y1 : gl x (y, own_f a b c d e) 0 1 0 = y := by simp [gl]
  simp only [own_L, List.map_cons, List.map_nil, u] at this
  simp only [gs, gv, x1, y1] at this
  exact this
theorem law_ok (a b c d e : Int32) : M0 room_1 [.int a, .int b, .int c, .int d, .int e] [] (fun r _ => r = some (.int 1)) := by
  refine e0 ?_
  obtain ⟨N, hN, ea⟩ := own_mask a 1
  have hN' : N ≤ 1 := hN
  have ne : (3 : Int32) + (a &&& 1) ≠ 0 := by
    rw [ea]
    match N, hN' with
    | 0, _ => decide
    | 1, _ => decide
  refine s0_0 (s0_1 (s0_2 (s0_3 (s0_4 (s0_5 rfl (s0_7 (s0_8 (s0_10 (s0_11 (s0_13 ne (s0_14 rfl (s0_16 (s0_17 (s0_18 (s0_21 (s0_22 (s0_25q (own_min _ _ _) rfl fun v H' q => ?_)))))))))))))))))
  obtain ⟨rfl, x, rfl, hx⟩ := q
  refine s0_28 rfl (s0_30 (s0_32 (s0_33 (s0_36 (s0_37 (s0_40q (own_min _ _ _) rfl fun v H' q => ?_))))))
  obtain ⟨rfl, y, rfl, hy⟩ := q
  refine s0_43 rfl ?_
  have bx := own_bnd (by decide) hx
  have bY := own_bnd (by decide) hy
  rw [ea]
  match N, hN' with
  | 0, _ =>
    obtain ⟨R, hR, er⟩ := own_rem c 3 (by decide) (by decide)
    have e3 : (3 : Int32) + Int32.ofNat 0 = Int32.ofNat 3 := by decide
    rw [e3, er]
    obtain ⟨M, hM, em⟩ := own_mask b 7
    have hM' : M < 8 := Nat.lt_of_le_of_lt hM (by decide)
    exact own_go bx bY em (own_c3 R M hR hM')
  | 1, _ =>
    obtain ⟨R, hR, er⟩ := own_rem c 4 (by decide) (by decide)
    have e4 : (3 : Int32) + Int32.ofNat 1 = Int32.ofNat 4 := by decide
    rw [e4, er]
    obtain ⟨M, hM, em⟩ := own_mask b 15
    have hM' : M < 16 := Nat.lt_of_le_of_lt hM (by decide)
    exact own_go bx bY em (own_c4 R M hR hM')
set_option maxRecDepth 65536 in
set_option maxHeartbeats 4000000 in
theorem comes_1 {Post : Tables → Env → Array Value → State → Outcome → State → Prop} (hpost : ∀ tb e args s v u, (limb_1_1.after args s (.returned v) u = true ∧ limb_1_2.after args s (.returned v) u = true ∧ True) → FrameEnd s (.returned v) u (Jvm.fieldLocs frame_1_writes args s ++ Jvm.arrayLocs frame_1_arrays args s ++ Jvm.staticLocs frame_1_statics s) 48 320 → Post tb e args s (.returned v) u) :
    ArmFor flags0 classFile x code maxLocals ret World_1 tables_1 room_1 Calls_1 rest_1 Pre_1 Post := by
  intro l hfl _ _ p e ha hc hk s m args below hf hA hF happ hP
  obtain ⟨hcalls, hrest, hpre⟩ := hP
  obtain ⟨-, -, -, hnamed, -, -, -, hat⟩ := (Spec.applies_iff hf).mp happ
  obtain ⟨hg, hn⟩ := and_e (Cond.before_iff.mp (show (Jvm.Cond.and given_1 narrow_1).before args s = true from hpre))
  obtain ⟨hg0, hg⟩ := and_e hg
  obtain ⟨hk0, hg⟩ := and_e hg
  obtain ⟨hk1, hg⟩ := and_e hg
  obtain ⟨hk2, hg⟩ := and_e hg
  obtain ⟨hk3, hg⟩ := and_e hg
  have hk4 := hg
  obtain ⟨w0, w1, w2, w3, w4, rfl⟩ : ∃ w0 w1 w2 w3 w4 : Value, args = #[w0, w1, w2, w3, w4] := by
    have hs : args.size = 5 := by simpa [Cond.value, given_1] using hg0
    obtain ⟨L⟩ := args
    match L, hs with
    | [w0, w1, w2, w3, w4], _ => exact ⟨w0, w1, w2, w3, w4, rfl⟩
  have hw := fun d (hd : d ∈ tables_1) => atoms_spec (ws := Jvm.Cond.code x code maxLocals ret :: tables_1) hat d (List.mem_cons_of_mem _ hd)
  obtain ⟨i0, e0⟩ := is_v hk0
  obtain rfl : w0 = (.int i0) := Option.some.inj e0
  obtain ⟨i1, e1⟩ := is_v hk1
  obtain rfl : w1 = (.int i1) := Option.some.inj e1
  obtain ⟨i2, e2⟩ := is_v hk2
  obtain rfl : w2 = (.int i2) := Option.some.inj e2
  obtain ⟨i3, e3⟩ := is_v hk3
  obtain rfl : w3 = (.int i3) := Option.some.inj e3
  obtain ⟨i4, e4⟩ := is_v hk4
  obtain rfl : w4 = (.int i4) := Option.some.inj e4
  obtain ⟨n, o, h1, h2, h3, _, L, rfl, ⟨v', H', rfl, hR, rfl, N⟩, hq⟩ := law_ok i0 i1 i2 i3 i4 s _ hw l s.heap tables_1 (Rel.start s KT) p e ha hc hk s m _ below hf ((Spec.applies_iff_loose hf).mp happ).1 ⟨rfl, State.Warmed39.refl s, rfl⟩ trivial
  refine ⟨n, _, h1, h2, h3, hpost _ _ _ _ _ _ ⟨Cond.after_iff.mpr rfl, Cond.after_iff.mpr (eq_i res_at (Term.int_eval (1)) rfl), trivial⟩ ⟨hq.1, hq.2.1, (hq.2.2.sift fun y hy => Or.inr (N y hy)).mono (by decide) (by decide)⟩⟩
theorem main_1_1 : Claimed_1_1 := comes_1 fun _ _ _ _ _ _ h hF => ⟨h.1, hF⟩
theorem main_1_2 : Claimed_1_2 := comes_1 fun _ _ _ _ _ _ h hF => ⟨h.2.1, hF⟩
end Jvm.Pilot.@@N@@
namespace Jvm.Pilot.@@N@@
open Jvm Jvm.ClassFile Sem Op Lib Jvm.Free Jvm.Stand Jvm.Pilot.@@N@@.Jvm.D
/-! MADE BY PROGRAM (witnessworld.py) out of the Statement's table words and the real class files: 15 classes; the members and pool entries that the words name. The judged class is class 1, her method 2. -/
namespace start1
open Jvm.ClassFile
def u (s : String) : CpInfo := .utf8 (stringToUtf16 s)
/-- a pool by its gaps: so many unusable entries, then the entry; so many at the end -/
def gap : Nat → List CpInfo → List CpInfo
  | 0, r => r
  | n + 1, r => .unusable :: gap n r
def poolList (es : List (Nat × CpInfo)) (last : Nat) : List CpInfo := es.foldr (fun e r => gap e.1 (e.2 :: r)) (gap last [])
def pool (es : List (Nat × CpInfo)) (last : Nat) : Array CpInfo := ⟨poolList es last⟩
def fileOf (pool : Array CpInfo) (this : Nat) (attrs : Array Attribute := #[]) (ms : Array MethodInfo := #[]) (fl : Nat := 33) (sup : Nat := 0) (ifs : Array Nat := #[]) (fds : Array FieldInfo := #[]) : ClassFile where
  minorVersion := 0
  majorVersion := 65
  constantPool := pool
  accessFlags := fl
  thisClass := this
  superClass := sup
  interfaces := ifs
  fields := fds
  methods := ms
  attributes := attrs
def plain (name : String) (sup : Option ClassId) : Class where
  name := name
  kind := .ordinary
  loader := none
  accessFlags := 33
  super := sup
  interfaces := #[]
  cf := none
  fields := #[]
  methods := #[]
  instanceTypes := #[]
  staticTypes := #[]
  resolved := #[]
  callSites := []
  init := .initialized
  statics := none
  mirror := none

def pool0 : Array CpInfo := pool [(5, u "<init>"), (0, u "()V"), (1, .class_ 10), (1, u "java/lang/Object")] 113

def k0c0 : Code := { maxStack := 0, maxLocals := 1, code := object_method_1_code, exceptionTable := #[], attributes := #[] }
def k0m0 : Method := { name := "<init>", desc := "()V", sig := { parameters := [], returnType := none }, accessFlags := 1, code := some k0c0 }
/-- java/lang/Object -/
def k0 : Class := { plain "java/lang/Object" none with
  accessFlags := 33
  interfaces := #[]
  cf := some (fileOf pool0 8 #[] #[{ accessFlags := 1, nameIndex := 5, descriptorIndex := 6, attributes := #[] }] 33 0 #[] #[])
  fields := #[]
  methods := #[k0m0]
  instanceTypes := #[]
  staticTypes := #[]
  resolved := Array.replicate 124 none
  statics := none }

def pool1 : Array CpInfo := pool [(2, .class_ 4), (1, u "java/lang/Object"), (0, u "<init>"), (0, u "()V"), (0, .integer 2147483647), (0, .long 2147483647), (1, .long 2147483643), (1, .methodref 13 14), (0, .class_ 15), (0, .nameAndType 16 17), (0, u "java/lang/Math"), (0, u "min"), (0, u "(JJ)J"), (0, .long 2147483642), (1, .long 5), (1, .long 4), (1, .long 2), (1, .methodref 27 28), (0, .class_ 29), (0, .nameAndType 30 31), (0, u "com/example/overlay_of_graphs/overlayofgraphs/embed/ConvexHullToArrayPinLaw"), (0, u "place"), (0, u "([I[J[J[JIIIJJ)V"), (0, .class_ 33), (0, u "com/example/overlay_of_graphs/overlayofgraphs/embed/ConvexHull"), (0, .methodref 32 35), (0, .nameAndType 5 36), (0, u "([J[J[I)V"), (0, .methodref 32 38), (0, .nameAndType 39 40), (0, u "remove"), (0, u "(I)V"), (0, .methodref 32 42), (0, .nameAndType 43 44), (0, u "toArray"), (0, u "()[I"), (2, u "law"), (0, u "(IIIII)Z")] 7

def k1m0 : Method := { name := "<init>", desc := "()V", sig := { parameters := [], returnType := none }, accessFlags := 1, code := none }
def k1c1 : Code := { maxStack := 6, maxLocals := 12, code := method_2_code, exceptionTable := #[], attributes := #[] }
def k1m1 : Method := { name := "place", desc := "([I[J[J[JIIIJJ)V", sig := { parameters := [(.array .int), (.array .long), (.array .long), (.array .long), .int, .int, .int, .long, .long], returnType := none }, accessFlags := 10, code := some k1c1 }
def k1c2 : Code := { maxStack := 11, maxLocals := 20, code := code, exceptionTable := #[], attributes := #[] }
def k1m2 : Method := { name := "law", desc := "(IIIII)Z", sig := { parameters := [.int, .int, .int, .int, .int], returnType := some .boolean }, accessFlags := 9, code := some k1c2 }
/-- com/example/overlay_of_graphs/overlayofgraphs/embed/ConvexHullToArrayPinLaw -/
def k1 : Class := { plain "com/example/overlay_of_graphs/overlayofgraphs/embed/ConvexHullToArrayPinLaw" (some 0) with
  accessFlags := 49
  interfaces := #[]
  cf := some (fileOf pool1 27 #[] #[{ accessFlags := 1, nameIndex := 5, descriptorIndex := 6, attributes := #[] }, { accessFlags := 10, nameIndex := 30, descriptorIndex := 31, attributes := #[] }, { accessFlags := 9, nameIndex := 47, descriptorIndex := 48, attributes := #[] }] 49 2 #[] #[])
  fields := #[]
  methods := #[k1m0, k1m1, k1m2]
  instanceTypes := #[]
  staticTypes := #[]
  resolved := Array.replicate 56 none
  statics := none }

def pool2 : Array CpInfo := pool [(1, .class_ 2), (0, u "java/lang/Math"), (1, .class_ 6), (1, u "java/lang/Object"), (0, u "<init>"), (0, u "()V"), (89, .class_ 100), (1, u "java/lang/Math$RandomNumberGeneratorHolder"), (20, u "(JJ)J"), (50, u "negativeZeroFloatBits"), (0, u "J"), (2, u "negativeZeroDoubleBits"), (24, u "min"), (43, u "$assertionsDisabled"), (0, u "Z"), (91, u "twoToTheDoubleScaleDown"), (0, u "D"), (4, u "twoToTheDoubleScaleUp"), (9, u "E"), (3, u "PI"), (2, u "TAU"), (2, u "DEGREES_TO_RADIANS"), (0, u "RADIANS_TO_DEGREES")] 94

def k2m0 : Method := { name := "<init>", desc := "()V", sig := { parameters := [], returnType := none }, accessFlags := 2, code := none }
def k2c1 : Code := { maxStack := 4, maxLocals := 4, code := jdk_29_method_70_code, exceptionTable := #[], attributes := #[] }
def k2m1 : Method := { name := "min", desc := "(JJ)J", sig := { parameters := [.long, .long], returnType := some .long }, accessFlags := 9, code := some k2c1 }
/-- java/lang/Math -/
def k2 : Class := { plain "java/lang/Math" (some 0) with
  accessFlags := 49
  interfaces := #[]
  cf := some (fileOf pool2 1 #[.nestMembers #[98]] #[{ accessFlags := 2, nameIndex := 7, descriptorIndex := 8, attributes := #[] }, { accessFlags := 9, nameIndex := 201, descriptorIndex := 121, attributes := #[] }] 49 4 #[] #[{ accessFlags := 25, nameIndex := 354, descriptorIndex := 339, attributes := #[] }, { accessFlags := 25, nameIndex := 358, descriptorIndex := 339, attributes := #[] }, { accessFlags := 25, nameIndex := 361, descriptorIndex := 339, attributes := #[] }, { accessFlags := 26, nameIndex := 364, descriptorIndex := 339, attributes := #[] }, { accessFlags := 26, nameIndex := 365, descriptorIndex := 339, attributes := #[] }, { accessFlags := 26, nameIndex := 172, descriptorIndex := 173, attributes := #[] }, { accessFlags := 26, nameIndex := 176, descriptorIndex := 173, attributes := #[] }, { accessFlags := 8, nameIndex := 344, descriptorIndex := 339, attributes := #[] }, { accessFlags := 8, nameIndex := 338, descriptorIndex := 339, attributes := #[] }, { accessFlags := 4120, nameIndex := 245, descriptorIndex := 246, attributes := #[] }])
  fields := #[{ name := "E", type := .double, accessFlags := 25, slot := 0, constantValue := 0 }, { name := "PI", type := .double, accessFlags := 25, slot := 1, constantValue := 0 }, { name := "TAU", type := .double, accessFlags := 25, slot := 2, constantValue := 0 }, { name := "DEGREES_TO_RADIANS", type := .double, accessFlags := 26, slot := 3, constantValue := 0 }, { name := "RADIANS_TO_DEGREES", type := .double, accessFlags := 26, slot := 4, constantValue := 0 }, { name := "negativeZeroFloatBits", type := .long, accessFlags := 26, slot := 5, constantValue := 0 }, { name := "negativeZeroDoubleBits", type := .long, accessFlags := 26, slot := 6, constantValue := 0 }, { name := "twoToTheDoubleScaleUp", type := .double, accessFlags := 8, slot := 7, constantValue := 0 }, { name := "twoToTheDoubleScaleDown", type := .double, accessFlags := 8, slot := 8, constantValue := 0 }, { name := "$assertionsDisabled", type := .boolean, accessFlags := 4120, slot := 9, constantValue := 0 }]
  methods := #[k2m0, k2m1]
  instanceTypes := #[]
  staticTypes := #[.double, .double, .double, .double, .double, .long, .long, .double, .double, .boolean]
  resolved := Array.replicate 460 none
  statics := none }

def pool3 : Array CpInfo := pool [(1, .methodref 2 3), (0, .class_ 4), (0, .nameAndType 5 6), (0, u "java/lang/Object"), (0, u "<init>"), (0, u "()V"), (0, .fieldref 8 9), (0, .class_ 10), (0, .nameAndType 11 12), (0, u "com/example/overlay_of_graphs/overlayofgraphs/embed/ConvexHull"), (0, u "x"), (0, u "[J"), (0, .fieldref 8 14), (0, .nameAndType 15 16), (0, u "points"), (0, u "[I"), (0, .fieldref 8 18), (0, .nameAndType 19 12), (0, u "xy"), (0, .fieldref 8 21), (0, .nameAndType 22 23), (0, u "leaves"), (0, u "I"), (0, .fieldref 8 25), (0, .nameAndType 26 16), (0, u "first"), (0, .fieldref 8 28), (0, .nameAndType 29 16), (0, u "last"), (0, .class_ 31), (0, u "com/example/overlay_of_graphs/overlayofgraphs/embed/ConvexHull$Chain"), (0, .methodref 30 33), (0, .nameAndType 5 34), (0, u "(Lcom/example/overlay_of_graphs/overlayofgraphs/embed/ConvexHull;I)V"), (0, .fieldref 8 36), (0, .nameAndType 37 38), (0, u "upper"), (0, u "Lcom/example/overlay_of_graphs/overlayofgraphs/embed/ConvexHull$Chain;"), (0, .fieldref 8 40), (0, .nameAndType 41 38), (0, u "lower"), (0, .methodref 43 44), (0, .class_ 45), (0, .nameAndType 46 47), (0, u "java/util/Arrays"), (0, u "fill"), (0, u "([II)V"), (0, .methodref 8 49), (0, .nameAndType 50 51), (0, u "joinEnds"), (0, u "(I)V"), (0, .methodref 30 53), (0, .nameAndType 54 55), (0, u "bridge"), (0, u "(III)V"), (0, .fieldref 8 57), (0, .nameAndType 58 23), (0, u "size"), (0, .methodref 8 60), (0, .nameAndType 61 62), (0, u "change"), (0, u "(IZ)V"), (0, .methodref 8 64), (0, .nameAndType 65 66), (0, u "leavesLeftOf"), (0, u "(J)I"), (5, .class_ 74), (1, u "com/example/overlay_of_graphs/overlayofgraphs/embed/ConvexHull$PointOrder"), (2, .methodref 8 78), (0, .nameAndType 79 80), (0, u "leafOf"), (0, u "(I)I"), (13, .methodref 30 95), (0, .nameAndType 61 96), (0, u "(IIZZ)Z"), (18, u "([J[J[I)V"), (6, u "toArray"), (0, u "()[I"), (1, u "remove"), (9, .class_ 136), (0, u "com/example/overlay_of_graphs/overlayofgraphs/embed/ConvexHull$Chain$Walk")] 20

def k3c0 : Code := { maxStack := 5, maxLocals := 6, code := prog_13_method_1_code, exceptionTable := #[], attributes := #[] }
def k3m0 : Method := { name := "<init>", desc := "([J[J[I)V", sig := { parameters := [(.array .long), (.array .long), (.array .int)], returnType := none }, accessFlags := 0, code := some k3c0 }
def k3c1 : Code := { maxStack := 4, maxLocals := 4, code := prog_13_method_3_code, exceptionTable := #[], attributes := #[] }
def k3m1 : Method := { name := "toArray", desc := "()[I", sig := { parameters := [], returnType := some (.array .int) }, accessFlags := 0, code := some k3c1 }
def k3c2 : Code := { maxStack := 3, maxLocals := 2, code := prog_13_method_5_code, exceptionTable := #[], attributes := #[] }
def k3m2 : Method := { name := "remove", desc := "(I)V", sig := { parameters := [.int], returnType := none }, accessFlags := 0, code := some k3c2 }
def k3c3 : Code := { maxStack := 5, maxLocals := 10, code := prog_13_method_8_code, exceptionTable := #[], attributes := #[] }
def k3m3 : Method := { name := "change", desc := "(IZ)V", sig := { parameters := [.int, .boolean], returnType := none }, accessFlags := 2, code := some k3c3 }
def k3c4 : Code := { maxStack := 5, maxLocals := 2, code := prog_13_method_9_code, exceptionTable := #[], attributes := #[] }
def k3m4 : Method := { name := "joinEnds", desc := "(I)V", sig := { parameters := [.int], returnType := none }, accessFlags := 2, code := some k3c4 }
def k3c5 : Code := { maxStack := 3, maxLocals := 3, code := prog_13_method_10_code, exceptionTable := #[], attributes := #[] }
def k3m5 : Method := { name := "leafOf", desc := "(I)I", sig := { parameters := [.int], returnType := some .int }, accessFlags := 2, code := some k3c5 }
def k3c6 : Code := { maxStack := 4, maxLocals := 6, code := prog_13_method_11_code, exceptionTable := #[], attributes := #[] }
def k3m6 : Method := { name := "leavesLeftOf", desc := "(J)I", sig := { parameters := [.long], returnType := some .int }, accessFlags := 2, code := some k3c6 }
/-- com/example/overlay_of_graphs/overlayofgraphs/embed/ConvexHull -/
def k3 : Class := { plain "com/example/overlay_of_graphs/overlayofgraphs/embed/ConvexHull" (some 0) with
  accessFlags := 48
  interfaces := #[]
  cf := some (fileOf pool3 8 #[.nestMembers #[30, 135, 72]] #[{ accessFlags := 0, nameIndex := 5, descriptorIndex := 115, attributes := #[] }, { accessFlags := 0, nameIndex := 122, descriptorIndex := 123, attributes := #[] }, { accessFlags := 0, nameIndex := 125, descriptorIndex := 51, attributes := #[] }, { accessFlags := 2, nameIndex := 61, descriptorIndex := 62, attributes := #[] }, { accessFlags := 2, nameIndex := 50, descriptorIndex := 51, attributes := #[] }, { accessFlags := 2, nameIndex := 79, descriptorIndex := 80, attributes := #[] }, { accessFlags := 2, nameIndex := 65, descriptorIndex := 66, attributes := #[] }] 48 2 #[] #[{ accessFlags := 18, nameIndex := 11, descriptorIndex := 12, attributes := #[] }, { accessFlags := 18, nameIndex := 15, descriptorIndex := 16, attributes := #[] }, { accessFlags := 18, nameIndex := 19, descriptorIndex := 12, attributes := #[] }, { accessFlags := 18, nameIndex := 22, descriptorIndex := 23, attributes := #[] }, { accessFlags := 18, nameIndex := 26, descriptorIndex := 16, attributes := #[] }, { accessFlags := 18, nameIndex := 29, descriptorIndex := 16, attributes := #[] }, { accessFlags := 18, nameIndex := 37, descriptorIndex := 38, attributes := #[] }, { accessFlags := 18, nameIndex := 41, descriptorIndex := 38, attributes := #[] }, { accessFlags := 2, nameIndex := 58, descriptorIndex := 23, attributes := #[] }])
  fields := #[{ name := "x", type := (.array .long), accessFlags := 18, slot := 0, constantValue := 0 }, { name := "points", type := (.array .int), accessFlags := 18, slot := 1, constantValue := 0 }, { name := "xy", type := (.array .long), accessFlags := 18, slot := 2, constantValue := 0 }, { name := "leaves", type := .int, accessFlags := 18, slot := 3, constantValue := 0 }, { name := "first", type := (.array .int), accessFlags := 18, slot := 4, constantValue := 0 }, { name := "last", type := (.array .int), accessFlags := 18, slot := 5, constantValue := 0 }, { name := "upper", type := (.object "com/example/overlay_of_graphs/overlayofgraphs/embed/ConvexHull$Chain"), accessFlags := 18, slot := 6, constantValue := 0 }, { name := "lower", type := (.object "com/example/overlay_of_graphs/overlayofgraphs/embed/ConvexHull$Chain"), accessFlags := 18, slot := 7, constantValue := 0 }, { name := "size", type := .int, accessFlags := 2, slot := 8, constantValue := 0 }]
  methods := #[k3m0, k3m1, k3m2, k3m3, k3m4, k3m5, k3m6]
  instanceTypes := #[(.array .long), (.array .int), (.array .long), .int, (.array .int), (.array .int), (.object "com/example/overlay_of_graphs/overlayofgraphs/embed/ConvexHull$Chain"), (.object "com/example/overlay_of_graphs/overlayofgraphs/embed/ConvexHull$Chain"), .int]
  staticTypes := #[]
  resolved := Array.replicate 157 none
  statics := none }

def pool4 : Array CpInfo := pool [(1, .fieldref 2 3), (0, .class_ 4), (0, .nameAndType 5 6), (0, u "com/example/overlay_of_graphs/overlayofgraphs/embed/ConvexHull$Chain"), (0, u "this$0"), (0, u "Lcom/example/overlay_of_graphs/overlayofgraphs/embed/ConvexHull;"), (0, .methodref 8 9), (0, .class_ 10), (0, .nameAndType 11 12), (0, u "java/lang/Object"), (0, u "<init>"), (0, u "()V"), (0, .class_ 14), (0, u "com/example/overlay_of_graphs/overlayofgraphs/embed/ConvexHull$Chain$Walk"), (0, .methodref 13 16), (0, .nameAndType 11 17), (0, u "(Lcom/example/overlay_of_graphs/overlayofgraphs/embed/ConvexHull$Chain;)V"), (0, .fieldref 2 19), (0, .nameAndType 20 21), (0, u "walk"), (0, u "Lcom/example/overlay_of_graphs/overlayofgraphs/embed/ConvexHull$Chain$Walk;"), (0, .fieldref 2 23), (0, .nameAndType 24 21), (0, u "otherWalk"), (0, .fieldref 2 26), (0, .nameAndType 27 28), (0, u "mirror"), (0, u "I"), (0, .fieldref 30 31), (0, .class_ 32), (0, .nameAndType 33 28), (0, u "com/example/overlay_of_graphs/overlayofgraphs/embed/ConvexHull"), (0, u "leaves"), (0, .fieldref 2 35), (0, .nameAndType 36 37), (0, u "bridge"), (0, u "[I"), (0, .methodref 13 39), (0, .nameAndType 40 41), (0, u "start"), (0, u "(III)V"), (0, .methodref 13 43), (0, .nameAndType 44 45), (0, u "atLeaf"), (0, u "()Z"), (9, .methodref 13 56), (0, .nameAndType 57 58), (0, u "leftEnd"), (0, u "()I"), (0, .methodref 13 60), (0, .nameAndType 61 58), (0, u "rightEnd"), (6, .methodref 13 69), (0, .nameAndType 70 12), (0, u "goLeft"), (0, .methodref 13 72), (0, .nameAndType 73 12), (0, u "goRight"), (0, .methodref 13 75), (0, .nameAndType 76 58), (0, u "leaf"), (0, .fieldref 30 78), (0, .nameAndType 79 37), (0, u "first"), (0, .fieldref 30 81), (0, .nameAndType 82 37), (0, u "last"), (0, .methodref 2 84), (0, .nameAndType 85 86), (0, u "above"), (0, u "(III)Z"), (0, .methodref 2 88), (0, .nameAndType 36 41), (0, .fieldref 30 90), (0, .nameAndType 91 92), (0, u "xy"), (0, u "[J"), (0, .methodref 2 94), (0, .nameAndType 95 96), (0, u "goTowardTouch"), (0, u "(Lcom/example/overlay_of_graphs/overlayofgraphs/embed/ConvexHull$Chain$Walk;Z)V"), (0, .methodref 2 98), (0, .nameAndType 99 100), (0, u "stepBoth"), (0, u "(Lcom/example/overlay_of_graphs/overlayofgraphs/embed/ConvexHull$Chain$Walk;Lcom/example/overlay_of_graphs/overlayofgraphs/embed/ConvexHull$Chain$Walk;J)V"), (4, .methodref 2 106), (0, .nameAndType 107 108), (0, u "across"), (0, u "(I)J"), (0, .methodref 2 110), (0, .nameAndType 111 108), (0, u "height"), (4, u "(Lcom/example/overlay_of_graphs/overlayofgraphs/embed/ConvexHull;I)V"), (6, u "change"), (0, u "(IIZZ)Z")] 7

def k4c0 : Code := { maxStack := 4, maxLocals := 3, code := prog_14_method_1_code, exceptionTable := #[], attributes := #[] }
def k4m0 : Method := { name := "<init>", desc := "(Lcom/example/overlay_of_graphs/overlayofgraphs/embed/ConvexHull;I)V", sig := { parameters := [(.object "com/example/overlay_of_graphs/overlayofgraphs/embed/ConvexHull"), .int], returnType := none }, accessFlags := 0, code := some k4c0 }
def k4c1 : Code := { maxStack := 6, maxLocals := 9, code := prog_14_method_3_code, exceptionTable := #[], attributes := #[] }
def k4m1 : Method := { name := "change", desc := "(IIZZ)Z", sig := { parameters := [.int, .int, .boolean, .boolean], returnType := some .boolean }, accessFlags := 0, code := some k4c1 }
def k4c2 : Code := { maxStack := 6, maxLocals := 8, code := prog_14_method_4_code, exceptionTable := #[], attributes := #[] }
def k4m2 : Method := { name := "bridge", desc := "(III)V", sig := { parameters := [.int, .int, .int], returnType := none }, accessFlags := 0, code := some k4c2 }
def k4c3 : Code := { maxStack := 1, maxLocals := 3, code := prog_14_method_5_code, exceptionTable := #[], attributes := #[] }
def k4m3 : Method := { name := "goTowardTouch", desc := "(Lcom/example/overlay_of_graphs/overlayofgraphs/embed/ConvexHull$Chain$Walk;Z)V", sig := { parameters := [(.object "com/example/overlay_of_graphs/overlayofgraphs/embed/ConvexHull$Chain$Walk"), .boolean], returnType := none }, accessFlags := 2, code := some k4c3 }
def k4c4 : Code := { maxStack := 7, maxLocals := 11, code := prog_14_method_6_code, exceptionTable := #[], attributes := #[] }
def k4m4 : Method := { name := "stepBoth", desc := "(Lcom/example/overlay_of_graphs/overlayofgraphs/embed/ConvexHull$Chain$Walk;Lcom/example/overlay_of_graphs/overlayofgraphs/embed/ConvexHull$Chain$Walk;J)V", sig := { parameters := [(.object "com/example/overlay_of_graphs/overlayofgraphs/embed/ConvexHull$Chain$Walk"), (.object "com/example/overlay_of_graphs/overlayofgraphs/embed/ConvexHull$Chain$Walk"), .long], returnType := none }, accessFlags := 2, code := some k4c4 }
def k4c5 : Code := { maxStack := 8, maxLocals := 4, code := prog_14_method_7_code, exceptionTable := #[], attributes := #[] }
def k4m5 : Method := { name := "above", desc := "(III)Z", sig := { parameters := [.int, .int, .int], returnType := some .boolean }, accessFlags := 2, code := some k4c5 }
def k4c6 : Code := { maxStack := 3, maxLocals := 2, code := prog_14_method_9_code, exceptionTable := #[], attributes := #[] }
def k4m6 : Method := { name := "across", desc := "(I)J", sig := { parameters := [.int], returnType := some .long }, accessFlags := 2, code := some k4c6 }
def k4c7 : Code := { maxStack := 5, maxLocals := 2, code := prog_14_method_10_code, exceptionTable := #[], attributes := #[] }
def k4m7 : Method := { name := "height", desc := "(I)J", sig := { parameters := [.int], returnType := some .long }, accessFlags := 2, code := some k4c7 }
/-- com/example/overlay_of_graphs/overlayofgraphs/embed/ConvexHull$Chain -/
def k4 : Class := { plain "com/example/overlay_of_graphs/overlayofgraphs/embed/ConvexHull$Chain" (some 0) with
  accessFlags := 48
  interfaces := #[]
  cf := some (fileOf pool4 2 #[.nestHost 30] #[{ accessFlags := 0, nameIndex := 11, descriptorIndex := 116, attributes := #[] }, { accessFlags := 0, nameIndex := 123, descriptorIndex := 124, attributes := #[] }, { accessFlags := 0, nameIndex := 36, descriptorIndex := 41, attributes := #[] }, { accessFlags := 2, nameIndex := 95, descriptorIndex := 96, attributes := #[] }, { accessFlags := 2, nameIndex := 99, descriptorIndex := 100, attributes := #[] }, { accessFlags := 2, nameIndex := 85, descriptorIndex := 86, attributes := #[] }, { accessFlags := 2, nameIndex := 107, descriptorIndex := 108, attributes := #[] }, { accessFlags := 2, nameIndex := 111, descriptorIndex := 108, attributes := #[] }] 48 8 #[] #[{ accessFlags := 18, nameIndex := 27, descriptorIndex := 28, attributes := #[] }, { accessFlags := 18, nameIndex := 36, descriptorIndex := 37, attributes := #[] }, { accessFlags := 18, nameIndex := 20, descriptorIndex := 21, attributes := #[] }, { accessFlags := 18, nameIndex := 24, descriptorIndex := 21, attributes := #[] }, { accessFlags := 4112, nameIndex := 5, descriptorIndex := 6, attributes := #[] }])
  fields := #[{ name := "mirror", type := .int, accessFlags := 18, slot := 0, constantValue := 0 }, { name := "bridge", type := (.array .int), accessFlags := 18, slot := 1, constantValue := 0 }, { name := "walk", type := (.object "com/example/overlay_of_graphs/overlayofgraphs/embed/ConvexHull$Chain$Walk"), accessFlags := 18, slot := 2, constantValue := 0 }, { name := "otherWalk", type := (.object "com/example/overlay_of_graphs/overlayofgraphs/embed/ConvexHull$Chain$Walk"), accessFlags := 18, slot := 3, constantValue := 0 }, { name := "this$0", type := (.object "com/example/overlay_of_graphs/overlayofgraphs/embed/ConvexHull"), accessFlags := 4112, slot := 4, constantValue := 0 }]
  methods := #[k4m0, k4m1, k4m2, k4m3, k4m4, k4m5, k4m6, k4m7]
  instanceTypes := #[.int, (.array .int), (.object "com/example/overlay_of_graphs/overlayofgraphs/embed/ConvexHull$Chain$Walk"), (.object "com/example/overlay_of_graphs/overlayofgraphs/embed/ConvexHull$Chain$Walk"), (.object "com/example/overlay_of_graphs/overlayofgraphs/embed/ConvexHull")]
  staticTypes := #[]
  resolved := Array.replicate 132 none
  statics := none }

def pool5 : Array CpInfo := pool [(1, .fieldref 2 3), (0, .class_ 4), (0, .nameAndType 5 6), (0, u "com/example/overlay_of_graphs/overlayofgraphs/embed/ConvexHull$Chain$Walk"), (0, u "this$1"), (0, u "Lcom/example/overlay_of_graphs/overlayofgraphs/embed/ConvexHull$Chain;"), (0, .methodref 8 9), (0, .class_ 10), (0, .nameAndType 11 12), (0, u "java/lang/Object"), (0, u "<init>"), (0, u "()V"), (0, .fieldref 2 14), (0, .nameAndType 15 16), (0, u "node"), (0, u "I"), (0, .fieldref 2 18), (0, .nameAndType 19 16), (0, u "lo"), (0, .fieldref 2 21), (0, .nameAndType 22 16), (0, u "hi"), (0, .methodref 2 24), (0, .nameAndType 25 12), (0, u "settle"), (0, .fieldref 27 28), (0, .class_ 29), (0, .nameAndType 30 31), (0, u "com/example/overlay_of_graphs/overlayofgraphs/embed/ConvexHull$Chain"), (0, u "this$0"), (0, u "Lcom/example/overlay_of_graphs/overlayofgraphs/embed/ConvexHull;"), (0, .fieldref 33 34), (0, .class_ 35), (0, .nameAndType 36 16), (0, u "com/example/overlay_of_graphs/overlayofgraphs/embed/ConvexHull"), (0, u "leaves"), (0, .fieldref 27 38), (0, .nameAndType 39 40), (0, u "bridge"), (0, u "[I"), (0, .fieldref 33 42), (0, .nameAndType 43 40), (0, u "first"), (9, u "(Lcom/example/overlay_of_graphs/overlayofgraphs/embed/ConvexHull$Chain;)V"), (3, u "start"), (0, u "(III)V"), (0, u "atLeaf"), (0, u "()Z"), (1, u "leaf"), (0, u "()I"), (0, u "leftEnd"), (0, u "rightEnd"), (0, u "goLeft"), (0, u "goRight")] 6

def k5c0 : Code := { maxStack := 2, maxLocals := 2, code := prog_15_method_1_code, exceptionTable := #[], attributes := #[] }
def k5m0 : Method := { name := "<init>", desc := "(Lcom/example/overlay_of_graphs/overlayofgraphs/embed/ConvexHull$Chain;)V", sig := { parameters := [(.object "com/example/overlay_of_graphs/overlayofgraphs/embed/ConvexHull$Chain")], returnType := none }, accessFlags := 2, code := some k5c0 }
def k5c1 : Code := { maxStack := 2, maxLocals := 4, code := prog_15_method_2_code, exceptionTable := #[], attributes := #[] }
def k5m1 : Method := { name := "start", desc := "(III)V", sig := { parameters := [.int, .int, .int], returnType := none }, accessFlags := 0, code := some k5c1 }
def k5c2 : Code := { maxStack := 2, maxLocals := 1, code := prog_15_method_3_code, exceptionTable := #[], attributes := #[] }
def k5m2 : Method := { name := "atLeaf", desc := "()Z", sig := { parameters := [], returnType := some .boolean }, accessFlags := 0, code := some k5c2 }
def k5c3 : Code := { maxStack := 2, maxLocals := 1, code := prog_15_method_4_code, exceptionTable := #[], attributes := #[] }
def k5m3 : Method := { name := "leaf", desc := "()I", sig := { parameters := [], returnType := some .int }, accessFlags := 0, code := some k5c3 }
def k5c4 : Code := { maxStack := 3, maxLocals := 1, code := prog_15_method_5_code, exceptionTable := #[], attributes := #[] }
def k5m4 : Method := { name := "leftEnd", desc := "()I", sig := { parameters := [], returnType := some .int }, accessFlags := 0, code := some k5c4 }
def k5c5 : Code := { maxStack := 3, maxLocals := 1, code := prog_15_method_6_code, exceptionTable := #[], attributes := #[] }
def k5m5 : Method := { name := "rightEnd", desc := "()I", sig := { parameters := [], returnType := some .int }, accessFlags := 0, code := some k5c5 }
def k5c6 : Code := { maxStack := 4, maxLocals := 1, code := prog_15_method_7_code, exceptionTable := #[], attributes := #[] }
def k5m6 : Method := { name := "goLeft", desc := "()V", sig := { parameters := [], returnType := none }, accessFlags := 0, code := some k5c6 }
def k5c7 : Code := { maxStack := 4, maxLocals := 1, code := prog_15_method_8_code, exceptionTable := #[], attributes := #[] }
def k5m7 : Method := { name := "goRight", desc := "()V", sig := { parameters := [], returnType := none }, accessFlags := 0, code := some k5c7 }
def k5c8 : Code := { maxStack := 5, maxLocals := 2, code := prog_15_method_9_code, exceptionTable := #[], attributes := #[] }
def k5m8 : Method := { name := "settle", desc := "()V", sig := { parameters := [], returnType := none }, accessFlags := 2, code := some k5c8 }
/-- com/example/overlay_of_graphs/overlayofgraphs/embed/ConvexHull$Chain$Walk -/
def k5 : Class := { plain "com/example/overlay_of_graphs/overlayofgraphs/embed/ConvexHull$Chain$Walk" (some 0) with
  accessFlags := 48
  interfaces := #[]
  cf := some (fileOf pool5 2 #[.nestHost 33] #[{ accessFlags := 2, nameIndex := 11, descriptorIndex := 53, attributes := #[] }, { accessFlags := 0, nameIndex := 57, descriptorIndex := 58, attributes := #[] }, { accessFlags := 0, nameIndex := 59, descriptorIndex := 60, attributes := #[] }, { accessFlags := 0, nameIndex := 62, descriptorIndex := 63, attributes := #[] }, { accessFlags := 0, nameIndex := 64, descriptorIndex := 63, attributes := #[] }, { accessFlags := 0, nameIndex := 65, descriptorIndex := 63, attributes := #[] }, { accessFlags := 0, nameIndex := 66, descriptorIndex := 12, attributes := #[] }, { accessFlags := 0, nameIndex := 67, descriptorIndex := 12, attributes := #[] }, { accessFlags := 2, nameIndex := 25, descriptorIndex := 12, attributes := #[] }] 48 8 #[] #[{ accessFlags := 2, nameIndex := 15, descriptorIndex := 16, attributes := #[] }, { accessFlags := 2, nameIndex := 19, descriptorIndex := 16, attributes := #[] }, { accessFlags := 2, nameIndex := 22, descriptorIndex := 16, attributes := #[] }, { accessFlags := 4112, nameIndex := 5, descriptorIndex := 6, attributes := #[] }])
  fields := #[{ name := "node", type := .int, accessFlags := 2, slot := 0, constantValue := 0 }, { name := "lo", type := .int, accessFlags := 2, slot := 1, constantValue := 0 }, { name := "hi", type := .int, accessFlags := 2, slot := 2, constantValue := 0 }, { name := "this$1", type := (.object "com/example/overlay_of_graphs/overlayofgraphs/embed/ConvexHull$Chain"), accessFlags := 4112, slot := 3, constantValue := 0 }]
  methods := #[k5m0, k5m1, k5m2, k5m3, k5m4, k5m5, k5m6, k5m7, k5m8]
  instanceTypes := #[.int, .int, .int, (.object "com/example/overlay_of_graphs/overlayofgraphs/embed/ConvexHull$Chain")]
  staticTypes := #[]
  resolved := Array.replicate 74 none
  statics := none }

def pool6 : Array CpInfo := pool [(2, .class_ 4), (1, u "java/lang/Object"), (0, u "<init>"), (0, u "()V"), (7, .class_ 16), (1, u "java/util/Arrays"), (57, .class_ 76), (1, u "java/util/Arrays$NaturalOrder"), (36, .class_ 115), (1, u "java/util/Arrays$LegacyMergeSort"), (1, u "Z"), (257, .class_ 376), (0, u "java/util/Arrays$ArrayList"), (68, u "$assertionsDisabled"), (269, u "MIN_ARRAY_SORT_GRAN"), (0, u "I"), (2, u "INSERTIONSORT_THRESHOLD"), (120, u "fill"), (4, u "([II)V"), (129, .class_ 976), (0, u "java/util/Arrays$ArrayItr")] 52

def k6m0 : Method := { name := "<init>", desc := "()V", sig := { parameters := [], returnType := none }, accessFlags := 2, code := none }
def k6c1 : Code := { maxStack := 3, maxLocals := 4, code := jdk_65_method_103_code, exceptionTable := #[], attributes := #[] }
def k6m1 : Method := { name := "fill", desc := "([II)V", sig := { parameters := [(.array .int), .int], returnType := none }, accessFlags := 9, code := some k6c1 }
/-- java/util/Arrays -/
def k6 : Class := { plain "java/util/Arrays" (some 0) with
  accessFlags := 49
  interfaces := #[]
  cf := some (fileOf pool6 14 #[.nestMembers #[975, 375, 113, 74]] #[{ accessFlags := 2, nameIndex := 5, descriptorIndex := 6, attributes := #[] }, { accessFlags := 9, nameIndex := 840, descriptorIndex := 845, attributes := #[] }] 49 2 #[] #[{ accessFlags := 26, nameIndex := 715, descriptorIndex := 716, attributes := #[] }, { accessFlags := 26, nameIndex := 719, descriptorIndex := 716, attributes := #[] }, { accessFlags := 4120, nameIndex := 445, descriptorIndex := 117, attributes := #[] }])
  fields := #[{ name := "MIN_ARRAY_SORT_GRAN", type := .int, accessFlags := 26, slot := 0, constantValue := 0 }, { name := "INSERTIONSORT_THRESHOLD", type := .int, accessFlags := 26, slot := 1, constantValue := 0 }, { name := "$assertionsDisabled", type := .boolean, accessFlags := 4120, slot := 2, constantValue := 0 }]
  methods := #[k6m0, k6m1]
  instanceTypes := #[]
  staticTypes := #[.int, .int, .boolean]
  resolved := Array.replicate 1029 none
  statics := none }

def pool7 : Array CpInfo := pool [(1, u "java/lang/Cloneable"), (0, .class_ 1), (0, u "java/lang/Object"), (0, .class_ 3)] 3

/-- java/lang/Cloneable -/
def k7 : Class := { plain "java/lang/Cloneable" (some 0) with
  accessFlags := 1537
  interfaces := #[]
  cf := some (fileOf pool7 2 #[] #[] 1537 4 #[] #[])
  fields := #[]
  methods := #[]
  instanceTypes := #[]
  staticTypes := #[]
  resolved := Array.replicate 8 none
  statics := none }

def pool8 : Array CpInfo := pool [(1, u "java/io/Serializable"), (0, .class_ 1), (0, u "java/lang/Object"), (0, .class_ 3)] 3

/-- java/io/Serializable -/
def k8 : Class := { plain "java/io/Serializable" (some 0) with
  accessFlags := 1537
  interfaces := #[]
  cf := some (fileOf pool8 2 #[] #[] 1537 4 #[] #[])
  fields := #[]
  methods := #[]
  instanceTypes := #[]
  staticTypes := #[]
  resolved := Array.replicate 8 none
  statics := none }

/-- the primitive byte -/
def k9 : Class := { plain "byte" none with kind := .primitive 'B', accessFlags := 0x411 }
/-- [B -/
def k10 : Class := { plain "[B" (some 0) with kind := .array 9 .byte, interfaces := #[7, 8], accessFlags := 1041 }

/-- the primitive int -/
def k11 : Class := { plain "int" none with kind := .primitive 'I', accessFlags := 0x411 }
/-- [I -/
def k12 : Class := { plain "[I" (some 0) with kind := .array 11 .int, interfaces := #[7, 8], accessFlags := 1041 }

/-- the primitive long -/
def k13 : Class := { plain "long" none with kind := .primitive 'J', accessFlags := 0x411 }
/-- [J -/
def k14 : Class := { plain "[J" (some 0) with kind := .array 13 .long, interfaces := #[7, 8], accessFlags := 1041 }

def heap : Heap := #[]
def classes : Array Class := #[k0, k1, k2, k3, k4, k5, k6, k7, k8, k9, k10, k11, k12, k13, k14]
def interned : List (Array UInt16 × Addr) := []
def slotsUsed : Nat := 0
def theMethod : MethodId := ⟨1, 2⟩
def args0 : Array Value := #[.int 5, .int 3, .int 7, .int 1, .int 2]
def aboutOver (below : List Frame) : State where
  vm := { classes := classes, interned := interned.toArray }
  heap := heap
  slotsUsed := slotsUsed
  threads := #[{ frames := .invoking theMethod args0 :: below }]
def below0 : List Frame := [.native { method := ⟨0, 0⟩, args := #[] }]
def about1 : State := aboutOver below0
def p0 : Program := .bare "" "" ""
def e0 : Env := launch0.env 0 0 0
theorem w_frames : about1.frames = Frame.invoking theMethod args0 :: below0 := rfl
set_option maxRecDepth 65536 in
theorem w_args : argsFit about1.vm theMethod args0 = true := by decide +kernel
set_option maxRecDepth 65536 in
theorem w_heap : heapFits about1 = true := by decide +kernel
set_option maxRecDepth 65536 in
theorem w_runnable : about1.curStatus? = some .runnable := by decide +kernel
set_option maxRecDepth 65536 in
theorem w_alone : about1.alone = true := by decide +kernel
set_option maxRecDepth 65536 in
theorem w_named : about1.methodNamed? x = some theMethod := by decide +kernel
set_option maxRecDepth 65536 in
theorem w_hears : about1.hears theMethod below0 = true := by decide +kernel
set_option maxRecDepth 65536 in
theorem w_ripe : about1.ripe theMethod args0 below0 = true := by decide +kernel
theorem w_running : about1.status = .running := rfl
set_option maxRecDepth 65536 in
theorem w_room : about1.hasRoom e0.platform room_1 = true :=
  launch0.hasRoom_least _ room_1 (by decide +kernel) (by decide +kernel) (by decide +kernel) (by decide +kernel) (by decide +kernel) (by decide +kernel)
theorem allAtoms_all (ts : List Jvm.Cond) (a : Array Jvm.Value) (st : Jvm.State) : (allAtoms ts).before a st = ts.all (fun c => c.before a st) := by
  induction ts with
  | nil => rfl
  | cons c t ih =>
    show (Jvm.Cond.and c (allAtoms t)).before a st = _
    rw [Jvm.Cond.before_and, ih, List.all_cons]
def words1 : List Jvm.Cond := Jvm.Cond.code x code maxLocals ret :: tables_1
/-- a 'code' word, met by the world's own term for the bytes: nothing is compared byte by byte -/
theorem code_word {y : MethodName} {bytes : ByteArray} {mx : Nat} {rt : Option FieldType} {a : Array Value} {s : State} {m : MethodId} {meth : Method} {c : Code} (h1 : s.methodNamed? y = some m) (h2 : s.vm.method? m = some meth) (h3 : meth.code = some c) (h4 : c.code = bytes)
    (h5 : (c.maxLocals == mx && c.exceptionTable.isEmpty && decide (c.maxStack ≤ mostOperands) && decide (meth.sig.returnType = rt) && !meth.locks && decide (parseMethodDescriptor y.desc = some meth.sig)) = true) : (Jvm.Cond.code y bytes mx rt).before a s = true := by
  simp only [Bool.and_eq_true, beq_iff_eq, Bool.not_eq_true', decide_eq_true_eq] at h5
  obtain ⟨⟨⟨⟨⟨g1, g2⟩, g3⟩, g4⟩, g5⟩, g6⟩ := h5
  simp [Cond.before, Cond.holds, Cond.value, h1, h2, h3, h4, g1, g2, g3, g4, g5, g6]
def isCode : Jvm.Cond → Bool
  | .code _ _ _ _ => true
  | _ => false
theorem all_split {L : List Jvm.Cond} {P : Jvm.Cond → Bool} (h1 : L.all (fun c => isCode c || P c) = true) (h2 : ∀ c ∈ L.filter isCode, P c = true) : L.all P = true := by
  refine List.all_eq_true.mpr fun c hc => ?_
  have h := List.all_eq_true.mp h1 c hc
  rcases Bool.eq_false_or_eq_true (isCode c) with hi | hi
  · exact h2 c (List.mem_filter.mpr ⟨hc, hi⟩)
  · simpa [hi] using h
set_option maxRecDepth 65536 in
theorem w_c0 : (Jvm.Cond.code x code maxLocals ret).before args0 about1 = true := code_word (m := ⟨1, 2⟩) (meth := k1m2) (c := k1c2) (by decide +kernel) rfl rfl rfl (by decide +kernel)
set_option maxRecDepth 65536 in
theorem w_c1 : (Jvm.Cond.code ({ cls := "java/lang/Math", name := "min", desc := "(JJ)J" } : Jvm.MethodName) jdk_29_method_70_code (4 : Nat) (Option.some Jvm.ClassFile.FieldType.long)).before args0 about1 = true := code_word (m := ⟨2, 1⟩) (meth := k2m1) (c := k2c1) (by decide +kernel) rfl rfl rfl (by decide +kernel)
set_option maxRecDepth 65536 in
theorem w_c2 : (Jvm.Cond.code ({ cls := "com/example/overlay_of_graphs/overlayofgraphs/embed/ConvexHullToArrayPinLaw", name := "place", desc := "([I[J[J[JIIIJJ)V" } : Jvm.MethodName) method_2_code (12 : Nat) (Option.none : Option Jvm.ClassFile.FieldType)).before args0 about1 = true := code_word (m := ⟨1, 1⟩) (meth := k1m1) (c := k1c1) (by decide +kernel) rfl rfl rfl (by decide +kernel)
set_option maxRecDepth 65536 in
theorem w_c3 : (Jvm.Cond.code ({ cls := "com/example/overlay_of_graphs/overlayofgraphs/embed/ConvexHull", name := "<init>", desc := "([J[J[I)V" } : Jvm.MethodName) prog_13_method_1_code (6 : Nat) (Option.none : Option Jvm.ClassFile.FieldType)).before args0 about1 = true := code_word (m := ⟨3, 0⟩) (meth := k3m0) (c := k3c0) (by decide +kernel) rfl rfl rfl (by decide +kernel)
set_option maxRecDepth 65536 in
theorem w_c4 : (Jvm.Cond.code ({ cls := "java/lang/Object", name := "<init>", desc := "()V" } : Jvm.MethodName) object_method_1_code (1 : Nat) (Option.none : Option Jvm.ClassFile.FieldType)).before args0 about1 = true := code_word (m := ⟨0, 0⟩) (meth := k0m0) (c := k0c0) (by decide +kernel) rfl rfl rfl (by decide +kernel)
set_option maxRecDepth 65536 in
theorem w_c5 : (Jvm.Cond.code ({ cls := "com/example/overlay_of_graphs/overlayofgraphs/embed/ConvexHull$Chain", name := "<init>", desc := "(Lcom/example/overlay_of_graphs/overlayofgraphs/embed/ConvexHull;I)V" } : Jvm.MethodName) prog_14_method_1_code (3 : Nat) (Option.none : Option Jvm.ClassFile.FieldType)).before args0 about1 = true := code_word (m := ⟨4, 0⟩) (meth := k4m0) (c := k4c0) (by decide +kernel) rfl rfl rfl (by decide +kernel)
set_option maxRecDepth 65536 in
theorem w_c6 : (Jvm.Cond.code ({ cls := "com/example/overlay_of_graphs/overlayofgraphs/embed/ConvexHull$Chain$Walk", name := "<init>", desc := "(Lcom/example/overlay_of_graphs/overlayofgraphs/embed/ConvexHull$Chain;)V" } : Jvm.MethodName) prog_15_method_1_code (2 : Nat) (Option.none : Option Jvm.ClassFile.FieldType)).before args0 about1 = true := code_word (m := ⟨5, 0⟩) (meth := k5m0) (c := k5c0) (by decide +kernel) rfl rfl rfl (by decide +kernel)
set_option maxRecDepth 65536 in
theorem w_c7 : (Jvm.Cond.code ({ cls := "java/util/Arrays", name := "fill", desc := "([II)V" } : Jvm.MethodName) jdk_65_method_103_code (4 : Nat) (Option.none : Option Jvm.ClassFile.FieldType)).before args0 about1 = true := code_word (m := ⟨6, 1⟩) (meth := k6m1) (c := k6c1) (by decide +kernel) rfl rfl rfl (by decide +kernel)
set_option maxRecDepth 65536 in
theorem w_c8 : (Jvm.Cond.code ({ cls := "com/example/overlay_of_graphs/overlayofgraphs/embed/ConvexHull", name := "joinEnds", desc := "(I)V" } : Jvm.MethodName) prog_13_method_9_code (2 : Nat) (Option.none : Option Jvm.ClassFile.FieldType)).before args0 about1 = true := code_word (m := ⟨3, 4⟩) (meth := k3m4) (c := k3c4) (by decide +kernel) rfl rfl rfl (by decide +kernel)
set_option maxRecDepth 65536 in
theorem w_c9 : (Jvm.Cond.code ({ cls := "com/example/overlay_of_graphs/overlayofgraphs/embed/ConvexHull$Chain", name := "bridge", desc := "(III)V" } : Jvm.MethodName) prog_14_method_4_code (8 : Nat) (Option.none : Option Jvm.ClassFile.FieldType)).before args0 about1 = true := code_word (m := ⟨4, 2⟩) (meth := k4m2) (c := k4c2) (by decide +kernel) rfl rfl rfl (by decide +kernel)
set_option maxRecDepth 65536 in
theorem w_c10 : (Jvm.Cond.code ({ cls := "com/example/overlay_of_graphs/overlayofgraphs/embed/ConvexHull$Chain$Walk", name := "start", desc := "(III)V" } : Jvm.MethodName) prog_15_method_2_code (4 : Nat) (Option.none : Option Jvm.ClassFile.FieldType)).before args0 about1 = true := code_word (m := ⟨5, 1⟩) (meth := k5m1) (c := k5c1) (by decide +kernel) rfl rfl rfl (by decide +kernel)
set_option maxRecDepth 65536 in
theorem w_c11 : (Jvm.Cond.code ({ cls := "com/example/overlay_of_graphs/overlayofgraphs/embed/ConvexHull$Chain$Walk", name := "settle", desc := "()V" } : Jvm.MethodName) prog_15_method_9_code (2 : Nat) (Option.none : Option Jvm.ClassFile.FieldType)).before args0 about1 = true := code_word (m := ⟨5, 8⟩) (meth := k5m8) (c := k5c8) (by decide +kernel) rfl rfl rfl (by decide +kernel)
set_option maxRecDepth 65536 in
theorem w_c12 : (Jvm.Cond.code ({ cls := "com/example/overlay_of_graphs/overlayofgraphs/embed/ConvexHull$Chain$Walk", name := "atLeaf", desc := "()Z" } : Jvm.MethodName) prog_15_method_3_code (1 : Nat) (Option.some Jvm.ClassFile.FieldType.boolean)).before args0 about1 = true := code_word (m := ⟨5, 2⟩) (meth := k5m2) (c := k5c2) (by decide +kernel) rfl rfl rfl (by decide +kernel)
set_option maxRecDepth 65536 in
theorem w_c13 : (Jvm.Cond.code ({ cls := "com/example/overlay_of_graphs/overlayofgraphs/embed/ConvexHull$Chain$Walk", name := "leaf", desc := "()I" } : Jvm.MethodName) prog_15_method_4_code (1 : Nat) (Option.some Jvm.ClassFile.FieldType.int)).before args0 about1 = true := code_word (m := ⟨5, 3⟩) (meth := k5m3) (c := k5c3) (by decide +kernel) rfl rfl rfl (by decide +kernel)
set_option maxRecDepth 65536 in
theorem w_c14 : (Jvm.Cond.code ({ cls := "com/example/overlay_of_graphs/overlayofgraphs/embed/ConvexHull$Chain$Walk", name := "leftEnd", desc := "()I" } : Jvm.MethodName) prog_15_method_5_code (1 : Nat) (Option.some Jvm.ClassFile.FieldType.int)).before args0 about1 = true := code_word (m := ⟨5, 4⟩) (meth := k5m4) (c := k5c4) (by decide +kernel) rfl rfl rfl (by decide +kernel)
set_option maxRecDepth 65536 in
theorem w_c15 : (Jvm.Cond.code ({ cls := "com/example/overlay_of_graphs/overlayofgraphs/embed/ConvexHull$Chain$Walk", name := "rightEnd", desc := "()I" } : Jvm.MethodName) prog_15_method_6_code (1 : Nat) (Option.some Jvm.ClassFile.FieldType.int)).before args0 about1 = true := code_word (m := ⟨5, 5⟩) (meth := k5m5) (c := k5c5) (by decide +kernel) rfl rfl rfl (by decide +kernel)
set_option maxRecDepth 65536 in
theorem w_c16 : (Jvm.Cond.code ({ cls := "com/example/overlay_of_graphs/overlayofgraphs/embed/ConvexHull$Chain", name := "above", desc := "(III)Z" } : Jvm.MethodName) prog_14_method_7_code (4 : Nat) (Option.some Jvm.ClassFile.FieldType.boolean)).before args0 about1 = true := code_word (m := ⟨4, 5⟩) (meth := k4m5) (c := k4c5) (by decide +kernel) rfl rfl rfl (by decide +kernel)
set_option maxRecDepth 65536 in
theorem w_c17 : (Jvm.Cond.code ({ cls := "com/example/overlay_of_graphs/overlayofgraphs/embed/ConvexHull$Chain", name := "across", desc := "(I)J" } : Jvm.MethodName) prog_14_method_9_code (2 : Nat) (Option.some Jvm.ClassFile.FieldType.long)).before args0 about1 = true := code_word (m := ⟨4, 6⟩) (meth := k4m6) (c := k4c6) (by decide +kernel) rfl rfl rfl (by decide +kernel)
set_option maxRecDepth 65536 in
theorem w_c18 : (Jvm.Cond.code ({ cls := "com/example/overlay_of_graphs/overlayofgraphs/embed/ConvexHull$Chain", name := "height", desc := "(I)J" } : Jvm.MethodName) prog_14_method_10_code (2 : Nat) (Option.some Jvm.ClassFile.FieldType.long)).before args0 about1 = true := code_word (m := ⟨4, 7⟩) (meth := k4m7) (c := k4c7) (by decide +kernel) rfl rfl rfl (by decide +kernel)
set_option maxRecDepth 65536 in
theorem w_c19 : (Jvm.Cond.code ({ cls := "com/example/overlay_of_graphs/overlayofgraphs/embed/ConvexHull$Chain", name := "goTowardTouch", desc := "(Lcom/example/overlay_of_graphs/overlayofgraphs/embed/ConvexHull$Chain$Walk;Z)V" } : Jvm.MethodName) prog_14_method_5_code (3 : Nat) (Option.none : Option Jvm.ClassFile.FieldType)).before args0 about1 = true := code_word (m := ⟨4, 3⟩) (meth := k4m3) (c := k4c3) (by decide +kernel) rfl rfl rfl (by decide +kernel)
set_option maxRecDepth 65536 in
theorem w_c20 : (Jvm.Cond.code ({ cls := "com/example/overlay_of_graphs/overlayofgraphs/embed/ConvexHull$Chain$Walk", name := "goLeft", desc := "()V" } : Jvm.MethodName) prog_15_method_7_code (1 : Nat) (Option.none : Option Jvm.ClassFile.FieldType)).before args0 about1 = true := code_word (m := ⟨5, 6⟩) (meth := k5m6) (c := k5c6) (by decide +kernel) rfl rfl rfl (by decide +kernel)
set_option maxRecDepth 65536 in
theorem w_c21 : (Jvm.Cond.code ({ cls := "com/example/overlay_of_graphs/overlayofgraphs/embed/ConvexHull$Chain$Walk", name := "goRight", desc := "()V" } : Jvm.MethodName) prog_15_method_8_code (1 : Nat) (Option.none : Option Jvm.ClassFile.FieldType)).before args0 about1 = true := code_word (m := ⟨5, 7⟩) (meth := k5m7) (c := k5c7) (by decide +kernel) rfl rfl rfl (by decide +kernel)
set_option maxRecDepth 65536 in
theorem w_c22 : (Jvm.Cond.code ({ cls := "com/example/overlay_of_graphs/overlayofgraphs/embed/ConvexHull", name := "remove", desc := "(I)V" } : Jvm.MethodName) prog_13_method_5_code (2 : Nat) (Option.none : Option Jvm.ClassFile.FieldType)).before args0 about1 = true := code_word (m := ⟨3, 2⟩) (meth := k3m2) (c := k3c2) (by decide +kernel) rfl rfl rfl (by decide +kernel)
set_option maxRecDepth 65536 in
theorem w_c23 : (Jvm.Cond.code ({ cls := "com/example/overlay_of_graphs/overlayofgraphs/embed/ConvexHull", name := "change", desc := "(IZ)V" } : Jvm.MethodName) prog_13_method_8_code (10 : Nat) (Option.none : Option Jvm.ClassFile.FieldType)).before args0 about1 = true := code_word (m := ⟨3, 3⟩) (meth := k3m3) (c := k3c3) (by decide +kernel) rfl rfl rfl (by decide +kernel)
set_option maxRecDepth 65536 in
theorem w_c24 : (Jvm.Cond.code ({ cls := "com/example/overlay_of_graphs/overlayofgraphs/embed/ConvexHull", name := "leafOf", desc := "(I)I" } : Jvm.MethodName) prog_13_method_10_code (3 : Nat) (Option.some Jvm.ClassFile.FieldType.int)).before args0 about1 = true := code_word (m := ⟨3, 5⟩) (meth := k3m5) (c := k3c5) (by decide +kernel) rfl rfl rfl (by decide +kernel)
set_option maxRecDepth 65536 in
theorem w_c25 : (Jvm.Cond.code ({ cls := "com/example/overlay_of_graphs/overlayofgraphs/embed/ConvexHull", name := "leavesLeftOf", desc := "(J)I" } : Jvm.MethodName) prog_13_method_11_code (6 : Nat) (Option.some Jvm.ClassFile.FieldType.int)).before args0 about1 = true := code_word (m := ⟨3, 6⟩) (meth := k3m6) (c := k3c6) (by decide +kernel) rfl rfl rfl (by decide +kernel)
set_option maxRecDepth 65536 in
theorem w_c26 : (Jvm.Cond.code ({ cls := "com/example/overlay_of_graphs/overlayofgraphs/embed/ConvexHull$Chain", name := "change", desc := "(IIZZ)Z" } : Jvm.MethodName) prog_14_method_3_code (9 : Nat) (Option.some Jvm.ClassFile.FieldType.boolean)).before args0 about1 = true := code_word (m := ⟨4, 1⟩) (meth := k4m1) (c := k4c1) (by decide +kernel) rfl rfl rfl (by decide +kernel)
set_option maxRecDepth 65536 in
theorem w_c27 : (Jvm.Cond.code ({ cls := "com/example/overlay_of_graphs/overlayofgraphs/embed/ConvexHull", name := "toArray", desc := "()[I" } : Jvm.MethodName) prog_13_method_3_code (4 : Nat) (Option.some (Jvm.ClassFile.FieldType.array Jvm.ClassFile.FieldType.int))).before args0 about1 = true := code_word (m := ⟨3, 1⟩) (meth := k3m1) (c := k3c1) (by decide +kernel) rfl rfl rfl (by decide +kernel)
set_option maxRecDepth 65536 in
theorem w_c28 : (Jvm.Cond.code ({ cls := "com/example/overlay_of_graphs/overlayofgraphs/embed/ConvexHull$Chain", name := "stepBoth", desc := "(Lcom/example/overlay_of_graphs/overlayofgraphs/embed/ConvexHull$Chain$Walk;Lcom/example/overlay_of_graphs/overlayofgraphs/embed/ConvexHull$Chain$Walk;J)V" } : Jvm.MethodName) prog_14_method_6_code (11 : Nat) (Option.none : Option Jvm.ClassFile.FieldType)).before args0 about1 = true := code_word (m := ⟨4, 4⟩) (meth := k4m4) (c := k4c4) (by decide +kernel) rfl rfl rfl (by decide +kernel)
def codes1 : List Jvm.Cond := [Jvm.Cond.code x code maxLocals ret, Jvm.Cond.code ({ cls := "java/lang/Math", name := "min", desc := "(JJ)J" } : Jvm.MethodName) jdk_29_method_70_code (4 : Nat) (Option.some Jvm.ClassFile.FieldType.long), Jvm.Cond.code ({ cls := "com/example/overlay_of_graphs/overlayofgraphs/embed/ConvexHullToArrayPinLaw", name := "place", desc := "([I[J[J[JIIIJJ)V" } : Jvm.MethodName) method_2_code (12 : Nat) (Option.none : Option Jvm.ClassFile.FieldType), Jvm.Cond.code ({ cls := "com/example/overlay_of_graphs/overlayofgraphs/embed/ConvexHull", name := "<init>", desc := "([J[J[I)V" } : Jvm.MethodName) prog_13_method_1_code (6 : Nat) (Option.none : Option Jvm.ClassFile.FieldType), Jvm.Cond.code ({ cls := "java/lang/Object", name := "<init>", desc := "()V" } : Jvm.MethodName) object_method_1_code (1 : Nat) (Option.none : Option Jvm.ClassFile.FieldType), Jvm.Cond.code ({ cls := "com/example/overlay_of_graphs/overlayofgraphs/embed/ConvexHull$Chain", name := "<init>", desc := "(Lcom/example/overlay_of_graphs/overlayofgraphs/embed/ConvexHull;I)V" } : Jvm.MethodName) prog_14_method_1_code (3 : Nat) (Option.none : Option Jvm.ClassFile.FieldType), Jvm.Cond.code ({ cls := "com/example/overlay_of_graphs/overlayofgraphs/embed/ConvexHull$Chain$Walk", name := "<init>", desc := "(Lcom/example/overlay_of_graphs/overlayofgraphs/embed/ConvexHull$Chain;)V" } : Jvm.MethodName) prog_15_method_1_code (2 : Nat) (Option.none : Option Jvm.ClassFile.FieldType), Jvm.Cond.code ({ cls := "java/util/Arrays", name := "fill", desc := "([II)V" } : Jvm.MethodName) jdk_65_method_103_code (4 : Nat) (Option.none : Option Jvm.ClassFile.FieldType), Jvm.Cond.code ({ cls := "com/example/overlay_of_graphs/overlayofgraphs/embed/ConvexHull", name := "joinEnds", desc := "(I)V" } : Jvm.MethodName) prog_13_method_9_code (2 : Nat) (Option.none : Option Jvm.ClassFile.FieldType), Jvm.Cond.code ({ cls := "com/example/overlay_of_graphs/overlayofgraphs/embed/ConvexHull$Chain", name := "bridge", desc := "(III)V" } : Jvm.MethodName) prog_14_method_4_code (8 : Nat) (Option.none : Option Jvm.ClassFile.FieldType), Jvm.Cond.code ({ cls := "com/example/overlay_of_graphs/overlayofgraphs/embed/ConvexHull$Chain$Walk", name := "start", desc := "(III)V" } : Jvm.MethodName) prog_15_method_2_code (4 : Nat) (Option.none : Option Jvm.ClassFile.FieldType), Jvm.Cond.code ({ cls := "com/example/overlay_of_graphs/overlayofgraphs/embed/ConvexHull$Chain$Walk", name := "settle", desc := "()V" } : Jvm.MethodName) prog_15_method_9_code (2 : Nat) (Option.none : Option Jvm.ClassFile.FieldType), Jvm.Cond.code ({ cls := "com/example/overlay_of_graphs/overlayofgraphs/embed/ConvexHull$Chain$Walk", name := "atLeaf", desc := "()Z" } : Jvm.MethodName) prog_15_method_3_code (1 : Nat) (Option.some Jvm.ClassFile.FieldType.boolean), Jvm.Cond.code ({ cls := "com/example/overlay_of_graphs/overlayofgraphs/embed/ConvexHull$Chain$Walk", name := "leaf", desc := "()I" } : Jvm.MethodName) prog_15_method_4_code (1 : Nat) (Option.some Jvm.ClassFile.FieldType.int), Jvm.Cond.code ({ cls := "com/example/overlay_of_graphs/overlayofgraphs/embed/ConvexHull$Chain$Walk", name := "leftEnd", desc := "()I" } : Jvm.MethodName) prog_15_method_5_code (1 : Nat) (Option.some Jvm.ClassFile.FieldType.int), Jvm.Cond.code ({ cls := "com/example/overlay_of_graphs/overlayofgraphs/embed/ConvexHull$Chain$Walk", name := "rightEnd", desc := "()I" } : Jvm.MethodName) prog_15_method_6_code (1 : Nat) (Option.some Jvm.ClassFile.FieldType.int), Jvm.Cond.code ({ cls := "com/example/overlay_of_graphs/overlayofgraphs/embed/ConvexHull$Chain", name := "above", desc := "(III)Z" } : Jvm.MethodName) prog_14_method_7_code (4 : Nat) (Option.some Jvm.ClassFile.FieldType.boolean), Jvm.Cond.code ({ cls := "com/example/overlay_of_graphs/overlayofgraphs/embed/ConvexHull$Chain", name := "across", desc := "(I)J" } : Jvm.MethodName) prog_14_method_9_code (2 : Nat) (Option.some Jvm.ClassFile.FieldType.long), Jvm.Cond.code ({ cls := "com/example/overlay_of_graphs/overlayofgraphs/embed/ConvexHull$Chain", name := "height", desc := "(I)J" } : Jvm.MethodName) prog_14_method_10_code (2 : Nat) (Option.some Jvm.ClassFile.FieldType.long), Jvm.Cond.code ({ cls := "com/example/overlay_of_graphs/overlayofgraphs/embed/ConvexHull$Chain", name := "goTowardTouch", desc := "(Lcom/example/overlay_of_graphs/overlayofgraphs/embed/ConvexHull$Chain$Walk;Z)V" } : Jvm.MethodName) prog_14_method_5_code (3 : Nat) (Option.none : Option Jvm.ClassFile.FieldType), Jvm.Cond.code ({ cls := "com/example/overlay_of_graphs/overlayofgraphs/embed/ConvexHull$Chain$Walk", name := "goLeft", desc := "()V" } : Jvm.MethodName) prog_15_method_7_code (1 : Nat) (Option.none : Option Jvm.ClassFile.FieldType), Jvm.Cond.code ({ cls := "com/example/overlay_of_graphs/overlayofgraphs/embed/ConvexHull$Chain$Walk", name := "goRight", desc := "()V" } : Jvm.MethodName) prog_15_method_8_code (1 : Nat) (Option.none : Option Jvm.ClassFile.FieldType), Jvm.Cond.code ({ cls := "com/example/overlay_of_graphs/overlayofgraphs/embed/ConvexHull", name := "remove", desc := "(I)V" } : Jvm.MethodName) prog_13_method_5_code (2 : Nat) (Option.none : Option Jvm.ClassFile.FieldType), Jvm.Cond.code ({ cls := "com/example/overlay_of_graphs/overlayofgraphs/embed/ConvexHull", name := "change", desc := "(IZ)V" } : Jvm.MethodName) prog_13_method_8_code (10 : Nat) (Option.none : Option Jvm.ClassFile.FieldType), Jvm.Cond.code ({ cls := "com/example/overlay_of_graphs/overlayofgraphs/embed/ConvexHull", name := "leafOf", desc := "(I)I" } : Jvm.MethodName) prog_13_method_10_code (3 : Nat) (Option.some Jvm.ClassFile.FieldType.int), Jvm.Cond.code ({ cls := "com/example/overlay_of_graphs/overlayofgraphs/embed/ConvexHull", name := "leavesLeftOf", desc := "(J)I" } : Jvm.MethodName) prog_13_method_11_code (6 : Nat) (Option.some Jvm.ClassFile.FieldType.int), Jvm.Cond.code ({ cls := "com/example/overlay_of_graphs/overlayofgraphs/embed/ConvexHull$Chain", name := "change", desc := "(IIZZ)Z" } : Jvm.MethodName) prog_14_method_3_code (9 : Nat) (Option.some Jvm.ClassFile.FieldType.boolean), Jvm.Cond.code ({ cls := "com/example/overlay_of_graphs/overlayofgraphs/embed/ConvexHull", name := "toArray", desc := "()[I" } : Jvm.MethodName) prog_13_method_3_code (4 : Nat) (Option.some (Jvm.ClassFile.FieldType.array Jvm.ClassFile.FieldType.int)), Jvm.Cond.code ({ cls := "com/example/overlay_of_graphs/overlayofgraphs/embed/ConvexHull$Chain", name := "stepBoth", desc := "(Lcom/example/overlay_of_graphs/overlayofgraphs/embed/ConvexHull$Chain$Walk;Lcom/example/overlay_of_graphs/overlayofgraphs/embed/ConvexHull$Chain$Walk;J)V" } : Jvm.MethodName) prog_14_method_6_code (11 : Nat) (Option.none : Option Jvm.ClassFile.FieldType)]
set_option maxRecDepth 65536 in
theorem codes_eq : words1.filter isCode = codes1 := rfl
theorem w_codes : ∀ c ∈ words1.filter isCode, c.before args0 about1 = true := by
  rw [codes_eq]
  intro c hc
  simp only [codes1, List.mem_cons, List.not_mem_nil, or_false] at hc
  rcases hc with rfl | rfl | rfl | rfl | rfl | rfl | rfl | rfl | rfl | rfl | rfl | rfl | rfl | rfl | rfl | rfl | rfl | rfl | rfl | rfl | rfl | rfl | rfl | rfl | rfl | rfl | rfl | rfl | rfl
  · exact w_c0
  · exact w_c1
  · exact w_c2
  · exact w_c3
  · exact w_c4
  · exact w_c5
  · exact w_c6
  · exact w_c7
  · exact w_c8
  · exact w_c9
  · exact w_c10
  · exact w_c11
  · exact w_c12
  · exact w_c13
  · exact w_c14
  · exact w_c15
  · exact w_c16
  · exact w_c17
  · exact w_c18
  · exact w_c19
  · exact w_c20
  · exact w_c21
  · exact w_c22
  · exact w_c23
  · exact w_c24
  · exact w_c25
  · exact w_c26
  · exact w_c27
  · exact w_c28
set_option maxRecDepth 65536 in
theorem w_t1 : (words1.take 24).all (fun c => isCode c || c.before args0 about1) = true := by decide +kernel
set_option maxRecDepth 65536 in
theorem w_t2 : ((words1.drop 24).take 24).all (fun c => isCode c || c.before args0 about1) = true := by decide +kernel
set_option maxRecDepth 65536 in
theorem w_t3 : (((words1.drop 24).drop 24).take 24).all (fun c => isCode c || c.before args0 about1) = true := by decide +kernel
set_option maxRecDepth 65536 in
theorem w_t4 : ((((words1.drop 24).drop 24).drop 24).take 24).all (fun c => isCode c || c.before args0 about1) = true := by decide +kernel
set_option maxRecDepth 65536 in
theorem w_t5 : (((((words1.drop 24).drop 24).drop 24).drop 24).take 24).all (fun c => isCode c || c.before args0 about1) = true := by decide +kernel
set_option maxRecDepth 65536 in
theorem w_t6 : ((((((words1.drop 24).drop 24).drop 24).drop 24).drop 24).take 24).all (fun c => isCode c || c.before args0 about1) = true := by decide +kernel
set_option maxRecDepth 65536 in
theorem w_t7 : (((((((words1.drop 24).drop 24).drop 24).drop 24).drop 24).drop 24).take 24).all (fun c => isCode c || c.before args0 about1) = true := by decide +kernel
set_option maxRecDepth 65536 in
theorem w_t8 : (((((((words1.drop 24).drop 24).drop 24).drop 24).drop 24).drop 24).drop 24).all (fun c => isCode c || c.before args0 about1) = true := by decide +kernel
theorem w_tables : (allAtoms (Jvm.Cond.code x code maxLocals ret :: tables_1)).before args0 about1 = true := by
  rw [allAtoms_all]
  show words1.all (fun c => c.before args0 about1) = true
  refine all_split ?_ w_codes
  rw [← List.take_append_drop 24 words1, List.all_append, w_t1, ← List.take_append_drop 24 (words1.drop 24), List.all_append, w_t2, ← List.take_append_drop 24 ((words1.drop 24).drop 24), List.all_append, w_t3, ← List.take_append_drop 24 (((words1.drop 24).drop 24).drop 24), List.all_append, w_t4, ← List.take_append_drop 24 ((((words1.drop 24).drop 24).drop 24).drop 24), List.all_append, w_t5, ← List.take_append_drop 24 (((((words1.drop 24).drop 24).drop 24).drop 24).drop 24), List.all_append, w_t6, ← List.take_append_drop 24 ((((((words1.drop 24).drop 24).drop 24).drop 24).drop 24).drop 24), List.all_append, w_t7, w_t8]
  rfl
set_option maxRecDepth 65536 in
theorem w_case : (Jvm.Cond.and given_1 narrow_1).before args0 about1 = true := by decide +kernel
theorem w_applies : (headSpec (Jvm.Cond.code x code maxLocals ret :: tables_1) room_1).applies x e0.platform about1 = true :=
  (Spec.applies_iff w_frames).mpr ⟨w_running, w_runnable, w_alone, w_named, w_hears, w_ripe, w_room, w_tables⟩
theorem atStart : AtStart classFile x code maxLocals ret World_1 tables_1 room_1 Calls_1 rest_1 Pre_1 launch0 p0 e0 about1 theMethod args0 below0 :=
  ⟨lists_1, trivial, launch0.admits_env _ _ _, launch0.least_env, fairChoices_fair.cas, fairChoices_fair.clock, w_frames, w_args, w_heap, w_applies, trivial, trivial, w_case⟩
end start1
theorem witness_1 : WitnessClaimed_1 := ⟨start1.p0, start1.e0, start1.about1, start1.theMethod, start1.args0, start1.below0, start1.atStart⟩
end Jvm.Pilot.@@N@@
