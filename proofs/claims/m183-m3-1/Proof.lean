import JvmDerived
import JvmDerived.Pilot.@@N@@Statement
import JvmDerived.Pilot.@@N@@Code
set_option linter.unusedVariables false
set_option linter.unusedSimpArgs false
@@BLOCK:NumsL.lean.txt@@
@@BLOCK:Masks.lean.txt@@
@@BLOCK:Nums.lean.txt@@
namespace Jvm.Pilot.@@N@@
open Jvm Jvm.ClassFile Sem Op Lib Jvm.Free Jvm.Stand Jvm.LawKit Jvm.RoadKit Bundle Jvm.Pilot.@@N@@.Jvm.D
section Own
variable {p : Program} {l : Launch} {e : Env} {R : Room} {s : State} {m : MethodId} {args : Array Value} {below : List Frame} {meth : Method} {c : Code} {T T' : State} {locs : List Loc} {cells slots : Nat} {Z : State} {h h' : Heap} {n0 : Nat} {a0 : Array Value} {CC SS : Nat} {Q : Option Value → Heap → List Loc → Prop} {g g' : JFrame} {pc : Nat} {Ls : Array Slot} {rest st : List Value}
/-- from here the run comes to its end, and Q holds there -/
def own_Run (p : Program) (e : Env) (below : List Frame) (s : State) (CC SS : Nat) (Q : Option Value → Heap → List Loc → Prop) (T : State) (g : JFrame) : Prop :=
  ∃ s₂ o, Steps p.tables e below (T.setTop g) s₂ ∧ s₂.status = .running ∧ Ended s₂ below o ∧ ∃ v L, o = .returned v ∧ Q v s₂.heap L ∧ FrameEnd s o s₂ L CC SS
theorem own_run (sp : ∀ t, Steps p.tables e below (T'.setTop g') t → Steps p.tables e below (T.setTop g) t) (r : own_Run p e below s CC SS Q T' g') : own_Run p e below s CC SS Q T g := by
  obtain ⟨s₂, o, h1, r⟩ := r; exact ⟨s₂, o, sp _ h1, r⟩
theorem own_enter {ml : Nat} (q : entryFrame m args ml = g) (r : own_Run p e below s CC SS Q T g) : ∃ s₂ o, Steps p.tables e below (T.setTop (entryFrame m args ml)) s₂ ∧ s₂.status = .running ∧ Ended s₂ below o ∧ ∃ v L, o = .returned v ∧ Q v s₂.heap L ∧ FrameEnd s o s₂ L CC SS := by rw [q]; exact r
theorem own_retN {t : FieldType} {z : Int32} (X : Stand p l e R s m args below meth c T locs cells slots) (hx : p.tables.exec = Jvm.exec) (hlk : meth.locks = false) (hret : meth.sig.returnType = some t) (ht : t = .boolean ∨ t = .byte ∨ t = .char ∨ t = .short) (hd : decode c.code pc = .ok (.ireturn, 1)) (hc : cells ≤ CC) (hs : slots ≤ SS) (q : Q (some (.int (nar t z))) T.heap locs) : own_Run p e below s CC SS Q T (mkF m pc Ls (.int z :: rest)) := by
  obtain ⟨fs, hr, hrun, hended, hW, hsame⟩ := X.leave (v := some (.int (nar t z))) (fun h => by rw [hret] at h; cases h) hlk
  exact ⟨_, _, retN X hx hret ht hd hr, hrun, hended, _, _, rfl, q, ⟨_, rfl⟩, hW, hsame.mono hc hs⟩
theorem own_retI {z : Int32} (X : Stand p l e R s m args below meth c T locs cells slots) (hx : p.tables.exec = Jvm.exec) (hlk : meth.locks = false) (hret : meth.sig.returnType = some .int) (hd : decode c.code pc = .ok (.ireturn, 1)) (hc : cells ≤ CC) (hs : slots ≤ SS) (q : Q (some (.int z)) T.heap locs) : own_Run p e below s CC SS Q T (mkF m pc Ls (.int z :: rest)) := by
  obtain ⟨fs, hr, hrun, hended, hW, hsame⟩ := X.leave (v := some (.int z)) (fun h => by rw [hret] at h; cases h) hlk
  refine ⟨_, _, ?_, hrun, hended, _, _, rfl, q, ⟨_, rfl⟩, hW, hsame.mono hc hs⟩
  have hm' : T.vm.method? m = some meth := X.method'
  have hn : narrow .int (.int z) = .int z := rfl
  show Steps p.tables e below (T.setTop { method := m, pc := pc, locals := Ls, stack := _ :: rest, locked := none }) _
  jvm_step X.here [X.here.top, hx, hd, hm', hret, hn]
  first | (intro acts; rw [hr _ acts rfl rfl rfl]) | rw [hr _ _ rfl rfl rfl]
  exact Steps.refl _
theorem own_retL {z : Int64} (X : Stand p l e R s m args below meth c T locs cells slots) (hx : p.tables.exec = Jvm.exec) (hlk : meth.locks = false) (hret : meth.sig.returnType = some .long) (hd : decode c.code pc = .ok (.lreturn, 1)) (hc : cells ≤ CC) (hs : slots ≤ SS) (q : Q (some (.long z)) T.heap locs) : own_Run p e below s CC SS Q T (mkF m pc Ls [.long z]) := by
  obtain ⟨fs, hr, hrun, hended, hW, hsame⟩ := X.leave (v := some (.long z)) (fun h => by rw [hret] at h; cases h) hlk
  exact ⟨_, _, X.lreturnOut hx hret hd hr, hrun, hended, _, _, rfl, q, ⟨_, rfl⟩, hW, hsame.mono hc hs⟩
theorem own_retV (X : Stand p l e R s m args below meth c T locs cells slots) (hx : p.tables.exec = Jvm.exec) (hlk : meth.locks = false) (hret : meth.sig.returnType = none) (hd : decode c.code pc = .ok (.return_, 1)) (hc : cells ≤ CC) (hs : slots ≤ SS) (q : Q none T.heap locs) : own_Run p e below s CC SS Q T (mkF m pc Ls []) := by
  obtain ⟨fs, hr, hrun, hended, hW, hsame⟩ := X.leave (v := none) (fun _ => rfl) hlk
  exact ⟨_, _, X.returnOut hx hret hd hr, hrun, hended, _, _, rfl, q, ⟨_, rfl⟩, hW, hsame.mono hc hs⟩
theorem own_retR {v : Value} {t : FieldType} (X : Stand p l e R s m args below meth c T locs cells slots) (hx : p.tables.exec = Jvm.exec) (hlk : meth.locks = false) (hret : meth.sig.returnType = some t) (ht : t.isReference = true) (hv : v.isRef = true) (hd : decode c.code pc = .ok (.areturn, 1)) (hc : cells ≤ CC) (hs : slots ≤ SS) (q : Q (some v) T.heap locs) : own_Run p e below s CC SS Q T (mkF m pc Ls (v :: rest)) := by
  obtain ⟨fs, hr, hrun, hended, hW, hsame⟩ := X.leave (v := some v) (fun h => by rw [hret] at h; cases h) hlk
  refine ⟨_, _, ?_, hrun, hended, _, _, rfl, q, ⟨_, rfl⟩, hW, hsame.mono hc hs⟩
  have hm' : T.vm.method? m = some meth := X.method'
  show Steps p.tables e below (T.setTop { method := m, pc := pc, locals := Ls, stack := _ :: rest, locked := none }) _
  jvm_step X.here [X.here.top, hx, hd, hm', hret, ht, hv]
  first | (intro acts; rw [hr _ acts rfl rfl rfl]) | rw [hr _ _ rfl rfl rfl]
  exact Steps.refl _
theorem own_clt {x y : Int64} (q : x < y) : ifCond.holds .lt (XT.cmpL x y) = true ∧ ifCond.holds .ge (XT.cmpL x y) = false := by
  have q' : XT.cmpL x y < 0 := (lw_lt x y).mpr q
  exact ⟨(if0 _ _).trans (tlt q').1, (if0 _ _).trans (tlt q').2.1⟩
theorem own_cnlt {x y : Int64} (q : ¬ x < y) : ifCond.holds .lt (XT.cmpL x y) = false ∧ ifCond.holds .ge (XT.cmpL x y) = true := by
  have q' : ¬ XT.cmpL x y < 0 := fun z => q ((lw_lt x y).mp z)
  exact ⟨(if0 _ _).trans (flt q').1, (if0 _ _).trans (flt q').2.1⟩
theorem own_cgt {x y : Int64} (q : y < x) : ifCond.holds .gt (XT.cmpL x y) = true ∧ ifCond.holds .le (XT.cmpL x y) = false := by
  have q' : 0 < XT.cmpL x y := (lw_gt x y).mpr q
  exact ⟨(if0 _ _).trans (tlt q').2.2.1, (if0 _ _).trans (tlt q').2.2.2⟩
theorem own_cngt {x y : Int64} (q : ¬ y < x) : ifCond.holds .gt (XT.cmpL x y) = false ∧ ifCond.holds .le (XT.cmpL x y) = true := by
  have q' : ¬ 0 < XT.cmpL x y := fun z => q ((lw_gt x y).mp z)
  exact ⟨(if0 _ _).trans (flt q').2.2.1, (if0 _ _).trans (flt q').2.2.2⟩
theorem own_ceq {x y : Int64} (q : x = y) : ifCond.holds .eq (XT.cmpL x y) = true ∧ ifCond.holds .ne (XT.cmpL x y) = false := by
  have q' : XT.cmpL x y = 0 := (lw_eq x y).mpr q
  exact ⟨(if0 _ _).trans (teq q').1, (if0 _ _).trans (teq q').2⟩
theorem own_cneq {x y : Int64} (q : ¬ x = y) : ifCond.holds .eq (XT.cmpL x y) = false ∧ ifCond.holds .ne (XT.cmpL x y) = true := by
  have q' : ¬ XT.cmpL x y = 0 := fun z => q ((lw_eq x y).mp z)
  exact ⟨(if0 _ _).trans (feq q').1, (if0 _ _).trans (feq q').2⟩
theorem own_rem (x y : Int32) : x - (x / y) * y = x % y := by
  have a := (x % y).toInt_lt; have b := (x % y).le_toInt
  rw [Int32.toInt_mod] at a b
  apply Int32.toInt_inj.mp
  rw [Int32.toInt_mod, Int32.toInt_sub, Int32.toInt_mul, Int32.toInt_div, Int.bmod_mul_bmod, Int.sub_bmod_bmod, Int.mul_comm, ← Int.tmod_def]
  exact Jvm.Kit.bmod32 b a
theorem own_irem {tb : Tables} [Ours tb] {e : Env} {below : List Frame} {T target : State} {m : MethodId} {c : Code} {g : JFrame} (h : At T m c below) (hx : tb.exec = Jvm.exec) (hg : g.method = m) {x y : Int32} {rest : List Value} (hd : decode c.code g.pc = .ok (.irem, 1)) (hs : g.stack = .int y :: .int x :: rest) (hy : y ≠ 0)
    (hr : Steps tb e below (T.setTop { g with pc := g.pc + 1, stack := .int (x % y) :: rest }) target) : Steps tb e below (T.setTop g) target := XS.irem h hx hg hd hs hy (by rw [own_rem]; exact hr)
theorem own_ldcI {own : String} {index : Nat} {x : Int32} (X : Stand p l e R s m args below meth c T locs cells slots) (hx : p.tables.exec = Jvm.exec) (hZ : Z.Warmed39 s.vm) (hown : s.vm.findClass own = some m.cls) (w : (Cond.constant own index x).before a0 Z = true) (hd : decode c.code pc = .ok (.ldc index, 2)) (k : own_Run p e below s CC SS Q T (mkF m (pc + 2) Ls (.int x :: rest))) : own_Run p e below s CC SS Q T (mkF m pc Ls rest) :=
  own_run (X.ldcInt hx hown (mvT hZ w) (g := mkF m pc Ls rest) rfl hd) k
theorem own_ldcwI {own : String} {index : Nat} {x : Int32} (X : Stand p l e R s m args below meth c T locs cells slots) (hx : p.tables.exec = Jvm.exec) (hZ : Z.Warmed39 s.vm) (hown : s.vm.findClass own = some m.cls) (w : (Cond.constant own index x).before a0 Z = true) (hd : decode c.code pc = .ok (.ldc_w index, 3)) (k : own_Run p e below s CC SS Q T (mkF m (pc + 3) Ls (.int x :: rest))) : own_Run p e below s CC SS Q T (mkF m pc Ls rest) :=
  own_run (X.ldcwInt hx hown (mvT hZ w) (g := mkF m pc Ls rest) rfl hd) k
theorem own_ldcL {own : String} {index : Nat} {x : Int64} (X : Stand p l e R s m args below meth c T locs cells slots) (hx : p.tables.exec = Jvm.exec) (hZ : Z.Warmed39 s.vm) (hown : s.vm.findClass own = some m.cls) (w : (Cond.constantLong own index x).before a0 Z = true) (hd : decode c.code pc = .ok (.ldc2_w index, 3)) (k : own_Run p e below s CC SS Q T (mkF m (pc + 3) Ls (.long x :: rest))) : own_Run p e below s CC SS Q T (mkF m pc Ls rest) :=
  own_run (X.ldc2Long hx hown (mvT hZ w) (g := mkF m pc Ls rest) rfl hd) k
/-- an array of ints or bytes: its length and what it holds -/
def own_A (Z : State) (h : Heap) (a : Addr) (ty : FieldType) (n : Int32) (xs : List Int32) : Prop :=
  xs.length = n.toNatClampNeg ∧ ∃ k, Arv Z h a k ty n (xs.map Value.int) (.int (0 : Int32))
variable {a b : Addr} {ty : FieldType} {n j x : Int32} {xs ys : List Int32} {sl : Nat} {v : Value} {ws : List Addr}
theorem own_A.lt (A : own_A Z h a ty n xs) : a < h.size := by obtain ⟨-, k, V⟩ := A; exact V.lt
theorem own_A.ext (A : own_A Z h a ty n xs) (E : Ext h h') : own_A Z h' a ty n xs := ⟨A.1, A.2.imp fun _ V => V.ext E⟩
theorem own_A.other (A : own_A Z h b ty n xs) (W : Wr h h' a sl v) (q : b ≠ a) : own_A Z h' b ty n xs := ⟨A.1, A.2.imp fun _ V => V.other W q⟩
theorem own_A.keep (A : own_A Z h a ty n xs) (K : Keep h h' ws) (q : a ∉ ws) : own_A Z h' a ty n xs := ⟨A.1, A.2.imp fun _ V => V.keep K q⟩
theorem own_A.nn (A : own_A Z h a ty n xs) : ¬ n < 0 := by obtain ⟨-, k, cl, -, -, -, q, -⟩ := A; exact q
theorem own_A.to (A : own_A Z h a ty n xs) (q : xs = ys) : own_A Z h a ty n ys := q ▸ A
theorem own_lt_clamp {j n : Int32} (hj : ¬ j < 0 ∧ j < n) : j.toNatClampNeg < n.toNatClampNeg := by
  obtain ⟨q1, q2⟩ := hj
  rw [Int32.lt_iff_toInt_lt] at q1 q2
  have e0 : (0 : Int32).toInt = 0 := rfl
  simp only [Int32.toNatClampNeg] at *; omega
theorem own_newA {aty : ArrayType} {cap : Nat} (X : Stand p l e R s m args below meth c T locs cells slots) (hx : p.tables.exec = Jvm.exec) (hZ : Z.Warmed39 s.vm) (w : (Cond.arrayClass (newarray.typeOf aty)).before a0 Z = true) (hty : newarray.typeOf aty = ty) (hdv : defaultValue ty = .int 0) (eT : T.heap = h) (hd : decode c.code pc = .ok (.newarray aty, 2)) (hn : ¬ n < 0) (hcap : n.toNatClampNeg ≤ cap) (hb : cap * 8 ≤ 536870912) (hc : cells + 1 ≤ R.cells) (hl : slots + cap ≤ R.slots)
    (k : ∀ T' h' b, b = h.size → Stand p l e R s m args below meth c T' locs (cells + 1) (slots + cap) → T'.heap = h' → Ext h h' → own_A Z h' b ty n (List.replicate n.toNatClampNeg 0) → own_Run p e below s CC SS Q T' (mkF m (pc + 2) Ls (.ref b :: rest))) :
    own_Run p e below s CC SS Q T (mkF m pc Ls (.int n :: rest)) := by
  obtain ⟨T', h', cA, X', e', E', A', sp⟩ := newP X hx hZ w eT (g := mkF m pc Ls (.int n :: rest)) rfl hd rfl hn hcap hb hc hl
  subst hty
  refine own_run sp (k T' h' _ rfl X' e' E' ⟨by simp, cA, ?_⟩)
  have V := Arv.new A' hn
  rw [hdv] at V
  have q := V.pad (pad_rep [] (.int 0) n.toNatClampNeg)
  simpa using q
theorem own_len (X : Stand p l e R s m args below meth c T locs cells slots) (hx : p.tables.exec = Jvm.exec) (hZ : Z.Warmed39 s.vm) (eT : T.heap = h) (A : own_A Z h a ty n xs) (hd : decode c.code pc = .ok (.arraylength, 1)) (k : own_Run p e below s CC SS Q T (mkF m (pc + 1) Ls (.int n :: rest))) : own_Run p e below s CC SS Q T (mkF m pc Ls (.ref a :: rest)) := by
  obtain ⟨hl, kk, cl, Ar, q1, Sz, Nn, H, G⟩ := A
  refine own_run (fun t kt => X.arraylength hx (by rw [eT]; exact Ar.1) (State.isArrayOf_alike hZ.alike Ar.2.1) (g := mkF m pc Ls (.ref a :: rest)) rfl rfl hd t (by rw [len_of Sz Nn]; exact kt)) k
theorem own_getD (xs : List Int32) (i : Nat) : (xs.map Value.int).getD i (.int 0) = .int (xs.getD i 0) := by
  simp only [List.getD_eq_getElem?_getD, List.getElem?_map]; cases xs[i]? <;> rfl
theorem own_ldI (X : Stand p l e R s m args below meth c T locs cells slots) (hx : p.tables.exec = Jvm.exec) (hZ : Z.Warmed39 s.vm) (eT : T.heap = h) (A : own_A Z h a .int n xs) (hj : ¬ j < 0 ∧ j < n) (hd : decode c.code pc = .ok (.iaload, 1)) (hv : xs.getD j.toNatClampNeg 0 = x) (k : own_Run p e below s CC SS Q T (mkF m (pc + 1) Ls (.int x :: rest))) : own_Run p e below s CC SS Q T (mkF m pc Ls (.int j :: .ref a :: rest)) := by
  obtain ⟨hl, kk, cl, Ar, q1, Sz, Nn, H, G⟩ := A
  have hin := inb_of Sz hj
  refine own_run (fun t kt => X.iaload hx (j := j) (v := .int x) (by rw [eT]; exact Ar.1) (State.isArrayOf_alike hZ.alike Ar.2.1) Ar.2.2 hin (H.at hin (by rw [own_getD, hv])) (g := mkF m pc Ls (.int j :: .ref a :: rest)) rfl rfl hd t kt) k
theorem own_ldB (X : Stand p l e R s m args below meth c T locs cells slots) (hx : p.tables.exec = Jvm.exec) (hZ : Z.Warmed39 s.vm) (eT : T.heap = h) (A : own_A Z h a .byte n xs) (hj : ¬ j < 0 ∧ j < n) (hd : decode c.code pc = .ok (.baload, 1)) (hv : xs.getD j.toNatClampNeg 0 = x) (k : own_Run p e below s CC SS Q T (mkF m (pc + 1) Ls (.int x :: rest))) : own_Run p e below s CC SS Q T (mkF m pc Ls (.int j :: .ref a :: rest)) := by
  obtain ⟨hl, kk, cl, Ar, q1, Sz, Nn, H, G⟩ := A
  have hin := inb_of Sz hj
  refine own_run (fun t kt => X.baloadBytes hx (j := j) (v := .int x) (by rw [eT]; exact Ar.1) (State.isArrayOf_alike hZ.alike Ar.2.1) Ar.2.2 hin (H.at hin (by rw [own_getD, hv])) (g := mkF m pc Ls (.int j :: .ref a :: rest)) rfl rfl hd t kt) k
theorem own_map_set (xs : List Int32) (i : Nat) (x : Int32) : (xs.map Value.int).set i (.int x) = (xs.set i x).map Value.int := by rw [List.map_set]
theorem own_stI (X : Stand p l e R s m args below meth c T locs cells slots) (hx : p.tables.exec = Jvm.exec) (hZ : Z.Warmed39 s.vm) (eT : T.heap = h) (A : own_A Z h a .int n xs) (hj : ¬ j < 0 ∧ j < n) (N : Fr n0 locs) (ga : n0 ≤ a) (hd : decode c.code pc = .ok (.iastore, 1)) (hys : xs.set j.toNatClampNeg x = ys)
    (k : ∀ T' h' locs', Stand p l e R s m args below meth c T' locs' cells slots → Fr n0 locs' → T'.heap = h' → Wr h h' a j.toNatClampNeg (.int x) → own_A Z h' a .int n ys → own_Run p e below s CC SS Q T' (mkF m (pc + 1) Ls rest)) : own_Run p e below s CC SS Q T (mkF m pc Ls (.int x :: .int j :: .ref a :: rest)) := by
  obtain ⟨hl, kk, cl, Ar, q1, Sz, Nn, H, G⟩ := A
  have hin := inb_of Sz hj
  obtain ⟨T', h', X', e', W, sp⟩ := stI X hx hZ eT Ar (j := j) (x := x) hin (g := mkF m pc Ls (.int x :: .int j :: .ref a :: rest)) rfl rfl hd
  have V := Arv.set Ar q1 Sz Nn H G (show fits .int (.int x) = true from rfl) W _ rfl (by rw [List.length_map, hl]; exact own_lt_clamp hj)
  refine own_run sp (k T' h' _ X' (Fr.snoc X' N ga) e' W ⟨by rw [← hys, List.length_set]; exact hl, kk, ?_⟩)
  rw [← hys, ← own_map_set]; exact V
theorem own_stB (X : Stand p l e R s m args below meth c T locs cells slots) (hx : p.tables.exec = Jvm.exec) (hZ : Z.Warmed39 s.vm) (eT : T.heap = h) (A : own_A Z h a .byte n xs) (hj : ¬ j < 0 ∧ j < n) (N : Fr n0 locs) (ga : n0 ≤ a) (hd : decode c.code pc = .ok (.bastore, 1)) (hys : xs.set j.toNatClampNeg (nar .byte x) = ys)
    (k : ∀ T' h' locs', Stand p l e R s m args below meth c T' locs' cells slots → Fr n0 locs' → T'.heap = h' → Wr h h' a j.toNatClampNeg (.int (nar .byte x)) → own_A Z h' a .byte n ys → own_Run p e below s CC SS Q T' (mkF m (pc + 1) Ls rest)) : own_Run p e below s CC SS Q T (mkF m pc Ls (.int x :: .int j :: .ref a :: rest)) := by
  obtain ⟨hl, kk, cl, Ar, q1, Sz, Nn, H, G⟩ := A
  have hin := inb_of Sz hj
  obtain ⟨T', h', X', e', W, sp⟩ := stB X hx hZ eT Ar (j := j) (x := x) hin (g := mkF m pc Ls (.int x :: .int j :: .ref a :: rest)) rfl rfl hd
  have V := Arv.set Ar q1 Sz Nn H G (fits_nar_byte x) W _ rfl (by rw [List.length_map, hl]; exact own_lt_clamp hj)
  refine own_run sp (k T' h' _ X' (Fr.snoc X' N ga) e' W ⟨by rw [← hys, List.length_set]; exact hl, kk, ?_⟩)
  rw [← hys, ← own_map_set]; exact V
/-- an array of which only the length is said -/
def own_L (Z : State) (h : Heap) (a : Addr) (n : Int32) : Prop := ∃ (ty : FieldType) (k : ClassId) (vs : List Value) (d : Value), Arv Z h a k ty n vs d
theorem own_L.lt (A : own_L Z h a n) : a < h.size := by obtain ⟨_, _, _, _, V⟩ := A; exact V.lt
theorem own_L.ext (A : own_L Z h a n) (E : Ext h h') : own_L Z h' a n := by obtain ⟨_, _, _, _, V⟩ := A; exact ⟨_, _, _, _, V.ext E⟩
theorem own_L.other (A : own_L Z h b n) (W : Wr h h' a sl v) (q : b ≠ a) : own_L Z h' b n := by obtain ⟨_, _, _, _, V⟩ := A; exact ⟨_, _, _, _, V.other W q⟩
theorem own_L.keep (A : own_L Z h a n) (K : Keep h h' ws) (q : a ∉ ws) : own_L Z h' a n := by obtain ⟨_, _, _, _, V⟩ := A; exact ⟨_, _, _, _, V.keep K q⟩
theorem own_A.toL (A : own_A Z h a ty n xs) : own_L Z h a n := by obtain ⟨-, k, V⟩ := A; exact ⟨_, _, _, _, V⟩
theorem own_newL {aty : ArrayType} {cap : Nat} (X : Stand p l e R s m args below meth c T locs cells slots) (hx : p.tables.exec = Jvm.exec) (hZ : Z.Warmed39 s.vm) (w : (Cond.arrayClass (newarray.typeOf aty)).before a0 Z = true) (eT : T.heap = h) (hd : decode c.code pc = .ok (.newarray aty, 2)) (hn : ¬ n < 0) (hcap : n.toNatClampNeg ≤ cap) (hb : cap * 8 ≤ 536870912) (hc : cells + 1 ≤ R.cells) (hl : slots + cap ≤ R.slots)
    (k : ∀ T' h' b, b = h.size → Stand p l e R s m args below meth c T' locs (cells + 1) (slots + cap) → T'.heap = h' → Ext h h' → own_L Z h' b n → own_Run p e below s CC SS Q T' (mkF m (pc + 2) Ls (.ref b :: rest))) :
    own_Run p e below s CC SS Q T (mkF m pc Ls (.int n :: rest)) := by
  obtain ⟨T', h', cA, X', e', E', A', sp⟩ := newP X hx hZ w eT (g := mkF m pc Ls (.int n :: rest)) rfl hd rfl hn hcap hb hc hl
  exact own_run sp (k T' h' _ rfl X' e' E' ⟨_, _, _, _, Arv.new A' hn⟩)
theorem own_lenL (X : Stand p l e R s m args below meth c T locs cells slots) (hx : p.tables.exec = Jvm.exec) (hZ : Z.Warmed39 s.vm) (eT : T.heap = h) (A : own_L Z h a n) (hd : decode c.code pc = .ok (.arraylength, 1)) (k : own_Run p e below s CC SS Q T (mkF m (pc + 1) Ls (.int n :: rest))) : own_Run p e below s CC SS Q T (mkF m pc Ls (.ref a :: rest)) := by
  obtain ⟨ty, kk, vs, d, cl, Ar, q1, Sz, Nn, H, G⟩ := A
  refine own_run (fun t kt => X.arraylength hx (by rw [eT]; exact Ar.1) (State.isArrayOf_alike hZ.alike Ar.2.1) (g := mkF m pc Ls (.ref a :: rest)) rfl rfl hd t (by rw [len_of Sz Nn]; exact kt)) k
/-- an array of references that holds nothing but null -/
def own_U (Z : State) (h : Heap) (a : Addr) (n : Int32) : Prop := ∃ (C : String) (k : ClassId), Arv Z h a k (.object C) n [] .null
theorem own_U.lt (A : own_U Z h a n) : a < h.size := by obtain ⟨_, _, V⟩ := A; exact V.lt
theorem own_U.ext (A : own_U Z h a n) (E : Ext h h') : own_U Z h' a n := by obtain ⟨_, _, V⟩ := A; exact ⟨_, _, V.ext E⟩
theorem own_U.toL (A : own_U Z h a n) : own_L Z h a n := by obtain ⟨_, _, V⟩ := A; exact ⟨_, _, _, _, V⟩
theorem own_newU {own K : String} {index cap : Nat} (X : Stand p l e R s m args below meth c T locs cells slots) (hx : p.tables.exec = Jvm.exec) (hZ : Z.Warmed39 s.vm) (hown : s.vm.findClass own = some m.cls) (w1 : (Cond.classLink own index K).before a0 Z = true) (w2 : (Cond.arrayOver (.object K)).before a0 Z = true) (eT : T.heap = h) (hd : decode c.code pc = .ok (.anewarray index, 3)) (hn : ¬ n < 0) (hcap : n.toNatClampNeg ≤ cap) (hb : cap * 8 ≤ 536870912) (hc : cells + 1 ≤ R.cells) (hl : slots + cap ≤ R.slots)
    (k : ∀ T' h' b, b = h.size → Stand p l e R s m args below meth c T' locs (cells + 1) (slots + cap) → T'.heap = h' → Ext h h' → own_U Z h' b n → own_Run p e below s CC SS Q T' (mkF m (pc + 3) Ls (.ref b :: rest))) :
    own_Run p e below s CC SS Q T (mkF m pc Ls (.int n :: rest)) := by
  obtain ⟨T', h', cA, X', e', E', A', -, sp⟩ := newR X hx hZ hown w1 w2 eT (g := mkF m pc Ls (.int n :: rest)) rfl hd rfl hn hcap hb hc hl
  exact own_run sp (k T' h' _ rfl X' e' E' ⟨_, _, Arv.new A' hn⟩)
theorem own_ldU (X : Stand p l e R s m args below meth c T locs cells slots) (hx : p.tables.exec = Jvm.exec) (hZ : Z.Warmed39 s.vm) (eT : T.heap = h) (A : own_U Z h a n) (hj : ¬ j < 0 ∧ j < n) (hd : decode c.code pc = .ok (.aaload, 1)) (k : own_Run p e below s CC SS Q T (mkF m (pc + 1) Ls (.null :: rest))) : own_Run p e below s CC SS Q T (mkF m pc Ls (.int j :: .ref a :: rest)) := by
  obtain ⟨C, kk, cl, Ar, q1, Sz, Nn, H, G⟩ := A
  have hin := inb_of Sz hj
  refine own_run (fun t kt => X.aaload hx (j := j) (v := .null) (by rw [eT]; exact Ar.1) (State.isArrayOf_alike hZ.alike Ar.2.1) rfl Ar.2.2 hin (H.at hin (by simp)) (g := mkF m pc Ls (.int j :: .ref a :: rest)) rfl rfl hd t kt) k
/-- new -/
theorem own_new {own K : String} {index sz : Nat} (X : Stand p l e R s m args below meth c T locs cells slots) (hx : p.tables.exec = Jvm.exec) (hZ : Z.Warmed39 s.vm) (hown : s.vm.findClass own = some m.cls) (w : (Cond.classLink own index K).before a0 Z = true) (wi : (Cond.instantiable K sz).before a0 Z = true) (wz : (Cond.initialized K).before a0 Z = true) (eT : T.heap = h) (hd : decode c.code pc = .ok (.new index, 3)) (hc : cells + 1 ≤ R.cells) (hl : slots + sz ≤ R.slots)
    (k : ∀ T' h' b, b = h.size → Stand p l e R s m args below meth c T' locs (cells + 1) (slots + sz) → T'.heap = h' → Ext h h' → Exa Z h' b K → (∀ {O nm d : String} {ty : FieldType}, Laid Z a0 K O nm d → parseFieldDescriptor d = some ty → Fld Z h' b O nm d (defaultValue ty)) → own_Run p e below s CC SS Q T' (mkF m (pc + 3) Ls (.ref b :: rest))) :
    own_Run p e below s CC SS Q T (mkF m pc Ls rest) := by
  obtain ⟨T', h', X', e', E', A', D', -, sp⟩ := newO X hx hZ hown w wi wz eT (g := mkF m pc Ls rest) rfl hd hc hl
  exact own_run sp (k T' h' _ rfl X' e' E' A' D')
theorem own_getF {own R0 O nm d host : String} {index : Nat} (X : Stand p l e R s m args below meth c T locs cells slots) (hx : p.tables.exec = Jvm.exec) (hZ : Z.Warmed39 s.vm) (hown : s.vm.findClass own = some m.cls) (w : (Cond.fieldLink own index R0 nm d).before a0 Z = true ∨ (Cond.fieldLinkNest own index R0 nm d host).before a0 Z = true) (via : Via Z R0 O nm d) (eT : T.heap = h) (F : Fld Z h a O nm d v) (hd : decode c.code pc = .ok (.getfield index, 3))
    (k : ∀ T', Stand p l e R s m args below meth c T' locs cells slots → T'.heap = h → own_Run p e below s CC SS Q T' (mkF m (pc + 3) Ls (v :: rest))) : own_Run p e below s CC SS Q T (mkF m pc Ls (.ref a :: rest)) := by
  obtain ⟨T', X', e', sp⟩ := getF X hx hZ hown w via eT F (g := mkF m pc Ls (.ref a :: rest)) rfl rfl hd
  exact own_run sp (k T' X' e')
theorem own_getS {own R0 O nm d : String} {index : Nat} (X : Stand p l e R s m args below meth c T locs cells slots) (hx : p.tables.exec = Jvm.exec) (hZ : Z.Warmed39 s.vm) (hown : s.vm.findClass own = some m.cls) (w : (Cond.fieldLink own index R0 nm d).before a0 Z = true) (via : Via Z R0 O nm d) (eT : T.heap = h) (F : Sta Z h O nm d v) (hd : decode c.code pc = .ok (.getstatic index, 3))
    (k : ∀ T', Stand p l e R s m args below meth c T' locs cells slots → T'.heap = h → own_Run p e below s CC SS Q T' (mkF m (pc + 3) Ls (v :: rest))) : own_Run p e below s CC SS Q T (mkF m pc Ls rest) := by
  obtain ⟨T', X', e', sp⟩ := getS (host := "") X hx hZ hown w via eT F (g := mkF m pc Ls rest) rfl hd
  exact own_run sp (k T' X' e')
theorem own_StaKeep {O nm d K : String} (F : Sta Z h O nm d v) (Kp : Keep h h' [a]) (E : Exa Z h a K) : Sta Z h' O nm d v := by
  obtain ⟨cf, i, k, f, st, cell, h1, h2, h3, h4, h5, h6, h7⟩ := F
  obtain ⟨cell', k', q1, -, -, q4, -⟩ := E
  have ne : st ≠ a := fun e => by subst e; cases h5.symm.trans q1; rw [h6] at q4; cases q4
  exact ⟨cf, i, k, f, st, cell, h1, h2, h3, h4, Kp.2.1 _ _ h5 (ninS ne nin0), h6, h7⟩
theorem own_StaKeepA {O nm d : String} (F : Sta Z h O nm d v) (Kp : Keep h h' [a]) (A : own_A Z h a ty n xs) : Sta Z h' O nm d v := by
  obtain ⟨cf, i, k, f, st, cell, h1, h2, h3, h4, h5, h6, h7⟩ := F
  obtain ⟨-, kk, cl, Ar, -⟩ := A
  have q4 := Ar.plain
  have ne : st ≠ a := fun e => by subst e; cases h5.symm.trans Ar.1; rw [h6] at q4; cases q4
  exact ⟨cf, i, k, f, st, cell, h1, h2, h3, h4, Kp.2.1 _ _ h5 (ninS ne nin0), h6, h7⟩
theorem own_putF {own R0 O nm d host K : String} {index kk : Nat} {old : Value} (X : Stand p l e R s m args below meth c T locs cells slots) (hx : p.tables.exec = Jvm.exec) (hZ : Z.Warmed39 s.vm) (hown : s.vm.findClass own = some m.cls) (w : (Cond.fieldLink own index R0 nm d).before a0 Z = true ∨ (Cond.fieldLinkNest own index R0 nm d host).before a0 Z = true) (via : Via Z R0 O nm d) (eT : T.heap = h) (F : Fld Z h a O nm d old) (E : Exa Z h a K) (L : (Cond.lays K O nm d).before a0 Z = true ∨ ((Cond.laysFinal K O nm d).before a0 Z = true ∧ own = O ∧ meth.name = "<init>")) (wi : (Cond.instantiable K kk).before a0 Z = true) (hty : parseFieldDescriptor d = some ty) (hn : narrow ty v = v) (hf : fits ty v = true) (N : Fr n0 locs) (ga : n0 ≤ a) (hd : decode c.code pc = .ok (.putfield index, 3))
    (k : ∀ T' h' locs', Stand p l e R s m args below meth c T' locs' cells slots → Fr n0 locs' → T'.heap = h' → Wr h h' a (Jvm.RoadKit.slotOf Z O nm d) v → Fld Z h' a O nm d v → own_Run p e below s CC SS Q T' (mkF m (pc + 3) Ls rest)) : own_Run p e below s CC SS Q T (mkF m pc Ls (v :: .ref a :: rest)) := by
  obtain ⟨T', h', X', e', W, sp⟩ := putF X hx hZ hown w via eT F E L wi hty hn hf (g := mkF m pc Ls (v :: .ref a :: rest)) rfl rfl hd
  exact own_run sp (k T' h' _ X' (Fr.snoc X' N ga) e' W (F.same W))
theorem own_initO {own : String} {index W : Nat} (X : Stand p l e R s m args below meth c T locs cells slots) (hx : p.tables.exec = Jvm.exec) (hZ : Z.Warmed39 s.vm) (hown : s.vm.findClass own = some m.cls) (w1 : (Cond.methodLink own index Lib.objectInit).before a0 Z = true) (w2 : (Cond.instanceMethod Lib.objectInit).before a0 Z = true) (w3 : (Cond.code Lib.objectInit ⟨#[0xb1]⟩ 1 none).before a0 Z = true) (eT : T.heap = h) (hsize : Ls.size = c.maxLocals) (hd : decode c.code pc = .ok (.invokespecial index, 3)) (hf : 1 ≤ R.frames) (hW : (rest.map fun v => v.category).sum ≤ W) (hl : W + 12 ≤ R.locals)
    (k : ∀ T', Stand p l e R s m args below meth c T' locs cells slots → T'.heap = h → own_Run p e below s CC SS Q T' (mkF m (pc + 3) Ls rest)) : own_Run p e below s CC SS Q T (mkF m pc Ls (.ref a :: rest)) := by
  obtain ⟨T', X', e', sp⟩ := initO X hx hZ hown w1 w2 w3 eT (g := mkF m pc Ls (.ref a :: rest)) rfl hsize rfl hd hf (W := W) (by show 2 * 0 + _ ≤ _; omega) hl
  exact own_run sp (k T' X' e')
variable {own : String} {index maxL W : Nat} {y z : MethodName} {bytes : ByteArray} {ret : Option FieldType} {rm : Room} {argsL : List Value} {Q' : Option Value → Heap → List Loc → Prop}
/-- a static method by its contract -/
theorem own_callS (X : Stand p l e R s m args below meth c T locs cells slots) (hx : p.tables.exec = Jvm.exec) (hZ : Z.Warmed39 s.vm) (hown : s.vm.findClass own = some m.cls) (w1 : (Cond.methodLink own index y).before a0 Z = true) (w2 : (Cond.static y).before a0 Z = true) (w3 : (Cond.initialized y.cls).before a0 Z = true) (w4 : (Cond.code y bytes maxL ret).before a0 Z = true) (hy : y.cls ≠ "java/lang/invoke/MethodHandle" ∧ y.cls ≠ "java/lang/invoke/VarHandle")
    (hM : MetFree l y (head1 [Cond.code y bytes maxL ret] rm) (fun a U => a = argsL.toArray ∧ Z.Warmed39 U.vm ∧ U.heap = h) (fun _ _ _ _ _ => True) (fun _ U o U' => ∃ v L, o = .returned v ∧ Q' v U'.heap L ∧ FrameEnd U o U' L rm.cells rm.slots)) (eT : T.heap = h) (hf : rm.frames + 1 ≤ R.frames) (hl : W + (maxL + 11) + rm.locals ≤ R.locals) (hcl : cells + rm.cells ≤ R.cells) (hsl : slots + rm.slots ≤ R.slots) (hsize : Ls.size = c.maxLocals)
    (hlen : ∀ sig, parseMethodDescriptor y.desc = some sig → argsL.length = sig.parameters.length) (hs : st = argsL.reverse ++ rest) (hW : (rest.map fun v => v.category).sum ≤ W) (hd : decode c.code pc = .ok (.invokestatic index, 3))
    (k : ∀ T' v L, Stand p l e R s m args below meth c T' (locs ++ L) (cells + rm.cells) (slots + rm.slots) → Q' v T'.heap L → own_Run p e below s CC SS Q T' (mkF m (pc + 3) Ls (v.toList ++ rest))) : own_Run p e below s CC SS Q T (mkF m pc Ls st) := by
  obtain ⟨v, _, ⟨T1, L1, k1, n1⟩, -, X1, ⟨Lc, hQ, l1, y1, z1⟩, sp⟩ := Jvm.LawKit.callS X hx hown (mvT hZ w1) (mvT hZ w2) (mvT hZ w3) (mvT hZ w4) hy (backOf (W := W) hM hZ w4 w3 hf hl) (g := mkF m pc Ls st) rfl hsize (argsL := argsL) (rest := rest) hlen hs (by show 2 * 0 + _ ≤ _; omega) hd (fun _ _ => ⟨rfl, eT, hcl, hsl⟩)
  dsimp only [Pt.U, Pt.locs, Pt.cells, Pt.slots] at X1 l1 y1 z1 sp hQ
  subst l1 y1 z1
  exact own_run sp (k T1 v Lc X1 hQ)
/-- a constructor by its contract -/
theorem own_callI (X : Stand p l e R s m args below meth c T locs cells slots) (hx : p.tables.exec = Jvm.exec) (hZ : Z.Warmed39 s.vm) (hown : s.vm.findClass own = some m.cls) (hy1 : y.name = "<init>") (w1 : (Cond.methodLink own index y).before a0 Z = true) (w2 : (Cond.instanceMethod y).before a0 Z = true) (w3 : (Cond.initialized y.cls).before a0 Z = true) (w4 : (Cond.code y bytes maxL none).before a0 Z = true) (hy : y.cls ≠ "java/lang/invoke/MethodHandle" ∧ y.cls ≠ "java/lang/invoke/VarHandle")
    (hM : MetFree l y (head1 [Cond.code y bytes maxL none] rm) (fun a U => a = (.ref b :: argsL).toArray ∧ Z.Warmed39 U.vm ∧ U.heap = h) (fun _ _ _ _ _ => True) (fun _ U o U' => ∃ v L, o = .returned v ∧ Q' v U'.heap L ∧ FrameEnd U o U' L rm.cells rm.slots)) (eT : T.heap = h) (hf : rm.frames + 1 ≤ R.frames) (hl : W + (maxL + 11) + rm.locals ≤ R.locals) (hcl : cells + rm.cells ≤ R.cells) (hsl : slots + rm.slots ≤ R.slots) (hsize : Ls.size = c.maxLocals)
    (hlen : ∀ sig, parseMethodDescriptor y.desc = some sig → argsL.length = sig.parameters.length) (hs : st = argsL.reverse ++ .ref b :: rest) (hW : (rest.map fun v => v.category).sum ≤ W) (hd : decode c.code pc = .ok (.invokespecial index, 3))
    (k : ∀ T' v L, Stand p l e R s m args below meth c T' (locs ++ L) (cells + rm.cells) (slots + rm.slots) → Q' v T'.heap L → own_Run p e below s CC SS Q T' (mkF m (pc + 3) Ls (v.toList ++ rest))) : own_Run p e below s CC SS Q T (mkF m pc Ls st) := by
  obtain ⟨v, _, ⟨T1, L1, k1, n1⟩, -, X1, ⟨Lc, hQ, l1, y1, z1⟩, sp⟩ := X.specialBack hx (y := y) hy1 hown (mvT hZ w1) (mvT hZ w2) (mvT hZ w4) hy (backOf (W := W) hM hZ w4 w3 hf hl) (g := mkF m pc Ls st) rfl hsize (Steps.refl _) (a := b) (argsL := argsL) (rest := rest) hlen hs (by show 2 * 0 + _ ≤ _; omega) hd (fun _ _ => ⟨rfl, eT, hcl, hsl⟩)
  dsimp only [Pt.U, Pt.locs, Pt.cells, Pt.slots] at X1 l1 y1 z1 sp hQ
  subst l1 y1 z1
  exact own_run (fun t kt => sp.trans kt) (k T1 v Lc X1 hQ)
/-- an instance method by its contract -/
theorem own_callV {K : String} (X : Stand p l e R s m args below meth c T locs cells slots) (hx : p.tables.exec = Jvm.exec) (hZ : Z.Warmed39 s.vm) (hown : s.vm.findClass own = some m.cls) (w1 : (Cond.methodLink own index y).before a0 Z = true) (w2 : (Cond.declares y).before a0 Z = true) (w5 : (Cond.selects K y y).before a0 Z = true) (w6 : (Cond.instanceMethod y).before a0 Z = true) (w3 : (Cond.initialized y.cls).before a0 Z = true) (w4 : (Cond.code y bytes maxL ret).before a0 Z = true) (hy : y.cls ≠ "java/lang/invoke/MethodHandle" ∧ y.cls ≠ "java/lang/invoke/VarHandle") (E : Exa Z h b K)
    (hM : MetFree l y (head1 [Cond.code y bytes maxL ret] rm) (fun a U => a = (.ref b :: argsL).toArray ∧ Z.Warmed39 U.vm ∧ U.heap = h) (fun _ _ _ _ _ => True) (fun _ U o U' => ∃ v L, o = .returned v ∧ Q' v U'.heap L ∧ FrameEnd U o U' L rm.cells rm.slots)) (eT : T.heap = h) (hf : rm.frames + 1 ≤ R.frames) (hl : W + (maxL + 11) + rm.locals ≤ R.locals) (hcl : cells + rm.cells ≤ R.cells) (hsl : slots + rm.slots ≤ R.slots) (hsize : Ls.size = c.maxLocals)
    (hlen : ∀ sig, parseMethodDescriptor y.desc = some sig → argsL.length = sig.parameters.length) (hs : st = argsL.reverse ++ .ref b :: rest) (hW : (rest.map fun v => v.category).sum ≤ W) (hd : decode c.code pc = .ok (.invokevirtual index, 3))
    (k : ∀ T' v L, Stand p l e R s m args below meth c T' (locs ++ L) (cells + rm.cells) (slots + rm.slots) → Q' v T'.heap L → own_Run p e below s CC SS Q T' (mkF m (pc + 3) Ls (v.toList ++ rest))) : own_Run p e below s CC SS Q T (mkF m pc Ls st) := by
  obtain ⟨cq, kq, qa, qb, qc⟩ := isOf hZ eT E
  obtain ⟨v, _, ⟨T1, L1, k1, n1⟩, -, X1, ⟨Lc, hQ, l1, y1, z1⟩, sp⟩ := X.virtualBack hx (y := y) (z := y) hown (mvT hZ w1) (mvT hZ w2) (notFace_of_selects (args := #[]) (mvT hZ w5)) (mvT hZ w5) (mvT hZ w6) hy (backOf (W := W) hM hZ w4 w3 hf hl) qa qc (g := mkF m pc Ls st) rfl hsize (Steps.refl _) (argsL := argsL) (rest := rest) hlen hs (by show 2 * 0 + _ ≤ _; omega) hd (fun _ _ => ⟨rfl, eT, hcl, hsl⟩)
  dsimp only [Pt.U, Pt.locs, Pt.cells, Pt.slots] at X1 l1 y1 z1 sp hQ
  subst l1 y1 z1
  exact own_run (fun t kt => sp.trans kt) (k T1 v Lc X1 hQ)
/-- a private instance method by its contract -/
theorem own_callP {kk : Nat} {K : String} (X : Stand p l e R s m args below meth c T locs cells slots) (hx : p.tables.exec = Jvm.exec) (hZ : Z.Warmed39 s.vm) (hown : s.vm.findClass own = some m.cls) (w1 : (Cond.methodLink own index y).before a0 Z = true) (w2 : (Cond.instanceMethod y).before a0 Z = true) (wi : (Cond.instantiable y.cls kk).before a0 Z = true) (wp : (Cond.privateMethod y).before a0 Z = true) (w3 : (Cond.initialized y.cls).before a0 Z = true) (w4 : (Cond.code y bytes maxL ret).before a0 Z = true) (hy : y.cls ≠ "java/lang/invoke/MethodHandle" ∧ y.cls ≠ "java/lang/invoke/VarHandle") (E : Exa Z h b K)
    (hM : MetFree l y (head1 [Cond.code y bytes maxL ret] rm) (fun a U => a = (.ref b :: argsL).toArray ∧ Z.Warmed39 U.vm ∧ U.heap = h) (fun _ _ _ _ _ => True) (fun _ U o U' => ∃ v L, o = .returned v ∧ Q' v U'.heap L ∧ FrameEnd U o U' L rm.cells rm.slots)) (eT : T.heap = h) (hf : rm.frames + 1 ≤ R.frames) (hl : W + (maxL + 11) + rm.locals ≤ R.locals) (hcl : cells + rm.cells ≤ R.cells) (hsl : slots + rm.slots ≤ R.slots) (hsize : Ls.size = c.maxLocals)
    (hlen : ∀ sig, parseMethodDescriptor y.desc = some sig → argsL.length = sig.parameters.length) (hs : st = argsL.reverse ++ .ref b :: rest) (hW : (rest.map fun v => v.category).sum ≤ W) (hd : decode c.code pc = .ok (.invokevirtual index, 3))
    (k : ∀ T' v L, Stand p l e R s m args below meth c T' (locs ++ L) (cells + rm.cells) (slots + rm.slots) → Q' v T'.heap L → own_Run p e below s CC SS Q T' (mkF m (pc + 3) Ls (v.toList ++ rest))) : own_Run p e below s CC SS Q T (mkF m pc Ls st) := by
  obtain ⟨cq, q1, q2⟩ := E.cell
  obtain ⟨cI, kI, hc, hk, -, hniab, -, -⟩ := Cond.instantiable_spec (mvT (args := args) hZ wi)
  have hni : kI.isInterface = false := (Bool.or_eq_false_iff.mp hniab).1
  have hpriv : s.PrivateAt y := Cond.privateMethod_at (mvP hZ wp (args := #[]))
  have hsel : (Cond.selects y.cls y y).before args s = true := selects_self_of_private hc hk hni hpriv (mvT hZ w2) hy
  obtain ⟨v, _, ⟨T1, L1, k1, n1⟩, -, X1, ⟨Lc, hQ, l1, y1, z1⟩, sp⟩ := X.privateBack hx (y := y) hown (mvT hZ w1) (mvT hZ w2) hsel hpriv (mvT hZ w4) hy (backOf (W := W) hM hZ w4 w3 hf hl) (g := mkF m pc Ls st) rfl hsize (Steps.refl _) (a := b) (by rw [eT]; exact q1) q2 (argsL := argsL) (rest := rest) hlen hs (by show 2 * 0 + _ ≤ _; omega) hd (fun _ _ => ⟨rfl, eT, hcl, hsl⟩)
  dsimp only [Pt.U, Pt.locs, Pt.cells, Pt.slots] at X1 l1 y1 z1 sp hQ
  subst l1 y1 z1
  exact own_run (fun t kt => sp.trans kt) (k T1 v Lc X1 hQ)
end Own
theorem own_pn6 : plainName "java/util/AbstractCollection" = true := by first | (simp [plainName, overriddenIn]; done) | decide +kernel
theorem own_ef6 (m : MethodId) (o0 : Addr) : entryFrame m #[(.ref o0)] 1 = mkF m 0 #[.val (.ref o0)] [] := by first | (simp [entryFrame, mkF, argsToLocals, Value.category]; done) | rfl
def own_R6 : Room := ({ frames := 1, cells := 0, slots := 0, locals := 12 } : Room)
def Q6 (h0 : Heap) (n0 : Nat) (v : Option Value) (h : Heap) (L : List Loc) : Prop := v = none ∧ Fr n0 L ∧ h = h0
theorem d6_0 : decode jdk_22_method_1_code 0 = .ok (.aload_n 0, 1) := by decide +kernel
theorem d6_1 : decode jdk_22_method_1_code 1 = .ok (.invokespecial 1, 3) := by decide +kernel
theorem d6_4 : decode jdk_22_method_1_code 4 = .ok (.return_, 1) := by decide +kernel
set_option maxRecDepth 65536 in
set_option maxHeartbeats 40000000 in
theorem rm6 (l : Launch) (Z : State) (a0 : Array Value) (hw : ∀ d ∈ tables_1, d.before a0 Z = true) (ws : List Jvm.Cond) (o0 : Addr) (h0 : Heap) (n0 : Nat) :
    MetFree l (⟨"java/util/AbstractCollection", "<init>", "()V"⟩ : MethodName) (head1 (Jvm.Cond.code (⟨"java/util/AbstractCollection", "<init>", "()V"⟩ : MethodName) jdk_22_method_1_code 1 none :: ws) own_R6) (fun a U => a = #[(.ref o0)] ∧ Z.Warmed39 U.vm ∧ U.heap = h0) (fun _ _ _ _ _ => True) (fun _ U o U' => ∃ v L, o = .returned v ∧ Q6 h0 n0 v U'.heap L ∧ FrameEnd U o U' L own_R6.cells own_R6.slots) := by
  refine MetFree.of_bodySF (plainFor_of_name own_pn6) hisR ?_
  intro p e s m args below meth c s₁ Bd hml0 hP hK
  obtain ⟨ha, hZ, hh⟩ := hP
  have hx := Bd.exec
  have hby := Bd.bytes
  have hml : c.maxLocals = 1 := hml0
  have hown : s.vm.findClass "java/util/AbstractCollection" = some m.cls := findClass_of_methodNamed Bd.named
  have hnm := (name_of_methodNamed Bd.named Bd.method).1
  have X0 : Stand p l e own_R6 s m args below meth c s₁ [] 0 0 := Stand.of_body Bd
  have e0 : s₁.heap = h0 := by rw [← hh, Bd.state]; rfl
  have N0 := Fr.nil n0
  refine own_enter (Q := (Q6 h0 n0)) (g := mkF m 0 #[.val (.ref o0)] []) (by rw [ha]; exact own_ef6 m o0) ?_
  refine own_run (g' := (mkF m 1 #[.val (.ref o0)] [(.ref o0)])) (fun _ kt => XS.aloadN X0.here hx rfl (hb hby d6_0) rfl rfl (kt)) ?_
  refine own_initO X0 hx hZ hown (hw _ (List.mem_of_getElem? (i := 33) rfl)) (hw _ (List.mem_of_getElem? (i := 34) rfl)) (hw _ (List.mem_of_getElem? (i := 35) rfl)) e0 (by rw [hml]; rfl) (hb hby d6_1) (by decide) (W := 0) (Nat.le_of_eq rfl) (by decide) ?_
  intro T1 X1 e1
  exact own_retV X1 hx Bd.notSynchronized Bd.returns (hb hby d6_4) (by decide) (by decide) ⟨rfl, N0, e1⟩
theorem own_pn5 : plainName "java/util/AbstractList" = true := by first | (simp [plainName, overriddenIn]; done) | decide +kernel
theorem own_ef5 (m : MethodId) (o0 : Addr) : entryFrame m #[(.ref o0)] 1 = mkF m 0 #[.val (.ref o0)] [] := by first | (simp [entryFrame, mkF, argsToLocals, Value.category]; done) | rfl
def own_R5 : Room := ({ frames := 2, cells := 0, slots := 0, locals := 24 } : Room)
def Q5 (Z : State) (o0 : Addr) (h0 : Heap) (n0 : Nat) (v : Option Value) (h : Heap) (L : List Loc) : Prop := v = none ∧ Fr n0 L ∧ Keep h0 h [o0] ∧ Fld Z h o0 "java/util/AbstractList" "modCount" "I" (.int (0 : Int32)) ∧ Fld Z h o0 "java/util/ArrayList" "elementData" "[Ljava/lang/Object;" .null
theorem own_pd0 : parseMethodDescriptor "()V" = some ⟨[], none⟩ := by decide +kernel
theorem d5_0 : decode jdk_39_method_1_code 0 = .ok (.aload_n 0, 1) := by decide +kernel
theorem d5_1 : decode jdk_39_method_1_code 1 = .ok (.invokespecial 1, 3) := by decide +kernel
theorem d5_4 : decode jdk_39_method_1_code 4 = .ok (.aload_n 0, 1) := by decide +kernel
theorem d5_5 : decode jdk_39_method_1_code 5 = .ok (.iconst 0, 1) := by decide +kernel
theorem d5_6 : decode jdk_39_method_1_code 6 = .ok (.putfield 7, 3) := by decide +kernel
theorem d5_9 : decode jdk_39_method_1_code 9 = .ok (.return_, 1) := by decide +kernel
set_option maxRecDepth 65536 in
set_option maxHeartbeats 40000000 in
theorem rm5 (l : Launch) (Z : State) (a0 : Array Value) (hw : ∀ d ∈ tables_1, d.before a0 Z = true) (ws : List Jvm.Cond) (o0 : Addr) (h0 : Heap) (n0 : Nat) (Z0 : n0 ≤ h0.size) (K0 : Exa Z h0 o0 "java/util/ArrayList") (F0_0 : Fld Z h0 o0 "java/util/AbstractList" "modCount" "I" (.int (0 : Int32))) (F0_1 : Fld Z h0 o0 "java/util/ArrayList" "elementData" "[Ljava/lang/Object;" .null) (g_o0 : n0 ≤ o0) :
    MetFree l (⟨"java/util/AbstractList", "<init>", "()V"⟩ : MethodName) (head1 (Jvm.Cond.code (⟨"java/util/AbstractList", "<init>", "()V"⟩ : MethodName) jdk_39_method_1_code 1 none :: ws) own_R5) (fun a U => a = #[(.ref o0)] ∧ Z.Warmed39 U.vm ∧ U.heap = h0) (fun _ _ _ _ _ => True) (fun _ U o U' => ∃ v L, o = .returned v ∧ Q5 Z o0 h0 n0 v U'.heap L ∧ FrameEnd U o U' L own_R5.cells own_R5.slots) := by
  refine MetFree.of_bodySF (plainFor_of_name own_pn5) hisR ?_
  intro p e s m args below meth c s₁ Bd hml0 hP hK
  obtain ⟨ha, hZ, hh⟩ := hP
  have hx := Bd.exec
  have hby := Bd.bytes
  have hml : c.maxLocals = 1 := hml0
  have hown : s.vm.findClass "java/util/AbstractList" = some m.cls := findClass_of_methodNamed Bd.named
  have hnm := (name_of_methodNamed Bd.named Bd.method).1
  have X0 : Stand p l e own_R5 s m args below meth c s₁ [] 0 0 := Stand.of_body Bd
  have e0 : s₁.heap = h0 := by rw [← hh, Bd.state]; rfl
  have N0 := Fr.nil n0
  refine own_enter (Q := (Q5 Z o0 h0 n0)) (g := mkF m 0 #[.val (.ref o0)] []) (by rw [ha]; exact own_ef5 m o0) ?_
  refine own_run (g' := (mkF m 1 #[.val (.ref o0)] [(.ref o0)])) (fun _ kt => XS.aloadN X0.here hx rfl (hb hby d5_0) rfl rfl (kt)) ?_
  refine own_callI (b := o0) X0 hx hZ hown rfl (hw _ (List.mem_of_getElem? (i := 27) rfl)) (hw _ (List.mem_of_getElem? (i := 28) rfl)) (hw _ (List.mem_of_getElem? (i := 31) rfl)) (hw _ (List.mem_of_getElem? (i := 32) rfl)) (by decide) (rm6 l Z a0 hw [] o0 h0 n0) e0 (by decide) (by decide) (by decide) (by decide) (by rw [hml]; rfl) (argsL := []) (rest := []) (lenOf own_pd0 rfl) rfl (W := 0) (Nat.le_of_eq rfl) (hb hby d5_1) ?_
  intro T1 r1 L1 X1 hQ1
  obtain ⟨rfl, Nq1, e1⟩ := hQ1
  have N1 := Fr.app N0 Nq1
  refine own_run (g' := (mkF m 6 #[.val (.ref o0)] [(.int (0 : Int32)), (.ref o0)])) (fun _ kt => XS.aloadN X1.here hx rfl (hb hby d5_4) rfl rfl (XS.iconst X1.here hx rfl (hb hby d5_5) (kt))) ?_
  refine own_putF X1 hx hZ hown (host := "") (Or.inl (hw _ (List.mem_of_getElem? (i := 36) rfl))) Via.refl e1 F0_0 K0 (Or.inl (hw _ (List.mem_of_getElem? (i := 37) rfl))) (hw _ (List.mem_of_getElem? (i := 16) rfl)) (ty := .int) (by decide) rfl rfl N1 g_o0 (hb hby d5_6) ?_
  intro T2 h2 L2 X2 N2 e2 W2 F2
  replace K0 := K0.wr W2
  replace F0_1 := F0_1.other W2 (Or.inr (slot_ne (Or.inl (hw _ (List.mem_of_getElem? (i := 40) rfl))) (Or.inl (hw _ (List.mem_of_getElem? (i := 37) rfl))) (by decide) (t := (.array (.object "java/lang/Object"))) (t' := .int) (by decide) (by decide)))
  have KpW2 : Keep h0 h2 [o0] := Keep.wr (Keep.refl h0 [o0]) W2 (Or.inl (List.mem_of_getElem? (i := 0) rfl))
  have ZW2 : n0 ≤ h2.size := Nat.le_trans Z0 (Keep.of_wr W2).1
  exact own_retV X2 hx Bd.notSynchronized Bd.returns (hb hby d5_9) (by decide) (by decide) (by rw [e2]; exact ⟨rfl, N2, KpW2, F2, F0_1⟩)
theorem own_pn4 : plainName "java/util/ArrayList" = true := by first | (simp [plainName, overriddenIn]; done) | decide +kernel
theorem own_ef4 (m : MethodId) (o0 : Addr) : entryFrame m #[(.ref o0)] 1 = mkF m 0 #[.val (.ref o0)] [] := by first | (simp [entryFrame, mkF, argsToLocals, Value.category]; done) | rfl
def own_R4 : Room := ({ frames := 3, cells := 0, slots := 0, locals := 36 } : Room)
def Q4 (Z : State) (o0 : Addr) (u : Addr) (h0 : Heap) (n0 : Nat) (v : Option Value) (h : Heap) (L : List Loc) : Prop := v = none ∧ Fr n0 L ∧ Keep h0 h [o0] ∧ Fld Z h o0 "java/util/AbstractList" "modCount" "I" (.int (0 : Int32)) ∧ Fld Z h o0 "java/util/ArrayList" "elementData" "[Ljava/lang/Object;" (.ref u)
theorem d4_0 : decode jdk_38_method_2_code 0 = .ok (.aload_n 0, 1) := by decide +kernel
theorem d4_1 : decode jdk_38_method_2_code 1 = .ok (.invokespecial 1, 3) := by decide +kernel
theorem d4_4 : decode jdk_38_method_2_code 4 = .ok (.aload_n 0, 1) := by decide +kernel
theorem d4_5 : decode jdk_38_method_2_code 5 = .ok (.getstatic 39, 3) := by decide +kernel
theorem d4_8 : decode jdk_38_method_2_code 8 = .ok (.putfield 9, 3) := by decide +kernel
theorem d4_11 : decode jdk_38_method_2_code 11 = .ok (.return_, 1) := by decide +kernel
set_option maxRecDepth 65536 in
set_option maxHeartbeats 40000000 in
theorem rm4 (l : Launch) (Z : State) (a0 : Array Value) (hw : ∀ d ∈ tables_1, d.before a0 Z = true) (ws : List Jvm.Cond) (o0 : Addr) (u : Addr) (h0 : Heap) (n0 : Nat) (Z0 : n0 ≤ h0.size) (K0 : Exa Z h0 o0 "java/util/ArrayList") (F0_0 : Fld Z h0 o0 "java/util/AbstractList" "modCount" "I" (.int (0 : Int32))) (F0_1 : Fld Z h0 o0 "java/util/ArrayList" "elementData" "[Ljava/lang/Object;" .null) (g_o0 : n0 ≤ o0) (S0 : Sta Z h0 "java/util/ArrayList" "DEFAULTCAPACITY_EMPTY_ELEMENTDATA" "[Ljava/lang/Object;" (.ref u)) :
    MetFree l (⟨"java/util/ArrayList", "<init>", "()V"⟩ : MethodName) (head1 (Jvm.Cond.code (⟨"java/util/ArrayList", "<init>", "()V"⟩ : MethodName) jdk_38_method_2_code 1 none :: ws) own_R4) (fun a U => a = #[(.ref o0)] ∧ Z.Warmed39 U.vm ∧ U.heap = h0) (fun _ _ _ _ _ => True) (fun _ U o U' => ∃ v L, o = .returned v ∧ Q4 Z o0 u h0 n0 v U'.heap L ∧ FrameEnd U o U' L own_R4.cells own_R4.slots) := by
  refine MetFree.of_bodySF (plainFor_of_name own_pn4) hisR ?_
  intro p e s m args below meth c s₁ Bd hml0 hP hK
  obtain ⟨ha, hZ, hh⟩ := hP
  have hx := Bd.exec
  have hby := Bd.bytes
  have hml : c.maxLocals = 1 := hml0
  have hown : s.vm.findClass "java/util/ArrayList" = some m.cls := findClass_of_methodNamed Bd.named
  have hnm := (name_of_methodNamed Bd.named Bd.method).1
  have X0 : Stand p l e own_R4 s m args below meth c s₁ [] 0 0 := Stand.of_body Bd
  have e0 : s₁.heap = h0 := by rw [← hh, Bd.state]; rfl
  have N0 := Fr.nil n0
  refine own_enter (Q := (Q4 Z o0 u h0 n0)) (g := mkF m 0 #[.val (.ref o0)] []) (by rw [ha]; exact own_ef4 m o0) ?_
  refine own_run (g' := (mkF m 1 #[.val (.ref o0)] [(.ref o0)])) (fun _ kt => XS.aloadN X0.here hx rfl (hb hby d4_0) rfl rfl (kt)) ?_
  refine own_callI (b := o0) X0 hx hZ hown rfl (hw _ (List.mem_of_getElem? (i := 21) rfl)) (hw _ (List.mem_of_getElem? (i := 22) rfl)) (hw _ (List.mem_of_getElem? (i := 25) rfl)) (hw _ (List.mem_of_getElem? (i := 26) rfl)) (by decide) (rm5 l Z a0 hw [] o0 h0 n0 Z0 K0 F0_0 F0_1 g_o0) e0 (by decide) (by decide) (by decide) (by decide) (by rw [hml]; rfl) (argsL := []) (rest := []) (lenOf own_pd0 rfl) rfl (W := 0) (Nat.le_of_eq rfl) (hb hby d4_1) ?_
  intro T1 r1 L1 X1 hQ1
  obtain ⟨rfl, Nq1, Kc1, F1_0, F1_1⟩ := hQ1
  have N1 := Fr.app N0 Nq1
  replace S0 := own_StaKeep S0 Kc1 K0
  replace K0 := K0.keep Kc1
  have Z1 : n0 ≤ T1.heap.size := Nat.le_trans Z0 Kc1.1
  have Kp1 : Keep h0 T1.heap [o0] := Keep.trans (Keep.refl h0 [o0]) Kc1 (allS (Or.inl (List.mem_of_getElem? (i := 0) rfl)) all0)
  refine own_run (g' := (mkF m 5 #[.val (.ref o0)] [(.ref o0)])) (fun _ kt => XS.aloadN X1.here hx rfl (hb hby d4_4) rfl rfl (kt)) ?_
  refine own_getS X1 hx hZ hown (hw _ (List.mem_of_getElem? (i := 38) rfl)) Via.refl rfl S0 (hb hby d4_5) ?_
  intro T2 X2 e2
  refine own_putF X2 hx hZ hown (host := "") (Or.inl (hw _ (List.mem_of_getElem? (i := 39) rfl))) Via.refl e2 F1_1 K0 (Or.inl (hw _ (List.mem_of_getElem? (i := 40) rfl))) (hw _ (List.mem_of_getElem? (i := 16) rfl)) (ty := (.array (.object "java/lang/Object"))) (by decide) rfl rfl N1 g_o0 (hb hby d4_8) ?_
  intro T3 h3 L3 X3 N3 e3 W3 F3
  replace K0 := K0.wr W3
  replace S0 := S0.wr W3
  replace F1_0 := F1_0.other W3 (Or.inr (slot_ne (Or.inl (hw _ (List.mem_of_getElem? (i := 37) rfl))) (Or.inl (hw _ (List.mem_of_getElem? (i := 40) rfl))) (by decide) (t := .int) (t' := (.array (.object "java/lang/Object"))) (by decide) (by decide)))
  have KpW3 : Keep h0 h3 [o0] := Keep.wr Kp1 W3 (Or.inl (List.mem_of_getElem? (i := 0) rfl))
  have ZW3 : n0 ≤ h3.size := Nat.le_trans Z1 (Keep.of_wr W3).1
  exact own_retV X3 hx Bd.notSynchronized Bd.returns (hb hby d4_11) (by decide) (by decide) (by rw [e3]; exact ⟨rfl, N3, KpW3, F1_0, F3⟩)
theorem own_pn8 : plainName "com/example/lugha/lugha/concepts/PageGroups" = true := by first | (simp [plainName, overriddenIn]; done) | decide +kernel
theorem own_ef8 (m : MethodId) (o0 : Addr) (o1 : Addr) (o2 : Addr) (o4 : Addr) (o5 : Addr) (o6 : Addr) (p7 : Int32) : entryFrame m #[(.ref o0), (.ref o1), (.ref o2), .null, (.ref o4), (.ref o5), (.ref o6), (.int p7)] 8 = mkF m 0 #[.val (.ref o0), .val (.ref o1), .val (.ref o2), .val .null, .val (.ref o4), .val (.ref o5), .val (.ref o6), .val (.int p7)] [] := by first | (simp [entryFrame, mkF, argsToLocals, Value.category]; done) | rfl
def own_R8 : Room := ({ frames := 1, cells := 0, slots := 0, locals := 13 } : Room)
def Q8 (Z : State) (o0 : Addr) (o1 : Addr) (o2 : Addr) (o4 : Addr) (o5 : Addr) (o6 : Addr) (p7 : Int32) (h0 : Heap) (n0 : Nat) (v : Option Value) (h : Heap) (L : List Loc) : Prop := v = none ∧ Fr n0 L ∧ Keep h0 h [o0] ∧ Fld Z h o0 "com/example/lugha/lugha/concepts/PageGroups" "tables" "Ljava/util/List;" (.ref o1) ∧ Fld Z h o0 "com/example/lugha/lugha/concepts/PageGroups" "offsets" "[I" (.ref o2) ∧ Fld Z h o0 "com/example/lugha/lugha/concepts/PageGroups" "ids" "Ljava/util/List;" .null ∧ Fld Z h o0 "com/example/lugha/lugha/concepts/PageGroups" "ranges" "[I" (.ref o4) ∧ Fld Z h o0 "com/example/lugha/lugha/concepts/PageGroups" "members" "[I" (.ref o5) ∧ Fld Z h o0 "com/example/lugha/lugha/concepts/PageGroups" "groupOfPage" "[I" (.ref o6) ∧ Fld Z h o0 "com/example/lugha/lugha/concepts/PageGroups" "fewLanguages" "I" (.int p7)
theorem d8_0 : decode prog_4_method_1_code 0 = .ok (.aload_n 0, 1) := by decide +kernel
theorem d8_1 : decode prog_4_method_1_code 1 = .ok (.invokespecial 1, 3) := by decide +kernel
theorem d8_4 : decode prog_4_method_1_code 4 = .ok (.aload_n 0, 1) := by decide +kernel
theorem d8_5 : decode prog_4_method_1_code 5 = .ok (.aload_n 1, 1) := by decide +kernel
theorem d8_6 : decode prog_4_method_1_code 6 = .ok (.putfield 7, 3) := by decide +kernel
theorem d8_9 : decode prog_4_method_1_code 9 = .ok (.aload_n 0, 1) := by decide +kernel
theorem d8_10 : decode prog_4_method_1_code 10 = .ok (.aload_n 2, 1) := by decide +kernel
theorem d8_11 : decode prog_4_method_1_code 11 = .ok (.putfield 13, 3) := by decide +kernel
theorem d8_14 : decode prog_4_method_1_code 14 = .ok (.aload_n 0, 1) := by decide +kernel
theorem d8_15 : decode prog_4_method_1_code 15 = .ok (.aload_n 3, 1) := by decide +kernel
theorem d8_16 : decode prog_4_method_1_code 16 = .ok (.putfield 17, 3) := by decide +kernel
theorem d8_19 : decode prog_4_method_1_code 19 = .ok (.aload_n 0, 1) := by decide +kernel
theorem d8_20 : decode prog_4_method_1_code 20 = .ok (.aload 4, 2) := by decide +kernel
theorem d8_22 : decode prog_4_method_1_code 22 = .ok (.putfield 20, 3) := by decide +kernel
theorem d8_25 : decode prog_4_method_1_code 25 = .ok (.aload_n 0, 1) := by decide +kernel
theorem d8_26 : decode prog_4_method_1_code 26 = .ok (.aload 5, 2) := by decide +kernel
theorem d8_28 : decode prog_4_method_1_code 28 = .ok (.putfield 23, 3) := by decide +kernel
theorem d8_31 : decode prog_4_method_1_code 31 = .ok (.aload_n 0, 1) := by decide +kernel
theorem d8_32 : decode prog_4_method_1_code 32 = .ok (.aload 6, 2) := by decide +kernel
theorem d8_34 : decode prog_4_method_1_code 34 = .ok (.putfield 26, 3) := by decide +kernel
theorem d8_37 : decode prog_4_method_1_code 37 = .ok (.aload_n 0, 1) := by decide +kernel
theorem d8_38 : decode prog_4_method_1_code 38 = .ok (.iload 7, 2) := by decide +kernel
theorem d8_40 : decode prog_4_method_1_code 40 = .ok (.putfield 29, 3) := by decide +kernel
theorem d8_43 : decode prog_4_method_1_code 43 = .ok (.return_, 1) := by decide +kernel
set_option maxRecDepth 65536 in
set_option maxHeartbeats 40000000 in
theorem rm8 (l : Launch) (Z : State) (a0 : Array Value) (hw : ∀ d ∈ tables_1, d.before a0 Z = true) (ws : List Jvm.Cond) (o0 : Addr) (o1 : Addr) (o2 : Addr) (o4 : Addr) (o5 : Addr) (o6 : Addr) (p7 : Int32) (h0 : Heap) (n0 : Nat) (Z0 : n0 ≤ h0.size) (K0 : Exa Z h0 o0 "com/example/lugha/lugha/concepts/PageGroups") (F0_0 : Fld Z h0 o0 "com/example/lugha/lugha/concepts/PageGroups" "tables" "Ljava/util/List;" .null) (F0_1 : Fld Z h0 o0 "com/example/lugha/lugha/concepts/PageGroups" "offsets" "[I" .null) (F0_2 : Fld Z h0 o0 "com/example/lugha/lugha/concepts/PageGroups" "ids" "Ljava/util/List;" .null) (F0_3 : Fld Z h0 o0 "com/example/lugha/lugha/concepts/PageGroups" "ranges" "[I" .null) (F0_4 : Fld Z h0 o0 "com/example/lugha/lugha/concepts/PageGroups" "members" "[I" .null) (F0_5 : Fld Z h0 o0 "com/example/lugha/lugha/concepts/PageGroups" "groupOfPage" "[I" .null) (F0_6 : Fld Z h0 o0 "com/example/lugha/lugha/concepts/PageGroups" "fewLanguages" "I" (.int (0 : Int32))) (g_o0 : n0 ≤ o0) :
    MetFree l (⟨"com/example/lugha/lugha/concepts/PageGroups", "<init>", "(Ljava/util/List;[ILjava/util/List;[I[I[II)V"⟩ : MethodName) (head1 (Jvm.Cond.code (⟨"com/example/lugha/lugha/concepts/PageGroups", "<init>", "(Ljava/util/List;[ILjava/util/List;[I[I[II)V"⟩ : MethodName) prog_4_method_1_code 8 none :: ws) own_R8) (fun a U => a = #[(.ref o0), (.ref o1), (.ref o2), .null, (.ref o4), (.ref o5), (.ref o6), (.int p7)] ∧ Z.Warmed39 U.vm ∧ U.heap = h0) (fun _ _ _ _ _ => True) (fun _ U o U' => ∃ v L, o = .returned v ∧ Q8 Z o0 o1 o2 o4 o5 o6 p7 h0 n0 v U'.heap L ∧ FrameEnd U o U' L own_R8.cells own_R8.slots) := by
  refine MetFree.of_bodySF (plainFor_of_name own_pn8) hisR ?_
  intro p e s m args below meth c s₁ Bd hml0 hP hK
  obtain ⟨ha, hZ, hh⟩ := hP
  have hx := Bd.exec
  have hby := Bd.bytes
  have hml : c.maxLocals = 8 := hml0
  have hown : s.vm.findClass "com/example/lugha/lugha/concepts/PageGroups" = some m.cls := findClass_of_methodNamed Bd.named
  have hnm := (name_of_methodNamed Bd.named Bd.method).1
  have X0 : Stand p l e own_R8 s m args below meth c s₁ [] 0 0 := Stand.of_body Bd
  have e0 : s₁.heap = h0 := by rw [← hh, Bd.state]; rfl
  have N0 := Fr.nil n0
  refine own_enter (Q := (Q8 Z o0 o1 o2 o4 o5 o6 p7 h0 n0)) (g := mkF m 0 #[.val (.ref o0), .val (.ref o1), .val (.ref o2), .val .null, .val (.ref o4), .val (.ref o5), .val (.ref o6), .val (.int p7)] []) (by rw [ha]; exact own_ef8 m o0 o1 o2 o4 o5 o6 p7) ?_
  refine own_run (g' := (mkF m 1 #[.val (.ref o0), .val (.ref o1), .val (.ref o2), .val .null, .val (.ref o4), .val (.ref o5), .val (.ref o6), .val (.int p7)] [(.ref o0)])) (fun _ kt => XS.aloadN X0.here hx rfl (hb hby d8_0) rfl rfl (kt)) ?_
  refine own_initO X0 hx hZ hown (hw _ (List.mem_of_getElem? (i := 44) rfl)) (hw _ (List.mem_of_getElem? (i := 34) rfl)) (hw _ (List.mem_of_getElem? (i := 35) rfl)) e0 (by rw [hml]; rfl) (hb hby d8_1) (by decide) (W := 0) (Nat.le_of_eq rfl) (by decide) ?_
  intro T1 X1 e1
  refine own_run (g' := (mkF m 6 #[.val (.ref o0), .val (.ref o1), .val (.ref o2), .val .null, .val (.ref o4), .val (.ref o5), .val (.ref o6), .val (.int p7)] [(.ref o1), (.ref o0)])) (fun _ kt => XS.aloadN X1.here hx rfl (hb hby d8_4) rfl rfl (XS.aloadN X1.here hx rfl (hb hby d8_5) rfl rfl (kt))) ?_
  refine own_putF X1 hx hZ hown (host := "") (Or.inl (hw _ (List.mem_of_getElem? (i := 45) rfl))) Via.refl e1 F0_0 K0 (Or.inr ⟨(hw _ (List.mem_of_getElem? (i := 46) rfl)), rfl, hnm⟩) (hw _ (List.mem_of_getElem? (i := 13) rfl)) (ty := (.object "java/util/List")) (by decide) rfl rfl N0 g_o0 (hb hby d8_6) ?_
  intro T2 h2 L2 X2 N2 e2 W2 F2
  replace K0 := K0.wr W2
  replace F0_1 := F0_1.other W2 (Or.inr (slot_ne (Or.inr (hw _ (List.mem_of_getElem? (i := 48) rfl))) (Or.inr (hw _ (List.mem_of_getElem? (i := 46) rfl))) (by decide) (t := (.array .int)) (t' := (.object "java/util/List")) (by decide) (by decide)))
  replace F0_2 := F0_2.other W2 (Or.inr (slot_ne (Or.inr (hw _ (List.mem_of_getElem? (i := 50) rfl))) (Or.inr (hw _ (List.mem_of_getElem? (i := 46) rfl))) (by decide) (t := (.object "java/util/List")) (t' := (.object "java/util/List")) (by decide) (by decide)))
  replace F0_3 := F0_3.other W2 (Or.inr (slot_ne (Or.inr (hw _ (List.mem_of_getElem? (i := 52) rfl))) (Or.inr (hw _ (List.mem_of_getElem? (i := 46) rfl))) (by decide) (t := (.array .int)) (t' := (.object "java/util/List")) (by decide) (by decide)))
  replace F0_4 := F0_4.other W2 (Or.inr (slot_ne (Or.inr (hw _ (List.mem_of_getElem? (i := 54) rfl))) (Or.inr (hw _ (List.mem_of_getElem? (i := 46) rfl))) (by decide) (t := (.array .int)) (t' := (.object "java/util/List")) (by decide) (by decide)))
  replace F0_5 := F0_5.other W2 (Or.inr (slot_ne (Or.inr (hw _ (List.mem_of_getElem? (i := 56) rfl))) (Or.inr (hw _ (List.mem_of_getElem? (i := 46) rfl))) (by decide) (t := (.array .int)) (t' := (.object "java/util/List")) (by decide) (by decide)))
  replace F0_6 := F0_6.other W2 (Or.inr (slot_ne (Or.inr (hw _ (List.mem_of_getElem? (i := 58) rfl))) (Or.inr (hw _ (List.mem_of_getElem? (i := 46) rfl))) (by decide) (t := .int) (t' := (.object "java/util/List")) (by decide) (by decide)))
  have KpW2 : Keep h0 h2 [o0] := Keep.wr (Keep.refl h0 [o0]) W2 (Or.inl (List.mem_of_getElem? (i := 0) rfl))
  have ZW2 : n0 ≤ h2.size := Nat.le_trans Z0 (Keep.of_wr W2).1
  refine own_run (g' := (mkF m 11 #[.val (.ref o0), .val (.ref o1), .val (.ref o2), .val .null, .val (.ref o4), .val (.ref o5), .val (.ref o6), .val (.int p7)] [(.ref o2), (.ref o0)])) (fun _ kt => XS.aloadN X2.here hx rfl (hb hby d8_9) rfl rfl (XS.aloadN X2.here hx rfl (hb hby d8_10) rfl rfl (kt))) ?_
  refine own_putF X2 hx hZ hown (host := "") (Or.inl (hw _ (List.mem_of_getElem? (i := 47) rfl))) Via.refl e2 F0_1 K0 (Or.inr ⟨(hw _ (List.mem_of_getElem? (i := 48) rfl)), rfl, hnm⟩) (hw _ (List.mem_of_getElem? (i := 13) rfl)) (ty := (.array .int)) (by decide) rfl rfl N2 g_o0 (hb hby d8_11) ?_
  intro T3 h3 L3 X3 N3 e3 W3 F3
  replace K0 := K0.wr W3
  replace F2 := F2.other W3 (Or.inr (slot_ne (Or.inr (hw _ (List.mem_of_getElem? (i := 46) rfl))) (Or.inr (hw _ (List.mem_of_getElem? (i := 48) rfl))) (by decide) (t := (.object "java/util/List")) (t' := (.array .int)) (by decide) (by decide)))
  replace F0_2 := F0_2.other W3 (Or.inr (slot_ne (Or.inr (hw _ (List.mem_of_getElem? (i := 50) rfl))) (Or.inr (hw _ (List.mem_of_getElem? (i := 48) rfl))) (by decide) (t := (.object "java/util/List")) (t' := (.array .int)) (by decide) (by decide)))
  replace F0_3 := F0_3.other W3 (Or.inr (slot_ne (Or.inr (hw _ (List.mem_of_getElem? (i := 52) rfl))) (Or.inr (hw _ (List.mem_of_getElem? (i := 48) rfl))) (by decide) (t := (.array .int)) (t' := (.array .int)) (by decide) (by decide)))
  replace F0_4 := F0_4.other W3 (Or.inr (slot_ne (Or.inr (hw _ (List.mem_of_getElem? (i := 54) rfl))) (Or.inr (hw _ (List.mem_of_getElem? (i := 48) rfl))) (by decide) (t := (.array .int)) (t' := (.array .int)) (by decide) (by decide)))
  replace F0_5 := F0_5.other W3 (Or.inr (slot_ne (Or.inr (hw _ (List.mem_of_getElem? (i := 56) rfl))) (Or.inr (hw _ (List.mem_of_getElem? (i := 48) rfl))) (by decide) (t := (.array .int)) (t' := (.array .int)) (by decide) (by decide)))
  replace F0_6 := F0_6.other W3 (Or.inr (slot_ne (Or.inr (hw _ (List.mem_of_getElem? (i := 58) rfl))) (Or.inr (hw _ (List.mem_of_getElem? (i := 48) rfl))) (by decide) (t := .int) (t' := (.array .int)) (by decide) (by decide)))
  have KpW3 : Keep h0 h3 [o0] := Keep.wr KpW2 W3 (Or.inl (List.mem_of_getElem? (i := 0) rfl))
  have ZW3 : n0 ≤ h3.size := Nat.le_trans ZW2 (Keep.of_wr W3).1
  refine own_run (g' := (mkF m 16 #[.val (.ref o0), .val (.ref o1), .val (.ref o2), .val .null, .val (.ref o4), .val (.ref o5), .val (.ref o6), .val (.int p7)] [.null, (.ref o0)])) (fun _ kt => XS.aloadN X3.here hx rfl (hb hby d8_14) rfl rfl (XS.aloadN X3.here hx rfl (hb hby d8_15) rfl rfl (kt))) ?_
  refine own_putF X3 hx hZ hown (host := "") (Or.inl (hw _ (List.mem_of_getElem? (i := 49) rfl))) Via.refl e3 F0_2 K0 (Or.inr ⟨(hw _ (List.mem_of_getElem? (i := 50) rfl)), rfl, hnm⟩) (hw _ (List.mem_of_getElem? (i := 13) rfl)) (ty := (.object "java/util/List")) (by decide) rfl rfl N3 g_o0 (hb hby d8_16) ?_
  intro T4 h4 L4 X4 N4 e4 W4 F4
  replace K0 := K0.wr W4
  replace F2 := F2.other W4 (Or.inr (slot_ne (Or.inr (hw _ (List.mem_of_getElem? (i := 46) rfl))) (Or.inr (hw _ (List.mem_of_getElem? (i := 50) rfl))) (by decide) (t := (.object "java/util/List")) (t' := (.object "java/util/List")) (by decide) (by decide)))
  replace F3 := F3.other W4 (Or.inr (slot_ne (Or.inr (hw _ (List.mem_of_getElem? (i := 48) rfl))) (Or.inr (hw _ (List.mem_of_getElem? (i := 50) rfl))) (by decide) (t := (.array .int)) (t' := (.object "java/util/List")) (by decide) (by decide)))
  replace F0_3 := F0_3.other W4 (Or.inr (slot_ne (Or.inr (hw _ (List.mem_of_getElem? (i := 52) rfl))) (Or.inr (hw _ (List.mem_of_getElem? (i := 50) rfl))) (by decide) (t := (.array .int)) (t' := (.object "java/util/List")) (by decide) (by decide)))
  replace F0_4 := F0_4.other W4 (Or.inr (slot_ne (Or.inr (hw _ (List.mem_of_getElem? (i := 54) rfl))) (Or.inr (hw _ (List.mem_of_getElem? (i := 50) rfl))) (by decide) (t := (.array .int)) (t' := (.object "java/util/List")) (by decide) (by decide)))
  replace F0_5 := F0_5.other W4 (Or.inr (slot_ne (Or.inr (hw _ (List.mem_of_getElem? (i := 56) rfl))) (Or.inr (hw _ (List.mem_of_getElem? (i := 50) rfl))) (by decide) (t := (.array .int)) (t' := (.object "java/util/List")) (by decide) (by decide)))
  replace F0_6 := F0_6.other W4 (Or.inr (slot_ne (Or.inr (hw _ (List.mem_of_getElem? (i := 58) rfl))) (Or.inr (hw _ (List.mem_of_getElem? (i := 50) rfl))) (by decide) (t := .int) (t' := (.object "java/util/List")) (by decide) (by decide)))
  have KpW4 : Keep h0 h4 [o0] := Keep.wr KpW3 W4 (Or.inl (List.mem_of_getElem? (i := 0) rfl))
  have ZW4 : n0 ≤ h4.size := Nat.le_trans ZW3 (Keep.of_wr W4).1
  refine own_run (g' := (mkF m 22 #[.val (.ref o0), .val (.ref o1), .val (.ref o2), .val .null, .val (.ref o4), .val (.ref o5), .val (.ref o6), .val (.int p7)] [(.ref o4), (.ref o0)])) (fun _ kt => XS.aloadN X4.here hx rfl (hb hby d8_19) rfl rfl (XS.aload X4.here hx rfl (hb hby d8_20) rfl rfl (kt))) ?_
  refine own_putF X4 hx hZ hown (host := "") (Or.inl (hw _ (List.mem_of_getElem? (i := 51) rfl))) Via.refl e4 F0_3 K0 (Or.inr ⟨(hw _ (List.mem_of_getElem? (i := 52) rfl)), rfl, hnm⟩) (hw _ (List.mem_of_getElem? (i := 13) rfl)) (ty := (.array .int)) (by decide) rfl rfl N4 g_o0 (hb hby d8_22) ?_
  intro T5 h5 L5 X5 N5 e5 W5 F5
  replace K0 := K0.wr W5
  replace F2 := F2.other W5 (Or.inr (slot_ne (Or.inr (hw _ (List.mem_of_getElem? (i := 46) rfl))) (Or.inr (hw _ (List.mem_of_getElem? (i := 52) rfl))) (by decide) (t := (.object "java/util/List")) (t' := (.array .int)) (by decide) (by decide)))
  replace F3 := F3.other W5 (Or.inr (slot_ne (Or.inr (hw _ (List.mem_of_getElem? (i := 48) rfl))) (Or.inr (hw _ (List.mem_of_getElem? (i := 52) rfl))) (by decide) (t := (.array .int)) (t' := (.array .int)) (by decide) (by decide)))
  replace F4 := F4.other W5 (Or.inr (slot_ne (Or.inr (hw _ (List.mem_of_getElem? (i := 50) rfl))) (Or.inr (hw _ (List.mem_of_getElem? (i := 52) rfl))) (by decide) (t := (.object "java/util/List")) (t' := (.array .int)) (by decide) (by decide)))
  replace F0_4 := F0_4.other W5 (Or.inr (slot_ne (Or.inr (hw _ (List.mem_of_getElem? (i := 54) rfl))) (Or.inr (hw _ (List.mem_of_getElem? (i := 52) rfl))) (by decide) (t := (.array .int)) (t' := (.array .int)) (by decide) (by decide)))
  replace F0_5 := F0_5.other W5 (Or.inr (slot_ne (Or.inr (hw _ (List.mem_of_getElem? (i := 56) rfl))) (Or.inr (hw _ (List.mem_of_getElem? (i := 52) rfl))) (by decide) (t := (.array .int)) (t' := (.array .int)) (by decide) (by decide)))
  replace F0_6 := F0_6.other W5 (Or.inr (slot_ne (Or.inr (hw _ (List.mem_of_getElem? (i := 58) rfl))) (Or.inr (hw _ (List.mem_of_getElem? (i := 52) rfl))) (by decide) (t := .int) (t' := (.array .int)) (by decide) (by decide)))
  have KpW5 : Keep h0 h5 [o0] := Keep.wr KpW4 W5 (Or.inl (List.mem_of_getElem? (i := 0) rfl))
  have ZW5 : n0 ≤ h5.size := Nat.le_trans ZW4 (Keep.of_wr W5).1
  refine own_run (g' := (mkF m 28 #[.val (.ref o0), .val (.ref o1), .val (.ref o2), .val .null, .val (.ref o4), .val (.ref o5), .val (.ref o6), .val (.int p7)] [(.ref o5), (.ref o0)])) (fun _ kt => XS.aloadN X5.here hx rfl (hb hby d8_25) rfl rfl (XS.aload X5.here hx rfl (hb hby d8_26) rfl rfl (kt))) ?_
  refine own_putF X5 hx hZ hown (host := "") (Or.inl (hw _ (List.mem_of_getElem? (i := 53) rfl))) Via.refl e5 F0_4 K0 (Or.inr ⟨(hw _ (List.mem_of_getElem? (i := 54) rfl)), rfl, hnm⟩) (hw _ (List.mem_of_getElem? (i := 13) rfl)) (ty := (.array .int)) (by decide) rfl rfl N5 g_o0 (hb hby d8_28) ?_
  intro T6 h6 L6 X6 N6 e6 W6 F6
  replace K0 := K0.wr W6
  replace F2 := F2.other W6 (Or.inr (slot_ne (Or.inr (hw _ (List.mem_of_getElem? (i := 46) rfl))) (Or.inr (hw _ (List.mem_of_getElem? (i := 54) rfl))) (by decide) (t := (.object "java/util/List")) (t' := (.array .int)) (by decide) (by decide)))
  replace F3 := F3.other W6 (Or.inr (slot_ne (Or.inr (hw _ (List.mem_of_getElem? (i := 48) rfl))) (Or.inr (hw _ (List.mem_of_getElem? (i := 54) rfl))) (by decide) (t := (.array .int)) (t' := (.array .int)) (by decide) (by decide)))
  replace F4 := F4.other W6 (Or.inr (slot_ne (Or.inr (hw _ (List.mem_of_getElem? (i := 50) rfl))) (Or.inr (hw _ (List.mem_of_getElem? (i := 54) rfl))) (by decide) (t := (.object "java/util/List")) (t' := (.array .int)) (by decide) (by decide)))
  replace F5 := F5.other W6 (Or.inr (slot_ne (Or.inr (hw _ (List.mem_of_getElem? (i := 52) rfl))) (Or.inr (hw _ (List.mem_of_getElem? (i := 54) rfl))) (by decide) (t := (.array .int)) (t' := (.array .int)) (by decide) (by decide)))
  replace F0_5 := F0_5.other W6 (Or.inr (slot_ne (Or.inr (hw _ (List.mem_of_getElem? (i := 56) rfl))) (Or.inr (hw _ (List.mem_of_getElem? (i := 54) rfl))) (by decide) (t := (.array .int)) (t' := (.array .int)) (by decide) (by decide)))
  replace F0_6 := F0_6.other W6 (Or.inr (slot_ne (Or.inr (hw _ (List.mem_of_getElem? (i := 58) rfl))) (Or.inr (hw _ (List.mem_of_getElem? (i := 54) rfl))) (by decide) (t := .int) (t' := (.array .int)) (by decide) (by decide)))
  have KpW6 : Keep h0 h6 [o0] := Keep.wr KpW5 W6 (Or.inl (List.mem_of_getElem? (i := 0) rfl))
  have ZW6 : n0 ≤ h6.size := Nat.le_trans ZW5 (Keep.of_wr W6).1
  refine own_run (g' := (mkF m 34 #[.val (.ref o0), .val (.ref o1), .val (.ref o2), .val .null, .val (.ref o4), .val (.ref o5), .val (.ref o6), .val (.int p7)] [(.ref o6), (.ref o0)])) (fun _ kt => XS.aloadN X6.here hx rfl (hb hby d8_31) rfl rfl (XS.aload X6.here hx rfl (hb hby d8_32) rfl rfl (kt))) ?_
  refine own_putF X6 hx hZ hown (host := "") (Or.inl (hw _ (List.mem_of_getElem? (i := 55) rfl))) Via.refl e6 F0_5 K0 (Or.inr ⟨(hw _ (List.mem_of_getElem? (i := 56) rfl)), rfl, hnm⟩) (hw _ (List.mem_of_getElem? (i := 13) rfl)) (ty := (.array .int)) (by decide) rfl rfl N6 g_o0 (hb hby d8_34) ?_
  intro T7 h7 L7 X7 N7 e7 W7 F7
  replace K0 := K0.wr W7
  replace F2 := F2.other W7 (Or.inr (slot_ne (Or.inr (hw _ (List.mem_of_getElem? (i := 46) rfl))) (Or.inr (hw _ (List.mem_of_getElem? (i := 56) rfl))) (by decide) (t := (.object "java/util/List")) (t' := (.array .int)) (by decide) (by decide)))
  replace F3 := F3.other W7 (Or.inr (slot_ne (Or.inr (hw _ (List.mem_of_getElem? (i := 48) rfl))) (Or.inr (hw _ (List.mem_of_getElem? (i := 56) rfl))) (by decide) (t := (.array .int)) (t' := (.array .int)) (by decide) (by decide)))
  replace F4 := F4.other W7 (Or.inr (slot_ne (Or.inr (hw _ (List.mem_of_getElem? (i := 50) rfl))) (Or.inr (hw _ (List.mem_of_getElem? (i := 56) rfl))) (by decide) (t := (.object "java/util/List")) (t' := (.array .int)) (by decide) (by decide)))
  replace F5 := F5.other W7 (Or.inr (slot_ne (Or.inr (hw _ (List.mem_of_getElem? (i := 52) rfl))) (Or.inr (hw _ (List.mem_of_getElem? (i := 56) rfl))) (by decide) (t := (.array .int)) (t' := (.array .int)) (by decide) (by decide)))
  replace F6 := F6.other W7 (Or.inr (slot_ne (Or.inr (hw _ (List.mem_of_getElem? (i := 54) rfl))) (Or.inr (hw _ (List.mem_of_getElem? (i := 56) rfl))) (by decide) (t := (.array .int)) (t' := (.array .int)) (by decide) (by decide)))
  replace F0_6 := F0_6.other W7 (Or.inr (slot_ne (Or.inr (hw _ (List.mem_of_getElem? (i := 58) rfl))) (Or.inr (hw _ (List.mem_of_getElem? (i := 56) rfl))) (by decide) (t := .int) (t' := (.array .int)) (by decide) (by decide)))
  have KpW7 : Keep h0 h7 [o0] := Keep.wr KpW6 W7 (Or.inl (List.mem_of_getElem? (i := 0) rfl))
  have ZW7 : n0 ≤ h7.size := Nat.le_trans ZW6 (Keep.of_wr W7).1
  refine own_run (g' := (mkF m 40 #[.val (.ref o0), .val (.ref o1), .val (.ref o2), .val .null, .val (.ref o4), .val (.ref o5), .val (.ref o6), .val (.int p7)] [(.int p7), (.ref o0)])) (fun _ kt => XS.aloadN X7.here hx rfl (hb hby d8_37) rfl rfl (XS.iload X7.here hx rfl (hb hby d8_38) rfl (kt))) ?_
  refine own_putF X7 hx hZ hown (host := "") (Or.inl (hw _ (List.mem_of_getElem? (i := 57) rfl))) Via.refl e7 F0_6 K0 (Or.inr ⟨(hw _ (List.mem_of_getElem? (i := 58) rfl)), rfl, hnm⟩) (hw _ (List.mem_of_getElem? (i := 13) rfl)) (ty := .int) (by decide) rfl rfl N7 g_o0 (hb hby d8_40) ?_
  intro T8 h8 L8 X8 N8 e8 W8 F8
  replace K0 := K0.wr W8
  replace F2 := F2.other W8 (Or.inr (slot_ne (Or.inr (hw _ (List.mem_of_getElem? (i := 46) rfl))) (Or.inr (hw _ (List.mem_of_getElem? (i := 58) rfl))) (by decide) (t := (.object "java/util/List")) (t' := .int) (by decide) (by decide)))
  replace F3 := F3.other W8 (Or.inr (slot_ne (Or.inr (hw _ (List.mem_of_getElem? (i := 48) rfl))) (Or.inr (hw _ (List.mem_of_getElem? (i := 58) rfl))) (by decide) (t := (.array .int)) (t' := .int) (by decide) (by decide)))
  replace F4 := F4.other W8 (Or.inr (slot_ne (Or.inr (hw _ (List.mem_of_getElem? (i := 50) rfl))) (Or.inr (hw _ (List.mem_of_getElem? (i := 58) rfl))) (by decide) (t := (.object "java/util/List")) (t' := .int) (by decide) (by decide)))
  replace F5 := F5.other W8 (Or.inr (slot_ne (Or.inr (hw _ (List.mem_of_getElem? (i := 52) rfl))) (Or.inr (hw _ (List.mem_of_getElem? (i := 58) rfl))) (by decide) (t := (.array .int)) (t' := .int) (by decide) (by decide)))
  replace F6 := F6.other W8 (Or.inr (slot_ne (Or.inr (hw _ (List.mem_of_getElem? (i := 54) rfl))) (Or.inr (hw _ (List.mem_of_getElem? (i := 58) rfl))) (by decide) (t := (.array .int)) (t' := .int) (by decide) (by decide)))
  replace F7 := F7.other W8 (Or.inr (slot_ne (Or.inr (hw _ (List.mem_of_getElem? (i := 56) rfl))) (Or.inr (hw _ (List.mem_of_getElem? (i := 58) rfl))) (by decide) (t := (.array .int)) (t' := .int) (by decide) (by decide)))
  have KpW8 : Keep h0 h8 [o0] := Keep.wr KpW7 W8 (Or.inl (List.mem_of_getElem? (i := 0) rfl))
  have ZW8 : n0 ≤ h8.size := Nat.le_trans ZW7 (Keep.of_wr W8).1
  exact own_retV X8 hx Bd.notSynchronized Bd.returns (hb hby d8_43) (by decide) (by decide) (by rw [e8]; exact ⟨rfl, N8, KpW8, F2, F3, F4, F5, F6, F7, F8⟩)
theorem own_pn11 : plainName "com/example/lugha/lugha/concepts/PageGroupsHasPinLaw" = true := by first | (simp [plainName, overriddenIn]; done) | decide +kernel
theorem own_ef11 (m : MethodId) (p0 : Int32) (p1 : Int32) (p2 : Int32) : entryFrame m #[(.int p0), (.int p1), (.int p2)] 3 = mkF m 0 #[.val (.int p0), .val (.int p1), .val (.int p2)] [] := by first | (simp [entryFrame, mkF, argsToLocals, Value.category]; done) | rfl
def own_R11 : Room := ({ frames := 0, cells := 0, slots := 0, locals := 0 } : Room)
def own_f11 (p0 : Int32) (p1 : Int32) (p2 : Int32) : Int32 := (if ((XT.ushr p0 ((2 : Int32) * p1)) &&& (3 : Int32)) = p2 then (1 : Int32) else (0 : Int32))
def Q11 (z : Int32) (h0 : Heap) (n0 : Nat) (v : Option Value) (h : Heap) (L : List Loc) : Prop := v = some (Value.int z) ∧ Fr n0 L ∧ h = h0
theorem d11_0 : decode method_3_code 0 = .ok (.iload_n 0, 1) := by decide +kernel
theorem d11_1 : decode method_3_code 1 = .ok (.iconst 2, 1) := by decide +kernel
theorem d11_2 : decode method_3_code 2 = .ok (.iload_n 1, 1) := by decide +kernel
theorem d11_3 : decode method_3_code 3 = .ok (.imul, 1) := by decide +kernel
theorem d11_4 : decode method_3_code 4 = .ok (.iushr, 1) := by decide +kernel
theorem d11_5 : decode method_3_code 5 = .ok (.iconst 3, 1) := by decide +kernel
theorem d11_6 : decode method_3_code 6 = .ok (.iand, 1) := by decide +kernel
theorem d11_7 : decode method_3_code 7 = .ok (.iload_n 2, 1) := by decide +kernel
theorem d11_8 : decode method_3_code 8 = .ok (.if_icmp .ne 7, 3) := by decide +kernel
theorem d11_11 : decode method_3_code 11 = .ok (.iconst 1, 1) := by decide +kernel
theorem d11_12 : decode method_3_code 12 = .ok (.goto 4, 3) := by decide +kernel
theorem d11_15 : decode method_3_code 15 = .ok (.iconst 0, 1) := by decide +kernel
theorem d11_16 : decode method_3_code 16 = .ok (.ireturn, 1) := by decide +kernel
set_option maxRecDepth 65536 in
set_option maxHeartbeats 40000000 in
theorem rm11 (l : Launch) (Z : State) (a0 : Array Value) (hw : ∀ d ∈ tables_1, d.before a0 Z = true) (ws : List Jvm.Cond) (p0 : Int32) (p1 : Int32) (p2 : Int32) (h0 : Heap) (n0 : Nat) :
    MetFree l (⟨"com/example/lugha/lugha/concepts/PageGroupsHasPinLaw", "in", "(III)Z"⟩ : MethodName) (head1 (Jvm.Cond.code (⟨"com/example/lugha/lugha/concepts/PageGroupsHasPinLaw", "in", "(III)Z"⟩ : MethodName) method_3_code 3 (some .boolean) :: ws) own_R11) (fun a U => a = #[(.int p0), (.int p1), (.int p2)] ∧ Z.Warmed39 U.vm ∧ U.heap = h0) (fun _ _ _ _ _ => True) (fun _ U o U' => ∃ v L, o = .returned v ∧ Q11 (own_f11 p0 p1 p2) h0 n0 v U'.heap L ∧ FrameEnd U o U' L own_R11.cells own_R11.slots) := by
  refine MetFree.of_bodySF (plainFor_of_name own_pn11) hisR ?_
  intro p e s m args below meth c s₁ Bd hml0 hP hK
  obtain ⟨ha, hZ, hh⟩ := hP
  have hx := Bd.exec
  have hby := Bd.bytes
  have hml : c.maxLocals = 3 := hml0
  have hown : s.vm.findClass "com/example/lugha/lugha/concepts/PageGroupsHasPinLaw" = some m.cls := findClass_of_methodNamed Bd.named
  have hnm := (name_of_methodNamed Bd.named Bd.method).1
  have X0 : Stand p l e own_R11 s m args below meth c s₁ [] 0 0 := Stand.of_body Bd
  have e0 : s₁.heap = h0 := by rw [← hh, Bd.state]; rfl
  have N0 := Fr.nil n0
  refine own_enter (Q := (Q11 (own_f11 p0 p1 p2) h0 n0)) (g := mkF m 0 #[.val (.int p0), .val (.int p1), .val (.int p2)] []) (by rw [ha]; exact own_ef11 m p0 p1 p2) ?_
  refine own_run (g' := (mkF m 8 #[.val (.int p0), .val (.int p1), .val (.int p2)] [(.int p2), (.int ((XT.ushr p0 ((2 : Int32) * p1)) &&& (3 : Int32)))])) (fun _ kt => XS.iloadN X0.here hx rfl (hb hby d11_0) rfl (XS.iconst X0.here hx rfl (hb hby d11_1) (XS.iloadN X0.here hx rfl (hb hby d11_2) rfl (XS.imul X0.here hx rfl (hb hby d11_3) rfl (XS.iushr X0.here hx rfl (hb hby d11_4) rfl (XS.iconst X0.here hx rfl (hb hby d11_5) (XS.iand X0.here hx rfl (hb hby d11_6) rfl (XS.iloadN X0.here hx rfl (hb hby d11_7) rfl (kt))))))))) ?_
  by_cases hc8 : ((XT.ushr p0 ((2 : Int32) * p1)) &&& (3 : Int32)) = p2
  · refine own_run (g' := (mkF m 16 #[.val (.int p0), .val (.int p1), .val (.int p2)] [(.int (1 : Int32))])) (fun _ kt => XS.icmpNo X0.here hx rfl (hb hby d11_8) rfl ((teq hc8).2) (XS.iconst X0.here hx rfl (hb hby d11_11) (XS.goto X0.here hx rfl (pc0 := 12) (pc' := 16) rfl (hb hby d11_12) (by decide) (by decide) (kt)))) ?_
    have hf : own_f11 p0 p1 p2 = (1 : Int32) := by unfold own_f11; rw [if_pos hc8]
    exact own_retN (t := .boolean) X0 hx Bd.notSynchronized Bd.returns (by simp) (hb hby d11_16) (by decide) (by decide) ⟨congrArg (fun z => some (Value.int z)) hf.symm, N0, e0⟩
  · refine own_run (g' := (mkF m 16 #[.val (.int p0), .val (.int p1), .val (.int p2)] [(.int (0 : Int32))])) (fun _ kt => XS.icmpYes X0.here hx rfl (pc0 := 8) (pc' := 15) rfl (hb hby d11_8) rfl ((feq hc8).2) (by decide) (by decide) (XS.iconst X0.here hx rfl (hb hby d11_15) (kt))) ?_
    have hf : own_f11 p0 p1 p2 = (0 : Int32) := by unfold own_f11; rw [if_neg hc8]
    exact own_retN (t := .boolean) X0 hx Bd.notSynchronized Bd.returns (by simp) (hb hby d11_16) (by decide) (by decide) ⟨congrArg (fun z => some (Value.int z)) hf.symm, N0, e0⟩
theorem own_pn3 : plainName "com/example/lugha/lugha/concepts/PageGroupsHasPinLaw" = true := by first | (simp [plainName, overriddenIn]; done) | decide +kernel
theorem own_ef3 (m : MethodId) (p0 : Int32) (p1 : Int32) (p2 : Int32) : entryFrame m #[(.int p0), (.int p1), (.int p2)] 4 = mkF m 0 #[.val (.int p0), .val (.int p1), .val (.int p2), .unset] [] := by first | (simp [entryFrame, mkF, argsToLocals, Value.category]; done) | rfl
def own_R3 : Room := ({ frames := 0, cells := 0, slots := 0, locals := 0 } : Room)
def own_f3 (p0 : Int32) (p1 : Int32) (p2 : Int32) : Int32 := (if p1 < p2 then (if ((XT.ushr p0 ((2 : Int32) * p1)) &&& (3 : Int32)) < (2 : Int32) then ((XT.ushr p0 ((2 : Int32) * p1)) &&& (3 : Int32)) else (-1 : Int32)) else (-1 : Int32))
def Q3 (z : Int32) (h0 : Heap) (n0 : Nat) (v : Option Value) (h : Heap) (L : List Loc) : Prop := v = some (Value.int z) ∧ Fr n0 L ∧ h = h0
theorem d3_0 : decode method_4_code 0 = .ok (.iload_n 0, 1) := by decide +kernel
theorem d3_1 : decode method_4_code 1 = .ok (.iconst 2, 1) := by decide +kernel
theorem d3_2 : decode method_4_code 2 = .ok (.iload_n 1, 1) := by decide +kernel
theorem d3_3 : decode method_4_code 3 = .ok (.imul, 1) := by decide +kernel
theorem d3_4 : decode method_4_code 4 = .ok (.iushr, 1) := by decide +kernel
theorem d3_5 : decode method_4_code 5 = .ok (.iconst 3, 1) := by decide +kernel
theorem d3_6 : decode method_4_code 6 = .ok (.iand, 1) := by decide +kernel
theorem d3_7 : decode method_4_code 7 = .ok (.istore_n 3, 1) := by decide +kernel
theorem d3_8 : decode method_4_code 8 = .ok (.iload_n 1, 1) := by decide +kernel
theorem d3_9 : decode method_4_code 9 = .ok (.iload_n 2, 1) := by decide +kernel
theorem d3_10 : decode method_4_code 10 = .ok (.if_icmp .ge 12, 3) := by decide +kernel
theorem d3_13 : decode method_4_code 13 = .ok (.iload_n 3, 1) := by decide +kernel
theorem d3_14 : decode method_4_code 14 = .ok (.iconst 2, 1) := by decide +kernel
theorem d3_15 : decode method_4_code 15 = .ok (.if_icmp .ge 7, 3) := by decide +kernel
theorem d3_18 : decode method_4_code 18 = .ok (.iload_n 3, 1) := by decide +kernel
theorem d3_19 : decode method_4_code 19 = .ok (.goto 4, 3) := by decide +kernel
theorem d3_22 : decode method_4_code 22 = .ok (.iconst (-1), 1) := by decide +kernel
theorem d3_23 : decode method_4_code 23 = .ok (.ireturn, 1) := by decide +kernel
set_option maxRecDepth 65536 in
set_option maxHeartbeats 40000000 in
theorem rm3 (l : Launch) (Z : State) (a0 : Array Value) (hw : ∀ d ∈ tables_1, d.before a0 Z = true) (ws : List Jvm.Cond) (p0 : Int32) (p1 : Int32) (p2 : Int32) (h0 : Heap) (n0 : Nat) :
    MetFree l (⟨"com/example/lugha/lugha/concepts/PageGroupsHasPinLaw", "gp", "(III)I"⟩ : MethodName) (head1 (Jvm.Cond.code (⟨"com/example/lugha/lugha/concepts/PageGroupsHasPinLaw", "gp", "(III)I"⟩ : MethodName) method_4_code 4 (some .int) :: ws) own_R3) (fun a U => a = #[(.int p0), (.int p1), (.int p2)] ∧ Z.Warmed39 U.vm ∧ U.heap = h0) (fun _ _ _ _ _ => True) (fun _ U o U' => ∃ v L, o = .returned v ∧ Q3 (own_f3 p0 p1 p2) h0 n0 v U'.heap L ∧ FrameEnd U o U' L own_R3.cells own_R3.slots) := by
  refine MetFree.of_bodySF (plainFor_of_name own_pn3) hisR ?_
  intro p e s m args below meth c s₁ Bd hml0 hP hK
  obtain ⟨ha, hZ, hh⟩ := hP
  have hx := Bd.exec
  have hby := Bd.bytes
  have hml : c.maxLocals = 4 := hml0
  have hown : s.vm.findClass "com/example/lugha/lugha/concepts/PageGroupsHasPinLaw" = some m.cls := findClass_of_methodNamed Bd.named
  have hnm := (name_of_methodNamed Bd.named Bd.method).1
  have X0 : Stand p l e own_R3 s m args below meth c s₁ [] 0 0 := Stand.of_body Bd
  have e0 : s₁.heap = h0 := by rw [← hh, Bd.state]; rfl
  have N0 := Fr.nil n0
  refine own_enter (Q := (Q3 (own_f3 p0 p1 p2) h0 n0)) (g := mkF m 0 #[.val (.int p0), .val (.int p1), .val (.int p2), .unset] []) (by rw [ha]; exact own_ef3 m p0 p1 p2) ?_
  refine own_run (g' := (mkF m 8 #[.val (.int p0), .val (.int p1), .val (.int p2), .val (.int ((XT.ushr p0 ((2 : Int32) * p1)) &&& (3 : Int32)))] [])) (fun _ kt => XS.iloadN X0.here hx rfl (hb hby d3_0) rfl (XS.iconst X0.here hx rfl (hb hby d3_1) (XS.iloadN X0.here hx rfl (hb hby d3_2) rfl (XS.imul X0.here hx rfl (hb hby d3_3) rfl (XS.iushr X0.here hx rfl (hb hby d3_4) rfl (XS.iconst X0.here hx rfl (hb hby d3_5) (XS.iand X0.here hx rfl (hb hby d3_6) rfl (XS.istoreN X0.here hx rfl (hb hby d3_7) rfl (l' := #[.val (.int p0), .val (.int p1), .val (.int p2), .val (.int ((XT.ushr p0 ((2 : Int32) * p1)) &&& (3 : Int32)))]) rfl (kt))))))))) ?_
  refine own_run (g' := (mkF m 10 #[.val (.int p0), .val (.int p1), .val (.int p2), .val (.int ((XT.ushr p0 ((2 : Int32) * p1)) &&& (3 : Int32)))] [(.int p2), (.int p1)])) (fun _ kt => XS.iloadN X0.here hx rfl (hb hby d3_8) rfl (XS.iloadN X0.here hx rfl (hb hby d3_9) rfl (kt))) ?_
  by_cases hc10 : p1 < p2
  · refine own_run (g' := (mkF m 15 #[.val (.int p0), .val (.int p1), .val (.int p2), .val (.int ((XT.ushr p0 ((2 : Int32) * p1)) &&& (3 : Int32)))] [(.int (2 : Int32)), (.int ((XT.ushr p0 ((2 : Int32) * p1)) &&& (3 : Int32)))])) (fun _ kt => XS.icmpNo X0.here hx rfl (hb hby d3_10) rfl ((tlt hc10).2.1) (XS.iloadN X0.here hx rfl (hb hby d3_13) rfl (XS.iconst X0.here hx rfl (hb hby d3_14) (kt)))) ?_
    by_cases hc15 : ((XT.ushr p0 ((2 : Int32) * p1)) &&& (3 : Int32)) < (2 : Int32)
    · refine own_run (g' := (mkF m 23 #[.val (.int p0), .val (.int p1), .val (.int p2), .val (.int ((XT.ushr p0 ((2 : Int32) * p1)) &&& (3 : Int32)))] [(.int ((XT.ushr p0 ((2 : Int32) * p1)) &&& (3 : Int32)))])) (fun _ kt => XS.icmpNo X0.here hx rfl (hb hby d3_15) rfl ((tlt hc15).2.1) (XS.iloadN X0.here hx rfl (hb hby d3_18) rfl (XS.goto X0.here hx rfl (pc0 := 19) (pc' := 23) rfl (hb hby d3_19) (by decide) (by decide) (kt)))) ?_
      have hf : own_f3 p0 p1 p2 = ((XT.ushr p0 ((2 : Int32) * p1)) &&& (3 : Int32)) := by unfold own_f3; rw [if_pos hc10, if_pos hc15]
      exact own_retI X0 hx Bd.notSynchronized Bd.returns (hb hby d3_23) (by decide) (by decide) ⟨congrArg (fun z => some (Value.int z)) hf.symm, N0, e0⟩
    · refine own_run (g' := (mkF m 23 #[.val (.int p0), .val (.int p1), .val (.int p2), .val (.int ((XT.ushr p0 ((2 : Int32) * p1)) &&& (3 : Int32)))] [(.int (-1 : Int32))])) (fun _ kt => XS.icmpYes X0.here hx rfl (pc0 := 15) (pc' := 22) rfl (hb hby d3_15) rfl ((flt hc15).2.1) (by decide) (by decide) (XS.iconst X0.here hx rfl (hb hby d3_22) (kt))) ?_
      have hf : own_f3 p0 p1 p2 = (-1 : Int32) := by unfold own_f3; rw [if_pos hc10, if_neg hc15]
      exact own_retI X0 hx Bd.notSynchronized Bd.returns (hb hby d3_23) (by decide) (by decide) ⟨congrArg (fun z => some (Value.int z)) hf.symm, N0, e0⟩
  · refine own_run (g' := (mkF m 23 #[.val (.int p0), .val (.int p1), .val (.int p2), .val (.int ((XT.ushr p0 ((2 : Int32) * p1)) &&& (3 : Int32)))] [(.int (-1 : Int32))])) (fun _ kt => XS.icmpYes X0.here hx rfl (pc0 := 10) (pc' := 22) rfl (hb hby d3_10) rfl ((flt hc10).2.1) (by decide) (by decide) (XS.iconst X0.here hx rfl (hb hby d3_22) (kt))) ?_
    have hf : own_f3 p0 p1 p2 = (-1 : Int32) := by unfold own_f3; rw [if_neg hc10]
    exact own_retI X0 hx Bd.notSynchronized Bd.returns (hb hby d3_23) (by decide) (by decide) ⟨congrArg (fun z => some (Value.int z)) hf.symm, N0, e0⟩
theorem own_pn2 : plainName "com/example/lugha/lugha/concepts/PageGroupsHasPinLaw" = true := by first | (simp [plainName, overriddenIn]; done) | decide +kernel
theorem own_ef2 (m : MethodId) (o0 : Addr) (p1 : Int32) (p2 : Int32) (p3 : Int32) (p4 : Int32) (p5 : Int32) : entryFrame m #[(.ref o0), (.int p1), (.int p2), (.int p3), (.int p4), (.int p5)] 6 = mkF m 0 #[.val (.ref o0), .val (.int p1), .val (.int p2), .val (.int p3), .val (.int p4), .val (.int p5)] [] := by first | (simp [entryFrame, mkF, argsToLocals, Value.category]; done) | rfl
def own_R2 : Room := ({ frames := 1, cells := 0, slots := 0, locals := 14 } : Room)
def own_pr (p1 p2 p3 p4 p5 : Int32) : Int32 := (if p2 < p5 then (if (own_f11 p4 p2 p3) = (0 : Int32) then p1 else (p1 + (1 : Int32))) else p1)
def own_px (xs : List Int32) (p1 p2 p3 p4 p5 : Int32) : List Int32 := (if p2 < p5 then (if (own_f11 p4 p2 p3) = (0 : Int32) then xs else (xs.set p1.toNatClampNeg p2)) else xs)
def Q2 (Z : State) (o0 : Addr) (p1 : Int32) (p2 : Int32) (p3 : Int32) (p4 : Int32) (p5 : Int32) (xs : List Int32) (h0 : Heap) (n0 : Nat) (v : Option Value) (h : Heap) (L : List Loc) : Prop := v = some (.int (own_pr p1 p2 p3 p4 p5)) ∧ Fr n0 L ∧ Keep h0 h [o0] ∧ own_A Z h o0 .int (9 : Int32) (own_px xs p1 p2 p3 p4 p5)
theorem own_pd1 : parseMethodDescriptor "(III)Z" = some ⟨[.int, .int, .int], some .boolean⟩ := by decide +kernel
theorem d2_0 : decode method_5_code 0 = .ok (.iload_n 2, 1) := by decide +kernel
theorem d2_1 : decode method_5_code 1 = .ok (.iload 5, 2) := by decide +kernel
theorem d2_3 : decode method_5_code 3 = .ok (.if_icmp .ge 21, 3) := by decide +kernel
theorem d2_6 : decode method_5_code 6 = .ok (.iload 4, 2) := by decide +kernel
theorem d2_8 : decode method_5_code 8 = .ok (.iload_n 2, 1) := by decide +kernel
theorem d2_9 : decode method_5_code 9 = .ok (.iload_n 3, 1) := by decide +kernel
theorem d2_10 : decode method_5_code 10 = .ok (.invokestatic 26, 3) := by decide +kernel
theorem d2_13 : decode method_5_code 13 = .ok (.ifCond .eq 11, 3) := by decide +kernel
theorem d2_16 : decode method_5_code 16 = .ok (.aload_n 0, 1) := by decide +kernel
theorem d2_17 : decode method_5_code 17 = .ok (.iload_n 1, 1) := by decide +kernel
theorem d2_18 : decode method_5_code 18 = .ok (.iload_n 2, 1) := by decide +kernel
theorem d2_19 : decode method_5_code 19 = .ok (.iastore, 1) := by decide +kernel
theorem d2_20 : decode method_5_code 20 = .ok (.iload_n 1, 1) := by decide +kernel
theorem d2_21 : decode method_5_code 21 = .ok (.iconst 1, 1) := by decide +kernel
theorem d2_22 : decode method_5_code 22 = .ok (.iadd, 1) := by decide +kernel
theorem d2_23 : decode method_5_code 23 = .ok (.ireturn, 1) := by decide +kernel
theorem d2_24 : decode method_5_code 24 = .ok (.iload_n 1, 1) := by decide +kernel
theorem d2_25 : decode method_5_code 25 = .ok (.ireturn, 1) := by decide +kernel
set_option maxRecDepth 65536 in
set_option maxHeartbeats 40000000 in
theorem rm2 (l : Launch) (Z : State) (a0 : Array Value) (hw : ∀ d ∈ tables_1, d.before a0 Z = true) (ws : List Jvm.Cond) (o0 : Addr) (p1 : Int32) (p2 : Int32) (p3 : Int32) (p4 : Int32) (p5 : Int32) (xs : List Int32) (h0 : Heap) (n0 : Nat) (Z0 : n0 ≤ h0.size) (A0 : own_A Z h0 o0 .int (9 : Int32) xs) (g_o0 : n0 ≤ o0) (hbd : p2 < p5 → ¬ (own_f11 p4 p2 p3) = (0 : Int32) → ¬ p1 < 0 ∧ p1 < (9 : Int32)) :
    MetFree l (⟨"com/example/lugha/lugha/concepts/PageGroupsHasPinLaw", "put", "([IIIIII)I"⟩ : MethodName) (head1 (Jvm.Cond.code (⟨"com/example/lugha/lugha/concepts/PageGroupsHasPinLaw", "put", "([IIIIII)I"⟩ : MethodName) method_5_code 6 (some .int) :: ws) own_R2) (fun a U => a = #[(.ref o0), (.int p1), (.int p2), (.int p3), (.int p4), (.int p5)] ∧ Z.Warmed39 U.vm ∧ U.heap = h0) (fun _ _ _ _ _ => True) (fun _ U o U' => ∃ v L, o = .returned v ∧ Q2 Z o0 p1 p2 p3 p4 p5 xs h0 n0 v U'.heap L ∧ FrameEnd U o U' L own_R2.cells own_R2.slots) := by
  refine MetFree.of_bodySF (plainFor_of_name own_pn2) hisR ?_
  intro p e s m args below meth c s₁ Bd hml0 hP hK
  obtain ⟨ha, hZ, hh⟩ := hP
  have hx := Bd.exec
  have hby := Bd.bytes
  have hml : c.maxLocals = 6 := hml0
  have hown : s.vm.findClass "com/example/lugha/lugha/concepts/PageGroupsHasPinLaw" = some m.cls := findClass_of_methodNamed Bd.named
  have hnm := (name_of_methodNamed Bd.named Bd.method).1
  have X0 : Stand p l e own_R2 s m args below meth c s₁ [] 0 0 := Stand.of_body Bd
  have e0 : s₁.heap = h0 := by rw [← hh, Bd.state]; rfl
  have N0 := Fr.nil n0
  refine own_enter (Q := (Q2 Z o0 p1 p2 p3 p4 p5 xs h0 n0)) (g := mkF m 0 #[.val (.ref o0), .val (.int p1), .val (.int p2), .val (.int p3), .val (.int p4), .val (.int p5)] []) (by rw [ha]; exact own_ef2 m o0 p1 p2 p3 p4 p5) ?_
  refine own_run (g' := (mkF m 3 #[.val (.ref o0), .val (.int p1), .val (.int p2), .val (.int p3), .val (.int p4), .val (.int p5)] [(.int p5), (.int p2)])) (fun _ kt => XS.iloadN X0.here hx rfl (hb hby d2_0) rfl (XS.iload X0.here hx rfl (hb hby d2_1) rfl (kt))) ?_
  by_cases hc3 : p2 < p5
  · refine own_run (g' := (mkF m 10 #[.val (.ref o0), .val (.int p1), .val (.int p2), .val (.int p3), .val (.int p4), .val (.int p5)] [(.int p3), (.int p2), (.int p4)])) (fun _ kt => XS.icmpNo X0.here hx rfl (hb hby d2_3) rfl ((tlt hc3).2.1) (XS.iload X0.here hx rfl (hb hby d2_6) rfl (XS.iloadN X0.here hx rfl (hb hby d2_8) rfl (XS.iloadN X0.here hx rfl (hb hby d2_9) rfl (kt))))) ?_
    refine own_callS X0 hx hZ hown (hw _ (List.mem_of_getElem? (i := 68) rfl)) (hw _ (List.mem_of_getElem? (i := 69) rfl)) (hw _ (List.mem_of_getElem? (i := 4) rfl)) (hw _ (List.mem_of_getElem? (i := 70) rfl)) (by decide) (rm11 l Z a0 hw [] p4 p2 p3 h0 n0) e0 (by decide) (by decide) (by decide) (by decide) (by rw [hml]; rfl) (argsL := [(.int p4), (.int p2), (.int p3)]) (rest := []) (lenOf own_pd1 rfl) rfl (W := 0) (Nat.le_of_eq rfl) (hb hby d2_10) ?_
    intro T1 r1 L1 X1 hQ1
    obtain ⟨rfl, Nq1, e1⟩ := hQ1
    have N1 := Fr.app N0 Nq1
    by_cases hc13 : (own_f11 p4 p2 p3) = (0 : Int32)
    · refine own_run (g' := (mkF m 25 #[.val (.ref o0), .val (.int p1), .val (.int p2), .val (.int p3), .val (.int p4), .val (.int p5)] [(.int p1)])) (fun _ kt => XS.ifYes X1.here hx rfl (pc0 := 13) (pc' := 24) rfl (hb hby d2_13) rfl ((if0 _ _).trans (teq hc13).1) (by decide) (by decide) (XS.iloadN X1.here hx rfl (hb hby d2_24) rfl (kt))) ?_
      have hr : own_pr p1 p2 p3 p4 p5 = p1 := by unfold own_pr; rw [if_pos hc3, if_pos hc13]
      have hxs : own_px xs p1 p2 p3 p4 p5 = xs := by unfold own_px; rw [if_pos hc3, if_pos hc13]
      exact own_retI X1 hx Bd.notSynchronized Bd.returns (hb hby d2_25) (by decide) (by decide) (by rw [e1]; exact ⟨congrArg (fun z => some (Value.int z)) hr.symm, N1, (Keep.refl h0 [o0]), by rw [hxs]; exact A0⟩)
    · refine own_run (g' := (mkF m 19 #[.val (.ref o0), .val (.int p1), .val (.int p2), .val (.int p3), .val (.int p4), .val (.int p5)] [(.int p2), (.int p1), (.ref o0)])) (fun _ kt => XS.ifNo X1.here hx rfl (hb hby d2_13) rfl ((if0 _ _).trans (feq hc13).1) (XS.aloadN X1.here hx rfl (hb hby d2_16) rfl rfl (XS.iloadN X1.here hx rfl (hb hby d2_17) rfl (XS.iloadN X1.here hx rfl (hb hby d2_18) rfl (kt))))) ?_
      refine own_stI X1 hx hZ e1 A0 (j := p1) (hbd hc3 hc13) N1 g_o0 (hb hby d2_19) (ys := (xs.set p1.toNatClampNeg p2)) rfl ?_
      intro T2 h2 L2 X2 N2 e2 W2 A2
      have KpW2 : Keep h0 h2 [o0] := Keep.wr (Keep.refl h0 [o0]) W2 (Or.inl (List.mem_of_getElem? (i := 0) rfl))
      have ZW2 : n0 ≤ h2.size := Nat.le_trans Z0 (Keep.of_wr W2).1
      refine own_run (g' := (mkF m 23 #[.val (.ref o0), .val (.int p1), .val (.int p2), .val (.int p3), .val (.int p4), .val (.int p5)] [(.int (p1 + (1 : Int32)))])) (fun _ kt => XS.iloadN X2.here hx rfl (hb hby d2_20) rfl (XS.iconst X2.here hx rfl (hb hby d2_21) (XS.iadd X2.here hx rfl (hb hby d2_22) rfl (kt)))) ?_
      have hr : own_pr p1 p2 p3 p4 p5 = (p1 + (1 : Int32)) := by unfold own_pr; rw [if_pos hc3, if_neg hc13]
      have hxs : own_px xs p1 p2 p3 p4 p5 = (xs.set p1.toNatClampNeg p2) := by unfold own_px; rw [if_pos hc3, if_neg hc13]
      exact own_retI X2 hx Bd.notSynchronized Bd.returns (hb hby d2_23) (by decide) (by decide) (by rw [e2]; exact ⟨congrArg (fun z => some (Value.int z)) hr.symm, N2, KpW2, by rw [hxs]; exact A2⟩)
  · refine own_run (g' := (mkF m 25 #[.val (.ref o0), .val (.int p1), .val (.int p2), .val (.int p3), .val (.int p4), .val (.int p5)] [(.int p1)])) (fun _ kt => XS.icmpYes X0.here hx rfl (pc0 := 3) (pc' := 24) rfl (hb hby d2_3) rfl ((flt hc3).2.1) (by decide) (by decide) (XS.iloadN X0.here hx rfl (hb hby d2_24) rfl (kt))) ?_
    have hr : own_pr p1 p2 p3 p4 p5 = p1 := by unfold own_pr; rw [if_neg hc3]
    have hxs : own_px xs p1 p2 p3 p4 p5 = xs := by unfold own_px; rw [if_neg hc3]
    exact own_retI X0 hx Bd.notSynchronized Bd.returns (hb hby d2_25) (by decide) (by decide) (by rw [e0]; exact ⟨congrArg (fun z => some (Value.int z)) hr.symm, N0, (Keep.refl h0 [o0]), by rw [hxs]; exact A0⟩)
theorem own_pn1 : plainName "com/example/lugha/lugha/concepts/PageGroupsHasPinLaw" = true := by first | (simp [plainName, overriddenIn]; done) | decide +kernel
theorem own_ef1 (m : MethodId) (o0 : Addr) (p1 : Int32) (p2 : Int32) (p3 : Int32) (p4 : Int32) : entryFrame m #[(.ref o0), (.int p1), (.int p2), (.int p3), (.int p4)] 5 = mkF m 0 #[.val (.ref o0), .val (.int p1), .val (.int p2), .val (.int p3), .val (.int p4)] [] := by first | (simp [entryFrame, mkF, argsToLocals, Value.category]; done) | rfl
def own_R1 : Room := ({ frames := 2, cells := 0, slots := 0, locals := 31 } : Room)
def own_step (p2 p3 p4 : Int32) (s : Int32 × List Int32) (q : Int32) : Int32 × List Int32 := (own_pr s.1 q p2 p3 p4, own_px s.2 s.1 q p2 p3 p4)
def own_pages : List Int32 := [0, 1, 2, 3, 4, 5, 6, 7, 8]
def own_pre (k : Nat) (p1 p2 p3 p4 : Int32) (xs : List Int32) : Int32 × List Int32 := (own_pages.take k).foldl (own_step p2 p3 p4) (p1, xs)
def own_blk (p1 p2 p3 p4 : Int32) (xs : List Int32) : Int32 × List Int32 := own_pages.foldl (own_step p2 p3 p4) (p1, xs)
def Q1 (Z : State) (o0 : Addr) (p1 : Int32) (p2 : Int32) (p3 : Int32) (p4 : Int32) (xs : List Int32) (h0 : Heap) (n0 : Nat) (v : Option Value) (h : Heap) (L : List Loc) : Prop := v = some (.int (own_blk p1 p2 p3 p4 xs).1) ∧ Fr n0 L ∧ Keep h0 h [o0] ∧ own_A Z h o0 .int (9 : Int32) (own_blk p1 p2 p3 p4 xs).2
theorem own_pd2 : parseMethodDescriptor "([IIIIII)I" = some ⟨[(.array .int), .int, .int, .int, .int, .int], some .int⟩ := by decide +kernel
theorem d1_0 : decode method_6_code 0 = .ok (.aload_n 0, 1) := by decide +kernel
theorem d1_1 : decode method_6_code 1 = .ok (.iload_n 1, 1) := by decide +kernel
theorem d1_2 : decode method_6_code 2 = .ok (.iconst 0, 1) := by decide +kernel
theorem d1_3 : decode method_6_code 3 = .ok (.iload_n 2, 1) := by decide +kernel
theorem d1_4 : decode method_6_code 4 = .ok (.iload_n 3, 1) := by decide +kernel
theorem d1_5 : decode method_6_code 5 = .ok (.iload 4, 2) := by decide +kernel
theorem d1_7 : decode method_6_code 7 = .ok (.invokestatic 34, 3) := by decide +kernel
theorem d1_10 : decode method_6_code 10 = .ok (.istore_n 1, 1) := by decide +kernel
theorem d1_11 : decode method_6_code 11 = .ok (.aload_n 0, 1) := by decide +kernel
theorem d1_12 : decode method_6_code 12 = .ok (.iload_n 1, 1) := by decide +kernel
theorem d1_13 : decode method_6_code 13 = .ok (.iconst 1, 1) := by decide +kernel
theorem d1_14 : decode method_6_code 14 = .ok (.iload_n 2, 1) := by decide +kernel
theorem d1_15 : decode method_6_code 15 = .ok (.iload_n 3, 1) := by decide +kernel
theorem d1_16 : decode method_6_code 16 = .ok (.iload 4, 2) := by decide +kernel
theorem d1_18 : decode method_6_code 18 = .ok (.invokestatic 34, 3) := by decide +kernel
theorem d1_21 : decode method_6_code 21 = .ok (.istore_n 1, 1) := by decide +kernel
theorem d1_22 : decode method_6_code 22 = .ok (.aload_n 0, 1) := by decide +kernel
theorem d1_23 : decode method_6_code 23 = .ok (.iload_n 1, 1) := by decide +kernel
theorem d1_24 : decode method_6_code 24 = .ok (.iconst 2, 1) := by decide +kernel
theorem d1_25 : decode method_6_code 25 = .ok (.iload_n 2, 1) := by decide +kernel
theorem d1_26 : decode method_6_code 26 = .ok (.iload_n 3, 1) := by decide +kernel
theorem d1_27 : decode method_6_code 27 = .ok (.iload 4, 2) := by decide +kernel
theorem d1_29 : decode method_6_code 29 = .ok (.invokestatic 34, 3) := by decide +kernel
theorem d1_32 : decode method_6_code 32 = .ok (.istore_n 1, 1) := by decide +kernel
theorem d1_33 : decode method_6_code 33 = .ok (.aload_n 0, 1) := by decide +kernel
theorem d1_34 : decode method_6_code 34 = .ok (.iload_n 1, 1) := by decide +kernel
theorem d1_35 : decode method_6_code 35 = .ok (.iconst 3, 1) := by decide +kernel
theorem d1_36 : decode method_6_code 36 = .ok (.iload_n 2, 1) := by decide +kernel
theorem d1_37 : decode method_6_code 37 = .ok (.iload_n 3, 1) := by decide +kernel
theorem d1_38 : decode method_6_code 38 = .ok (.iload 4, 2) := by decide +kernel
theorem d1_40 : decode method_6_code 40 = .ok (.invokestatic 34, 3) := by decide +kernel
theorem d1_43 : decode method_6_code 43 = .ok (.istore_n 1, 1) := by decide +kernel
theorem d1_44 : decode method_6_code 44 = .ok (.aload_n 0, 1) := by decide +kernel
theorem d1_45 : decode method_6_code 45 = .ok (.iload_n 1, 1) := by decide +kernel
theorem d1_46 : decode method_6_code 46 = .ok (.iconst 4, 1) := by decide +kernel
theorem d1_47 : decode method_6_code 47 = .ok (.iload_n 2, 1) := by decide +kernel
theorem d1_48 : decode method_6_code 48 = .ok (.iload_n 3, 1) := by decide +kernel
theorem d1_49 : decode method_6_code 49 = .ok (.iload 4, 2) := by decide +kernel
theorem d1_51 : decode method_6_code 51 = .ok (.invokestatic 34, 3) := by decide +kernel
theorem d1_54 : decode method_6_code 54 = .ok (.istore_n 1, 1) := by decide +kernel
theorem d1_55 : decode method_6_code 55 = .ok (.aload_n 0, 1) := by decide +kernel
theorem d1_56 : decode method_6_code 56 = .ok (.iload_n 1, 1) := by decide +kernel
theorem d1_57 : decode method_6_code 57 = .ok (.iconst 5, 1) := by decide +kernel
theorem d1_58 : decode method_6_code 58 = .ok (.iload_n 2, 1) := by decide +kernel
theorem d1_59 : decode method_6_code 59 = .ok (.iload_n 3, 1) := by decide +kernel
theorem d1_60 : decode method_6_code 60 = .ok (.iload 4, 2) := by decide +kernel
theorem d1_62 : decode method_6_code 62 = .ok (.invokestatic 34, 3) := by decide +kernel
theorem d1_65 : decode method_6_code 65 = .ok (.istore_n 1, 1) := by decide +kernel
theorem d1_66 : decode method_6_code 66 = .ok (.aload_n 0, 1) := by decide +kernel
theorem d1_67 : decode method_6_code 67 = .ok (.iload_n 1, 1) := by decide +kernel
theorem d1_68 : decode method_6_code 68 = .ok (.bipush 6, 2) := by decide +kernel
theorem d1_70 : decode method_6_code 70 = .ok (.iload_n 2, 1) := by decide +kernel
theorem d1_71 : decode method_6_code 71 = .ok (.iload_n 3, 1) := by decide +kernel
theorem d1_72 : decode method_6_code 72 = .ok (.iload 4, 2) := by decide +kernel
theorem d1_74 : decode method_6_code 74 = .ok (.invokestatic 34, 3) := by decide +kernel
theorem d1_77 : decode method_6_code 77 = .ok (.istore_n 1, 1) := by decide +kernel
theorem d1_78 : decode method_6_code 78 = .ok (.aload_n 0, 1) := by decide +kernel
theorem d1_79 : decode method_6_code 79 = .ok (.iload_n 1, 1) := by decide +kernel
theorem d1_80 : decode method_6_code 80 = .ok (.bipush 7, 2) := by decide +kernel
theorem d1_82 : decode method_6_code 82 = .ok (.iload_n 2, 1) := by decide +kernel
theorem d1_83 : decode method_6_code 83 = .ok (.iload_n 3, 1) := by decide +kernel
theorem d1_84 : decode method_6_code 84 = .ok (.iload 4, 2) := by decide +kernel
theorem d1_86 : decode method_6_code 86 = .ok (.invokestatic 34, 3) := by decide +kernel
theorem d1_89 : decode method_6_code 89 = .ok (.istore_n 1, 1) := by decide +kernel
theorem d1_90 : decode method_6_code 90 = .ok (.aload_n 0, 1) := by decide +kernel
theorem d1_91 : decode method_6_code 91 = .ok (.iload_n 1, 1) := by decide +kernel
theorem d1_92 : decode method_6_code 92 = .ok (.bipush 8, 2) := by decide +kernel
theorem d1_94 : decode method_6_code 94 = .ok (.iload_n 2, 1) := by decide +kernel
theorem d1_95 : decode method_6_code 95 = .ok (.iload_n 3, 1) := by decide +kernel
theorem d1_96 : decode method_6_code 96 = .ok (.iload 4, 2) := by decide +kernel
theorem d1_98 : decode method_6_code 98 = .ok (.invokestatic 34, 3) := by decide +kernel
theorem d1_101 : decode method_6_code 101 = .ok (.istore_n 1, 1) := by decide +kernel
theorem d1_102 : decode method_6_code 102 = .ok (.iload_n 1, 1) := by decide +kernel
theorem d1_103 : decode method_6_code 103 = .ok (.ireturn, 1) := by decide +kernel
set_option maxRecDepth 65536 in
set_option maxHeartbeats 40000000 in
theorem rm1 (l : Launch) (Z : State) (a0 : Array Value) (hw : ∀ d ∈ tables_1, d.before a0 Z = true) (ws : List Jvm.Cond) (o0 : Addr) (p1 : Int32) (p2 : Int32) (p3 : Int32) (p4 : Int32) (xs : List Int32) (h0 : Heap) (n0 : Nat) (Z0 : n0 ≤ h0.size) (A0 : own_A Z h0 o0 .int (9 : Int32) xs) (g_o0 : n0 ≤ o0) (hbd : ∀ k, k < 9 → (own_pages.getD k 0) < p4 → ¬ (own_f11 p3 (own_pages.getD k 0) p2) = (0 : Int32) → ¬ (own_pre k p1 p2 p3 p4 xs).1 < 0 ∧ (own_pre k p1 p2 p3 p4 xs).1 < (9 : Int32)) :
    MetFree l (⟨"com/example/lugha/lugha/concepts/PageGroupsHasPinLaw", "block", "([IIIII)I"⟩ : MethodName) (head1 (Jvm.Cond.code (⟨"com/example/lugha/lugha/concepts/PageGroupsHasPinLaw", "block", "([IIIII)I"⟩ : MethodName) method_6_code 5 (some .int) :: ws) own_R1) (fun a U => a = #[(.ref o0), (.int p1), (.int p2), (.int p3), (.int p4)] ∧ Z.Warmed39 U.vm ∧ U.heap = h0) (fun _ _ _ _ _ => True) (fun _ U o U' => ∃ v L, o = .returned v ∧ Q1 Z o0 p1 p2 p3 p4 xs h0 n0 v U'.heap L ∧ FrameEnd U o U' L own_R1.cells own_R1.slots) := by
  refine MetFree.of_bodySF (plainFor_of_name own_pn1) hisR ?_
  intro p e s m args below meth c s₁ Bd hml0 hP hK
  obtain ⟨ha, hZ, hh⟩ := hP
  have hx := Bd.exec
  have hby := Bd.bytes
  have hml : c.maxLocals = 5 := hml0
  have hown : s.vm.findClass "com/example/lugha/lugha/concepts/PageGroupsHasPinLaw" = some m.cls := findClass_of_methodNamed Bd.named
  have hnm := (name_of_methodNamed Bd.named Bd.method).1
  have X0 : Stand p l e own_R1 s m args below meth c s₁ [] 0 0 := Stand.of_body Bd
  have e0 : s₁.heap = h0 := by rw [← hh, Bd.state]; rfl
  have N0 := Fr.nil n0
  refine own_enter (Q := (Q1 Z o0 p1 p2 p3 p4 xs h0 n0)) (g := mkF m 0 #[.val (.ref o0), .val (.int p1), .val (.int p2), .val (.int p3), .val (.int p4)] []) (by rw [ha]; exact own_ef1 m o0 p1 p2 p3 p4) ?_
  refine own_run (g' := (mkF m 7 #[.val (.ref o0), .val (.int p1), .val (.int p2), .val (.int p3), .val (.int p4)] [(.int p4), (.int p3), (.int p2), (.int (0 : Int32)), (.int p1), (.ref o0)])) (fun _ kt => XS.aloadN X0.here hx rfl (hb hby d1_0) rfl rfl (XS.iloadN X0.here hx rfl (hb hby d1_1) rfl (XS.iconst X0.here hx rfl (hb hby d1_2) (XS.iloadN X0.here hx rfl (hb hby d1_3) rfl (XS.iloadN X0.here hx rfl (hb hby d1_4) rfl (XS.iload X0.here hx rfl (hb hby d1_5) rfl (kt))))))) ?_
  have hb0 : (0 : Int32) < p4 → ¬ (own_f11 p3 (0 : Int32) p2) = (0 : Int32) → ¬ p1 < 0 ∧ p1 < (9 : Int32) := by exact hbd 0 (by decide)
  refine own_callS X0 hx hZ hown (hw _ (List.mem_of_getElem? (i := 6) rfl)) (hw _ (List.mem_of_getElem? (i := 7) rfl)) (hw _ (List.mem_of_getElem? (i := 4) rfl)) (hw _ (List.mem_of_getElem? (i := 8) rfl)) (by decide) (rm2 l Z a0 hw [] o0 p1 (0 : Int32) p2 p3 p4 xs h0 n0 Z0 A0 g_o0 hb0) e0 (by decide) (by decide) (by decide) (by decide) (by rw [hml]; rfl) (argsL := [(.ref o0), (.int p1), (.int (0 : Int32)), (.int p2), (.int p3), (.int p4)]) (rest := []) (lenOf own_pd2 rfl) rfl (W := 0) (Nat.le_of_eq rfl) (hb hby d1_7) ?_
  intro T1 r1 L1 X1 hQ1
  obtain ⟨rfl, Nq1, Kc1, A1⟩ := hQ1
  have N1 := Fr.app N0 Nq1
  have Z1 : n0 ≤ T1.heap.size := Nat.le_trans Z0 Kc1.1
  have Kp1 : Keep h0 T1.heap [o0] := Keep.trans (Keep.refl h0 [o0]) Kc1 (allS (Or.inl (List.mem_of_getElem? (i := 0) rfl)) all0)
  obtain ⟨xs1, hxs1⟩ : ∃ z : List Int32, z = (own_px xs p1 (0 : Int32) p2 p3 p4) := ⟨_, rfl⟩
  rw [← hxs1] at A1
  refine own_run (g' := (mkF m 11 #[.val (.ref o0), .val (.int (own_pr p1 (0 : Int32) p2 p3 p4)), .val (.int p2), .val (.int p3), .val (.int p4)] [])) (fun _ kt => XS.istoreN X1.here hx rfl (hb hby d1_10) rfl (l' := #[.val (.ref o0), .val (.int (own_pr p1 (0 : Int32) p2 p3 p4)), .val (.int p2), .val (.int p3), .val (.int p4)]) rfl (kt)) ?_
  obtain ⟨v10, hv10⟩ : ∃ z : Int32, z = (own_pr p1 (0 : Int32) p2 p3 p4) := ⟨_, rfl⟩
  rw [← hv10]
  refine own_run (g' := (mkF m 18 #[.val (.ref o0), .val (.int v10), .val (.int p2), .val (.int p3), .val (.int p4)] [(.int p4), (.int p3), (.int p2), (.int (1 : Int32)), (.int v10), (.ref o0)])) (fun _ kt => XS.aloadN X1.here hx rfl (hb hby d1_11) rfl rfl (XS.iloadN X1.here hx rfl (hb hby d1_12) rfl (XS.iconst X1.here hx rfl (hb hby d1_13) (XS.iloadN X1.here hx rfl (hb hby d1_14) rfl (XS.iloadN X1.here hx rfl (hb hby d1_15) rfl (XS.iload X1.here hx rfl (hb hby d1_16) rfl (kt))))))) ?_
  have hb1 : (1 : Int32) < p4 → ¬ (own_f11 p3 (1 : Int32) p2) = (0 : Int32) → ¬ v10 < 0 ∧ v10 < (9 : Int32) := by subst hxs1 hv10; exact hbd 1 (by decide)
  refine own_callS X1 hx hZ hown (hw _ (List.mem_of_getElem? (i := 6) rfl)) (hw _ (List.mem_of_getElem? (i := 7) rfl)) (hw _ (List.mem_of_getElem? (i := 4) rfl)) (hw _ (List.mem_of_getElem? (i := 8) rfl)) (by decide) (rm2 l Z a0 hw [] o0 v10 (1 : Int32) p2 p3 p4 xs1 T1.heap n0 Z1 A1 g_o0 hb1) rfl (by decide) (by decide) (by decide) (by decide) (by rw [hml]; rfl) (argsL := [(.ref o0), (.int v10), (.int (1 : Int32)), (.int p2), (.int p3), (.int p4)]) (rest := []) (lenOf own_pd2 rfl) rfl (W := 0) (Nat.le_of_eq rfl) (hb hby d1_18) ?_
  intro T2 r2 L2 X2 hQ2
  obtain ⟨rfl, Nq2, Kc2, A2⟩ := hQ2
  have N2 := Fr.app N1 Nq2
  have Z2 : n0 ≤ T2.heap.size := Nat.le_trans Z1 Kc2.1
  have Kp2 : Keep h0 T2.heap [o0] := Keep.trans Kp1 Kc2 (allS (Or.inl (List.mem_of_getElem? (i := 0) rfl)) all0)
  obtain ⟨xs2, hxs2⟩ : ∃ z : List Int32, z = (own_px xs1 v10 (1 : Int32) p2 p3 p4) := ⟨_, rfl⟩
  rw [← hxs2] at A2
  refine own_run (g' := (mkF m 22 #[.val (.ref o0), .val (.int (own_pr v10 (1 : Int32) p2 p3 p4)), .val (.int p2), .val (.int p3), .val (.int p4)] [])) (fun _ kt => XS.istoreN X2.here hx rfl (hb hby d1_21) rfl (l' := #[.val (.ref o0), .val (.int (own_pr v10 (1 : Int32) p2 p3 p4)), .val (.int p2), .val (.int p3), .val (.int p4)]) rfl (kt)) ?_
  obtain ⟨v21, hv21⟩ : ∃ z : Int32, z = (own_pr v10 (1 : Int32) p2 p3 p4) := ⟨_, rfl⟩
  rw [← hv21]
  refine own_run (g' := (mkF m 29 #[.val (.ref o0), .val (.int v21), .val (.int p2), .val (.int p3), .val (.int p4)] [(.int p4), (.int p3), (.int p2), (.int (2 : Int32)), (.int v21), (.ref o0)])) (fun _ kt => XS.aloadN X2.here hx rfl (hb hby d1_22) rfl rfl (XS.iloadN X2.here hx rfl (hb hby d1_23) rfl (XS.iconst X2.here hx rfl (hb hby d1_24) (XS.iloadN X2.here hx rfl (hb hby d1_25) rfl (XS.iloadN X2.here hx rfl (hb hby d1_26) rfl (XS.iload X2.here hx rfl (hb hby d1_27) rfl (kt))))))) ?_
  have hb2 : (2 : Int32) < p4 → ¬ (own_f11 p3 (2 : Int32) p2) = (0 : Int32) → ¬ v21 < 0 ∧ v21 < (9 : Int32) := by subst hxs1 hv10 hxs2 hv21; exact hbd 2 (by decide)
  refine own_callS X2 hx hZ hown (hw _ (List.mem_of_getElem? (i := 6) rfl)) (hw _ (List.mem_of_getElem? (i := 7) rfl)) (hw _ (List.mem_of_getElem? (i := 4) rfl)) (hw _ (List.mem_of_getElem? (i := 8) rfl)) (by decide) (rm2 l Z a0 hw [] o0 v21 (2 : Int32) p2 p3 p4 xs2 T2.heap n0 Z2 A2 g_o0 hb2) rfl (by decide) (by decide) (by decide) (by decide) (by rw [hml]; rfl) (argsL := [(.ref o0), (.int v21), (.int (2 : Int32)), (.int p2), (.int p3), (.int p4)]) (rest := []) (lenOf own_pd2 rfl) rfl (W := 0) (Nat.le_of_eq rfl) (hb hby d1_29) ?_
  intro T3 r3 L3 X3 hQ3
  obtain ⟨rfl, Nq3, Kc3, A3⟩ := hQ3
  have N3 := Fr.app N2 Nq3
  have Z3 : n0 ≤ T3.heap.size := Nat.le_trans Z2 Kc3.1
  have Kp3 : Keep h0 T3.heap [o0] := Keep.trans Kp2 Kc3 (allS (Or.inl (List.mem_of_getElem? (i := 0) rfl)) all0)
  obtain ⟨xs3, hxs3⟩ : ∃ z : List Int32, z = (own_px xs2 v21 (2 : Int32) p2 p3 p4) := ⟨_, rfl⟩
  rw [← hxs3] at A3
  refine own_run (g' := (mkF m 33 #[.val (.ref o0), .val (.int (own_pr v21 (2 : Int32) p2 p3 p4)), .val (.int p2), .val (.int p3), .val (.int p4)] [])) (fun _ kt => XS.istoreN X3.here hx rfl (hb hby d1_32) rfl (l' := #[.val (.ref o0), .val (.int (own_pr v21 (2 : Int32) p2 p3 p4)), .val (.int p2), .val (.int p3), .val (.int p4)]) rfl (kt)) ?_
  obtain ⟨v32, hv32⟩ : ∃ z : Int32, z = (own_pr v21 (2 : Int32) p2 p3 p4) := ⟨_, rfl⟩
  rw [← hv32]
  refine own_run (g' := (mkF m 40 #[.val (.ref o0), .val (.int v32), .val (.int p2), .val (.int p3), .val (.int p4)] [(.int p4), (.int p3), (.int p2), (.int (3 : Int32)), (.int v32), (.ref o0)])) (fun _ kt => XS.aloadN X3.here hx rfl (hb hby d1_33) rfl rfl (XS.iloadN X3.here hx rfl (hb hby d1_34) rfl (XS.iconst X3.here hx rfl (hb hby d1_35) (XS.iloadN X3.here hx rfl (hb hby d1_36) rfl (XS.iloadN X3.here hx rfl (hb hby d1_37) rfl (XS.iload X3.here hx rfl (hb hby d1_38) rfl (kt))))))) ?_
  have hb3 : (3 : Int32) < p4 → ¬ (own_f11 p3 (3 : Int32) p2) = (0 : Int32) → ¬ v32 < 0 ∧ v32 < (9 : Int32) := by subst hxs1 hv10 hxs2 hv21 hxs3 hv32; exact hbd 3 (by decide)
  refine own_callS X3 hx hZ hown (hw _ (List.mem_of_getElem? (i := 6) rfl)) (hw _ (List.mem_of_getElem? (i := 7) rfl)) (hw _ (List.mem_of_getElem? (i := 4) rfl)) (hw _ (List.mem_of_getElem? (i := 8) rfl)) (by decide) (rm2 l Z a0 hw [] o0 v32 (3 : Int32) p2 p3 p4 xs3 T3.heap n0 Z3 A3 g_o0 hb3) rfl (by decide) (by decide) (by decide) (by decide) (by rw [hml]; rfl) (argsL := [(.ref o0), (.int v32), (.int (3 : Int32)), (.int p2), (.int p3), (.int p4)]) (rest := []) (lenOf own_pd2 rfl) rfl (W := 0) (Nat.le_of_eq rfl) (hb hby d1_40) ?_
  intro T4 r4 L4 X4 hQ4
  obtain ⟨rfl, Nq4, Kc4, A4⟩ := hQ4
  have N4 := Fr.app N3 Nq4
  have Z4 : n0 ≤ T4.heap.size := Nat.le_trans Z3 Kc4.1
  have Kp4 : Keep h0 T4.heap [o0] := Keep.trans Kp3 Kc4 (allS (Or.inl (List.mem_of_getElem? (i := 0) rfl)) all0)
  obtain ⟨xs4, hxs4⟩ : ∃ z : List Int32, z = (own_px xs3 v32 (3 : Int32) p2 p3 p4) := ⟨_, rfl⟩
  rw [← hxs4] at A4
  refine own_run (g' := (mkF m 44 #[.val (.ref o0), .val (.int (own_pr v32 (3 : Int32) p2 p3 p4)), .val (.int p2), .val (.int p3), .val (.int p4)] [])) (fun _ kt => XS.istoreN X4.here hx rfl (hb hby d1_43) rfl (l' := #[.val (.ref o0), .val (.int (own_pr v32 (3 : Int32) p2 p3 p4)), .val (.int p2), .val (.int p3), .val (.int p4)]) rfl (kt)) ?_
  obtain ⟨v43, hv43⟩ : ∃ z : Int32, z = (own_pr v32 (3 : Int32) p2 p3 p4) := ⟨_, rfl⟩
  rw [← hv43]
  refine own_run (g' := (mkF m 51 #[.val (.ref o0), .val (.int v43), .val (.int p2), .val (.int p3), .val (.int p4)] [(.int p4), (.int p3), (.int p2), (.int (4 : Int32)), (.int v43), (.ref o0)])) (fun _ kt => XS.aloadN X4.here hx rfl (hb hby d1_44) rfl rfl (XS.iloadN X4.here hx rfl (hb hby d1_45) rfl (XS.iconst X4.here hx rfl (hb hby d1_46) (XS.iloadN X4.here hx rfl (hb hby d1_47) rfl (XS.iloadN X4.here hx rfl (hb hby d1_48) rfl (XS.iload X4.here hx rfl (hb hby d1_49) rfl (kt))))))) ?_
  have hb4 : (4 : Int32) < p4 → ¬ (own_f11 p3 (4 : Int32) p2) = (0 : Int32) → ¬ v43 < 0 ∧ v43 < (9 : Int32) := by subst hxs1 hv10 hxs2 hv21 hxs3 hv32 hxs4 hv43; exact hbd 4 (by decide)
  refine own_callS X4 hx hZ hown (hw _ (List.mem_of_getElem? (i := 6) rfl)) (hw _ (List.mem_of_getElem? (i := 7) rfl)) (hw _ (List.mem_of_getElem? (i := 4) rfl)) (hw _ (List.mem_of_getElem? (i := 8) rfl)) (by decide) (rm2 l Z a0 hw [] o0 v43 (4 : Int32) p2 p3 p4 xs4 T4.heap n0 Z4 A4 g_o0 hb4) rfl (by decide) (by decide) (by decide) (by decide) (by rw [hml]; rfl) (argsL := [(.ref o0), (.int v43), (.int (4 : Int32)), (.int p2), (.int p3), (.int p4)]) (rest := []) (lenOf own_pd2 rfl) rfl (W := 0) (Nat.le_of_eq rfl) (hb hby d1_51) ?_
  intro T5 r5 L5 X5 hQ5
  obtain ⟨rfl, Nq5, Kc5, A5⟩ := hQ5
  have N5 := Fr.app N4 Nq5
  have Z5 : n0 ≤ T5.heap.size := Nat.le_trans Z4 Kc5.1
  have Kp5 : Keep h0 T5.heap [o0] := Keep.trans Kp4 Kc5 (allS (Or.inl (List.mem_of_getElem? (i := 0) rfl)) all0)
  obtain ⟨xs5, hxs5⟩ : ∃ z : List Int32, z = (own_px xs4 v43 (4 : Int32) p2 p3 p4) := ⟨_, rfl⟩
  rw [← hxs5] at A5
  refine own_run (g' := (mkF m 55 #[.val (.ref o0), .val (.int (own_pr v43 (4 : Int32) p2 p3 p4)), .val (.int p2), .val (.int p3), .val (.int p4)] [])) (fun _ kt => XS.istoreN X5.here hx rfl (hb hby d1_54) rfl (l' := #[.val (.ref o0), .val (.int (own_pr v43 (4 : Int32) p2 p3 p4)), .val (.int p2), .val (.int p3), .val (.int p4)]) rfl (kt)) ?_
  obtain ⟨v54, hv54⟩ : ∃ z : Int32, z = (own_pr v43 (4 : Int32) p2 p3 p4) := ⟨_, rfl⟩
  rw [← hv54]
  refine own_run (g' := (mkF m 62 #[.val (.ref o0), .val (.int v54), .val (.int p2), .val (.int p3), .val (.int p4)] [(.int p4), (.int p3), (.int p2), (.int (5 : Int32)), (.int v54), (.ref o0)])) (fun _ kt => XS.aloadN X5.here hx rfl (hb hby d1_55) rfl rfl (XS.iloadN X5.here hx rfl (hb hby d1_56) rfl (XS.iconst X5.here hx rfl (hb hby d1_57) (XS.iloadN X5.here hx rfl (hb hby d1_58) rfl (XS.iloadN X5.here hx rfl (hb hby d1_59) rfl (XS.iload X5.here hx rfl (hb hby d1_60) rfl (kt))))))) ?_
  have hb5 : (5 : Int32) < p4 → ¬ (own_f11 p3 (5 : Int32) p2) = (0 : Int32) → ¬ v54 < 0 ∧ v54 < (9 : Int32) := by subst hxs1 hv10 hxs2 hv21 hxs3 hv32 hxs4 hv43 hxs5 hv54; exact hbd 5 (by decide)
  refine own_callS X5 hx hZ hown (hw _ (List.mem_of_getElem? (i := 6) rfl)) (hw _ (List.mem_of_getElem? (i := 7) rfl)) (hw _ (List.mem_of_getElem? (i := 4) rfl)) (hw _ (List.mem_of_getElem? (i := 8) rfl)) (by decide) (rm2 l Z a0 hw [] o0 v54 (5 : Int32) p2 p3 p4 xs5 T5.heap n0 Z5 A5 g_o0 hb5) rfl (by decide) (by decide) (by decide) (by decide) (by rw [hml]; rfl) (argsL := [(.ref o0), (.int v54), (.int (5 : Int32)), (.int p2), (.int p3), (.int p4)]) (rest := []) (lenOf own_pd2 rfl) rfl (W := 0) (Nat.le_of_eq rfl) (hb hby d1_62) ?_
  intro T6 r6 L6 X6 hQ6
  obtain ⟨rfl, Nq6, Kc6, A6⟩ := hQ6
  have N6 := Fr.app N5 Nq6
  have Z6 : n0 ≤ T6.heap.size := Nat.le_trans Z5 Kc6.1
  have Kp6 : Keep h0 T6.heap [o0] := Keep.trans Kp5 Kc6 (allS (Or.inl (List.mem_of_getElem? (i := 0) rfl)) all0)
  obtain ⟨xs6, hxs6⟩ : ∃ z : List Int32, z = (own_px xs5 v54 (5 : Int32) p2 p3 p4) := ⟨_, rfl⟩
  rw [← hxs6] at A6
  refine own_run (g' := (mkF m 66 #[.val (.ref o0), .val (.int (own_pr v54 (5 : Int32) p2 p3 p4)), .val (.int p2), .val (.int p3), .val (.int p4)] [])) (fun _ kt => XS.istoreN X6.here hx rfl (hb hby d1_65) rfl (l' := #[.val (.ref o0), .val (.int (own_pr v54 (5 : Int32) p2 p3 p4)), .val (.int p2), .val (.int p3), .val (.int p4)]) rfl (kt)) ?_
  obtain ⟨v65, hv65⟩ : ∃ z : Int32, z = (own_pr v54 (5 : Int32) p2 p3 p4) := ⟨_, rfl⟩
  rw [← hv65]
  refine own_run (g' := (mkF m 74 #[.val (.ref o0), .val (.int v65), .val (.int p2), .val (.int p3), .val (.int p4)] [(.int p4), (.int p3), (.int p2), (.int (6 : Int32)), (.int v65), (.ref o0)])) (fun _ kt => XS.aloadN X6.here hx rfl (hb hby d1_66) rfl rfl (XS.iloadN X6.here hx rfl (hb hby d1_67) rfl (XS.bipush X6.here hx rfl (hb hby d1_68) (XS.iloadN X6.here hx rfl (hb hby d1_70) rfl (XS.iloadN X6.here hx rfl (hb hby d1_71) rfl (XS.iload X6.here hx rfl (hb hby d1_72) rfl (kt))))))) ?_
  have hb6 : (6 : Int32) < p4 → ¬ (own_f11 p3 (6 : Int32) p2) = (0 : Int32) → ¬ v65 < 0 ∧ v65 < (9 : Int32) := by subst hxs1 hv10 hxs2 hv21 hxs3 hv32 hxs4 hv43 hxs5 hv54 hxs6 hv65; exact hbd 6 (by decide)
  refine own_callS X6 hx hZ hown (hw _ (List.mem_of_getElem? (i := 6) rfl)) (hw _ (List.mem_of_getElem? (i := 7) rfl)) (hw _ (List.mem_of_getElem? (i := 4) rfl)) (hw _ (List.mem_of_getElem? (i := 8) rfl)) (by decide) (rm2 l Z a0 hw [] o0 v65 (6 : Int32) p2 p3 p4 xs6 T6.heap n0 Z6 A6 g_o0 hb6) rfl (by decide) (by decide) (by decide) (by decide) (by rw [hml]; rfl) (argsL := [(.ref o0), (.int v65), (.int (6 : Int32)), (.int p2), (.int p3), (.int p4)]) (rest := []) (lenOf own_pd2 rfl) rfl (W := 0) (Nat.le_of_eq rfl) (hb hby d1_74) ?_
  intro T7 r7 L7 X7 hQ7
  obtain ⟨rfl, Nq7, Kc7, A7⟩ := hQ7
  have N7 := Fr.app N6 Nq7
  have Z7 : n0 ≤ T7.heap.size := Nat.le_trans Z6 Kc7.1
  have Kp7 : Keep h0 T7.heap [o0] := Keep.trans Kp6 Kc7 (allS (Or.inl (List.mem_of_getElem? (i := 0) rfl)) all0)
  obtain ⟨xs7, hxs7⟩ : ∃ z : List Int32, z = (own_px xs6 v65 (6 : Int32) p2 p3 p4) := ⟨_, rfl⟩
  rw [← hxs7] at A7
  refine own_run (g' := (mkF m 78 #[.val (.ref o0), .val (.int (own_pr v65 (6 : Int32) p2 p3 p4)), .val (.int p2), .val (.int p3), .val (.int p4)] [])) (fun _ kt => XS.istoreN X7.here hx rfl (hb hby d1_77) rfl (l' := #[.val (.ref o0), .val (.int (own_pr v65 (6 : Int32) p2 p3 p4)), .val (.int p2), .val (.int p3), .val (.int p4)]) rfl (kt)) ?_
  obtain ⟨v77, hv77⟩ : ∃ z : Int32, z = (own_pr v65 (6 : Int32) p2 p3 p4) := ⟨_, rfl⟩
  rw [← hv77]
  refine own_run (g' := (mkF m 86 #[.val (.ref o0), .val (.int v77), .val (.int p2), .val (.int p3), .val (.int p4)] [(.int p4), (.int p3), (.int p2), (.int (7 : Int32)), (.int v77), (.ref o0)])) (fun _ kt => XS.aloadN X7.here hx rfl (hb hby d1_78) rfl rfl (XS.iloadN X7.here hx rfl (hb hby d1_79) rfl (XS.bipush X7.here hx rfl (hb hby d1_80) (XS.iloadN X7.here hx rfl (hb hby d1_82) rfl (XS.iloadN X7.here hx rfl (hb hby d1_83) rfl (XS.iload X7.here hx rfl (hb hby d1_84) rfl (kt))))))) ?_
  have hb7 : (7 : Int32) < p4 → ¬ (own_f11 p3 (7 : Int32) p2) = (0 : Int32) → ¬ v77 < 0 ∧ v77 < (9 : Int32) := by subst hxs1 hv10 hxs2 hv21 hxs3 hv32 hxs4 hv43 hxs5 hv54 hxs6 hv65 hxs7 hv77; exact hbd 7 (by decide)
  refine own_callS X7 hx hZ hown (hw _ (List.mem_of_getElem? (i := 6) rfl)) (hw _ (List.mem_of_getElem? (i := 7) rfl)) (hw _ (List.mem_of_getElem? (i := 4) rfl)) (hw _ (List.mem_of_getElem? (i := 8) rfl)) (by decide) (rm2 l Z a0 hw [] o0 v77 (7 : Int32) p2 p3 p4 xs7 T7.heap n0 Z7 A7 g_o0 hb7) rfl (by decide) (by decide) (by decide) (by decide) (by rw [hml]; rfl) (argsL := [(.ref o0), (.int v77), (.int (7 : Int32)), (.int p2), (.int p3), (.int p4)]) (rest := []) (lenOf own_pd2 rfl) rfl (W := 0) (Nat.le_of_eq rfl) (hb hby d1_86) ?_
  intro T8 r8 L8 X8 hQ8
  obtain ⟨rfl, Nq8, Kc8, A8⟩ := hQ8
  have N8 := Fr.app N7 Nq8
  have Z8 : n0 ≤ T8.heap.size := Nat.le_trans Z7 Kc8.1
  have Kp8 : Keep h0 T8.heap [o0] := Keep.trans Kp7 Kc8 (allS (Or.inl (List.mem_of_getElem? (i := 0) rfl)) all0)
  obtain ⟨xs8, hxs8⟩ : ∃ z : List Int32, z = (own_px xs7 v77 (7 : Int32) p2 p3 p4) := ⟨_, rfl⟩
  rw [← hxs8] at A8
  refine own_run (g' := (mkF m 90 #[.val (.ref o0), .val (.int (own_pr v77 (7 : Int32) p2 p3 p4)), .val (.int p2), .val (.int p3), .val (.int p4)] [])) (fun _ kt => XS.istoreN X8.here hx rfl (hb hby d1_89) rfl (l' := #[.val (.ref o0), .val (.int (own_pr v77 (7 : Int32) p2 p3 p4)), .val (.int p2), .val (.int p3), .val (.int p4)]) rfl (kt)) ?_
  obtain ⟨v89, hv89⟩ : ∃ z : Int32, z = (own_pr v77 (7 : Int32) p2 p3 p4) := ⟨_, rfl⟩
  rw [← hv89]
  refine own_run (g' := (mkF m 98 #[.val (.ref o0), .val (.int v89), .val (.int p2), .val (.int p3), .val (.int p4)] [(.int p4), (.int p3), (.int p2), (.int (8 : Int32)), (.int v89), (.ref o0)])) (fun _ kt => XS.aloadN X8.here hx rfl (hb hby d1_90) rfl rfl (XS.iloadN X8.here hx rfl (hb hby d1_91) rfl (XS.bipush X8.here hx rfl (hb hby d1_92) (XS.iloadN X8.here hx rfl (hb hby d1_94) rfl (XS.iloadN X8.here hx rfl (hb hby d1_95) rfl (XS.iload X8.here hx rfl (hb hby d1_96) rfl (kt))))))) ?_
  have hb8 : (8 : Int32) < p4 → ¬ (own_f11 p3 (8 : Int32) p2) = (0 : Int32) → ¬ v89 < 0 ∧ v89 < (9 : Int32) := by subst hxs1 hv10 hxs2 hv21 hxs3 hv32 hxs4 hv43 hxs5 hv54 hxs6 hv65 hxs7 hv77 hxs8 hv89; exact hbd 8 (by decide)
  refine own_callS X8 hx hZ hown (hw _ (List.mem_of_getElem? (i := 6) rfl)) (hw _ (List.mem_of_getElem? (i := 7) rfl)) (hw _ (List.mem_of_getElem? (i := 4) rfl)) (hw _ (List.mem_of_getElem? (i := 8) rfl)) (by decide) (rm2 l Z a0 hw [] o0 v89 (8 : Int32) p2 p3 p4 xs8 T8.heap n0 Z8 A8 g_o0 hb8) rfl (by decide) (by decide) (by decide) (by decide) (by rw [hml]; rfl) (argsL := [(.ref o0), (.int v89), (.int (8 : Int32)), (.int p2), (.int p3), (.int p4)]) (rest := []) (lenOf own_pd2 rfl) rfl (W := 0) (Nat.le_of_eq rfl) (hb hby d1_98) ?_
  intro T9 r9 L9 X9 hQ9
  obtain ⟨rfl, Nq9, Kc9, A9⟩ := hQ9
  have N9 := Fr.app N8 Nq9
  have Z9 : n0 ≤ T9.heap.size := Nat.le_trans Z8 Kc9.1
  have Kp9 : Keep h0 T9.heap [o0] := Keep.trans Kp8 Kc9 (allS (Or.inl (List.mem_of_getElem? (i := 0) rfl)) all0)
  obtain ⟨xs9, hxs9⟩ : ∃ z : List Int32, z = (own_px xs8 v89 (8 : Int32) p2 p3 p4) := ⟨_, rfl⟩
  rw [← hxs9] at A9
  refine own_run (g' := (mkF m 102 #[.val (.ref o0), .val (.int (own_pr v89 (8 : Int32) p2 p3 p4)), .val (.int p2), .val (.int p3), .val (.int p4)] [])) (fun _ kt => XS.istoreN X9.here hx rfl (hb hby d1_101) rfl (l' := #[.val (.ref o0), .val (.int (own_pr v89 (8 : Int32) p2 p3 p4)), .val (.int p2), .val (.int p3), .val (.int p4)]) rfl (kt)) ?_
  obtain ⟨v101, hv101⟩ : ∃ z : Int32, z = (own_pr v89 (8 : Int32) p2 p3 p4) := ⟨_, rfl⟩
  rw [← hv101]
  refine own_run (g' := (mkF m 103 #[.val (.ref o0), .val (.int v101), .val (.int p2), .val (.int p3), .val (.int p4)] [(.int v101)])) (fun _ kt => XS.iloadN X9.here hx rfl (hb hby d1_102) rfl (kt)) ?_
  have hr : (own_blk p1 p2 p3 p4 xs).1 = v101 := by subst hxs1 hv10 hxs2 hv21 hxs3 hv32 hxs4 hv43 hxs5 hv54 hxs6 hv65 hxs7 hv77 hxs8 hv89 hxs9 hv101; rfl
  have hxs : (own_blk p1 p2 p3 p4 xs).2 = xs9 := by subst hxs1 hv10 hxs2 hv21 hxs3 hv32 hxs4 hv43 hxs5 hv54 hxs6 hv65 hxs7 hv77 hxs8 hv89 hxs9 hv101; rfl
  exact own_retI X9 hx Bd.notSynchronized Bd.returns (hb hby d1_103) (by decide) (by decide) ⟨congrArg (fun z => some (Value.int z)) hr.symm, N9, Kp9, by rw [hxs]; exact A9⟩
theorem own_clamp {n : Nat} (h : n < 2147483648) : (Int32.ofNat n).toNatClampNeg = n := by
  have e1 : (Int32.ofNat n).toInt = n := len_toInt h
  simp only [Int32.toNatClampNeg, e1]; omega
theorem own_one (i : Nat) : Int32.ofNat i + (1 : Int32) = Int32.ofNat (i + 1) := (Int32.ofNat_add i 1).symm
theorem own_ofnat_lt {j : Nat} {n : Int32} (h : j < 2147483648) : Int32.ofNat j < n ↔ j < n.toNatClampNeg := by
  have e1 : (Int32.ofNat j).toInt = j := len_toInt h
  rw [Int32.lt_iff_toInt_lt, e1]; simp only [Int32.toNatClampNeg]; omega
theorem own_clamp_lt (n : Int32) : n.toNatClampNeg < 2147483648 := by
  have := n.toInt_lt; simp only [Int32.toNatClampNeg]; omega
theorem own_ofnat_nn {j : Nat} (h : j < 2147483648) : ¬ Int32.ofNat j < 0 := by
  have e1 : (Int32.ofNat j).toInt = j := len_toInt h
  rw [Int32.lt_iff_toInt_lt, e1]; simp
theorem own_back {p : Int32} (h : ¬ p < 0) : Int32.ofNat p.toNatClampNeg = p := by
  have e1 : (Int32.ofNat p.toNatClampNeg).toInt = p.toNatClampNeg := len_toInt (own_clamp_lt p)
  rw [← Int32.toInt_inj, e1]
  rw [Int32.lt_iff_toInt_lt] at h
  simp only [Int32.toNatClampNeg]; simp at h; omega
theorem own_i32 {x k : Int32} (h : x.toInt = k.toInt) : x = k := Int32.toInt_inj.mp h
theorem own_and3 (x : Int32) : (x &&& (3 : Int32)) = 0 ∨ (x &&& (3 : Int32)) = 1 ∨ (x &&& (3 : Int32)) = 2 ∨ (x &&& (3 : Int32)) = 3 := by
  have e := Jvm.Kit.i32_mask x 3 (k := 2) (by decide) (by decide)
  have hb : x.toInt % 2 ^ 2 = 0 ∨ x.toInt % 2 ^ 2 = 1 ∨ x.toInt % 2 ^ 2 = 2 ∨ x.toInt % 2 ^ 2 = 3 := by omega
  rcases hb with h | h | h | h
  · exact Or.inl (own_i32 (k := 0) (e.trans h))
  · exact Or.inr (Or.inl (own_i32 (k := 1) (e.trans h)))
  · exact Or.inr (Or.inr (Or.inl (own_i32 (k := 2) (e.trans h))))
  · exact Or.inr (Or.inr (Or.inr (own_i32 (k := 3) (e.trans h))))

def own_ed (ms : List Int32) (t lo hi : Int32) (j : Nat) : Prop := lo.toNatClampNeg ≤ j ∧ j ≤ hi.toNatClampNeg ∧ (∀ k, lo.toNatClampNeg ≤ k → k < j → ms.getD k 0 < t) ∧ (j < hi.toNatClampNeg → ¬ ms.getD j 0 < t)
def own_H (a g t : Int32) (j : Nat) : Bool := decide (Int32.ofNat j < t ∧ ¬ own_f11 a (Int32.ofNat j) g = (0 : Int32))
def own_cnt (H : Nat → Bool) : Nat → Nat
  | 0 => 0
  | k + 1 => own_cnt H k + (if H k = true then 1 else 0)
theorem own_cnt_mono (H : Nat → Bool) {j k : Nat} (h : j ≤ k) : own_cnt H j ≤ own_cnt H k := by
  induction k with
  | zero => have : j = 0 := by omega
            rw [this]; exact Nat.le_refl _
  | succ k ih =>
    by_cases q : j = k + 1
    · rw [q]; exact Nat.le_refl _
    · exact Nat.le_trans (ih (by omega)) (by rw [own_cnt]; omega)
theorem own_cnt_hit (H : Nat → Bool) {j k : Nat} (h : j < k) (hj : H j = true) : own_cnt H j + 1 ≤ own_cnt H k := by
  refine Nat.le_trans ?_ (own_cnt_mono H (show j + 1 ≤ k by omega))
  rw [own_cnt, if_pos hj]; exact Nat.le_refl _
theorem own_cnt_le (H : Nat → Bool) (k : Nat) : own_cnt H k ≤ k := by
  induction k with
  | zero => exact Nat.le_refl _
  | succ k ih => rw [own_cnt]; split <;> omega
theorem own_cnt_two (H G : Nat → Bool) (hd : ∀ j, ¬ (H j = true ∧ G j = true)) (k : Nat) : own_cnt H k + own_cnt G k ≤ k := by
  induction k with
  | zero => exact Nat.le_refl _
  | succ k ih =>
    have := hd k
    rw [own_cnt, own_cnt]
    by_cases h1 : H k = true <;> by_cases h2 : G k = true
    · exact absurd ⟨h1, h2⟩ this
    · rw [if_pos h1, if_neg h2]; omega
    · rw [if_neg h1, if_pos h2]; omega
    · rw [if_neg h1, if_neg h2]; omega
theorem own_cnt_at (H : Nat → Bool) {i k : Nat} (h : i < own_cnt H k) : ∃ j, j < k ∧ H j = true ∧ own_cnt H j = i := by
  induction k with
  | zero => exact absurd h (Nat.not_lt_zero _)
  | succ k ih =>
    by_cases q : i < own_cnt H k
    · obtain ⟨j, h1, h2⟩ := ih q; exact ⟨j, by omega, h2⟩
    · rw [own_cnt] at h
      by_cases hk : H k = true
      · rw [if_pos hk] at h; exact ⟨k, by omega, hk, by omega⟩
      · rw [if_neg hk] at h; omega
theorem own_page {k : Nat} (h : k < 9) : own_pages.getD k 0 = Int32.ofNat k := by
  have e : k = 0 ∨ k = 1 ∨ k = 2 ∨ k = 3 ∨ k = 4 ∨ k = 5 ∨ k = 6 ∨ k = 7 ∨ k = 8 := by omega
  rcases e with rfl | rfl | rfl | rfl | rfl | rfl | rfl | rfl | rfl <;> rfl
theorem own_pre_succ {k : Nat} (h : k < 9) (p1 p2 p3 p4 : Int32) (xs : List Int32) : own_pre (k + 1) p1 p2 p3 p4 xs = own_step p2 p3 p4 (own_pre k p1 p2 p3 p4 xs) (Int32.ofNat k) := by
  have e : k = 0 ∨ k = 1 ∨ k = 2 ∨ k = 3 ∨ k = 4 ∨ k = 5 ∨ k = 6 ∨ k = 7 ∨ k = 8 := by omega
  rcases e with rfl | rfl | rfl | rfl | rfl | rfl | rfl | rfl | rfl <;> rfl
theorem own_inv (c0 : Nat) (g a t : Int32) (xs : List Int32) (hl : xs.length = 9) (hc : c0 + own_cnt (own_H a g t) 9 ≤ 9) : ∀ k, k ≤ 9 → (own_pre k (Int32.ofNat c0) g a t xs).1 = Int32.ofNat (c0 + own_cnt (own_H a g t) k) ∧ (own_pre k (Int32.ofNat c0) g a t xs).2.length = 9 ∧ (∀ i, i < c0 → (own_pre k (Int32.ofNat c0) g a t xs).2.getD i 0 = xs.getD i 0) ∧ ∀ j, j < k → own_H a g t j = true → (own_pre k (Int32.ofNat c0) g a t xs).2.getD (c0 + own_cnt (own_H a g t) j) 0 = Int32.ofNat j := by
  intro k
  induction k with
  | zero => intro _; exact ⟨rfl, hl, fun _ _ => rfl, fun j h => absurd h (Nat.not_lt_zero _)⟩
  | succ k ih =>
    intro hk
    obtain ⟨h1, h2, h3, h4⟩ := ih (by omega)
    rw [own_pre_succ (by omega)]
    unfold own_step own_pr own_px
    dsimp only
    by_cases hh : own_H a g t k = true
    · have hh' := of_decide_eq_true hh
      have hm := own_cnt_hit (own_H a g t) (show k < 9 by omega) hh
      have hc1 : (Int32.ofNat (c0 + own_cnt (own_H a g t) k)).toNatClampNeg = c0 + own_cnt (own_H a g t) k := own_clamp (by omega)
      rw [if_pos hh'.1, if_neg hh'.2, if_pos hh'.1, if_neg hh'.2, h1, hc1]
      refine ⟨?_, by rw [List.length_set]; exact h2, fun i hi => ?_, fun j hj hhj => ?_⟩
      · rw [own_cnt, if_pos hh, ← Nat.add_assoc]; exact own_one _
      · rw [List.getD_eq_getElem?_getD, List.getElem?_set_ne (by omega), ← List.getD_eq_getElem?_getD]; exact h3 i hi
      · by_cases q : j = k
        · subst q
          rw [List.getD_eq_getElem?_getD, List.getElem?_set_self (by omega)]; rfl
        · have := own_cnt_hit (own_H a g t) (show j < k by omega) hhj
          rw [List.getD_eq_getElem?_getD, List.getElem?_set_ne (by omega), ← List.getD_eq_getElem?_getD]; exact h4 j (by omega) hhj
    · have e1 : (if Int32.ofNat k < t then (if own_f11 a (Int32.ofNat k) g = (0 : Int32) then (own_pre k (Int32.ofNat c0) g a t xs).1 else ((own_pre k (Int32.ofNat c0) g a t xs).1 + (1 : Int32))) else (own_pre k (Int32.ofNat c0) g a t xs).1) = (own_pre k (Int32.ofNat c0) g a t xs).1 := by
        by_cases q1 : Int32.ofNat k < t
        · by_cases q2 : own_f11 a (Int32.ofNat k) g = (0 : Int32)
          · rw [if_pos q1, if_pos q2]
          · exact absurd (decide_eq_true ⟨q1, q2⟩) hh
        · rw [if_neg q1]
      have e2 : (if Int32.ofNat k < t then (if own_f11 a (Int32.ofNat k) g = (0 : Int32) then (own_pre k (Int32.ofNat c0) g a t xs).2 else ((own_pre k (Int32.ofNat c0) g a t xs).2.set (own_pre k (Int32.ofNat c0) g a t xs).1.toNatClampNeg (Int32.ofNat k))) else (own_pre k (Int32.ofNat c0) g a t xs).2) = (own_pre k (Int32.ofNat c0) g a t xs).2 := by
        by_cases q1 : Int32.ofNat k < t
        · by_cases q2 : own_f11 a (Int32.ofNat k) g = (0 : Int32)
          · rw [if_pos q1, if_pos q2]
          · exact absurd (decide_eq_true ⟨q1, q2⟩) hh
        · rw [if_neg q1]
      rw [e1, e2]
      refine ⟨?_, h2, h3, fun j hj hhj => ?_⟩
      · rw [own_cnt, if_neg hh, Nat.add_zero]; exact h1
      · by_cases q : j = k
        · subst q; exact absurd hhj hh
        · exact h4 j (by omega) hhj
theorem own_bd (c0 : Nat) (g a t : Int32) (xs : List Int32) (hl : xs.length = 9) (hc : c0 + own_cnt (own_H a g t) 9 ≤ 9) : ∀ k, k < 9 → (own_pages.getD k 0) < t → ¬ (own_f11 a (own_pages.getD k 0) g) = (0 : Int32) → ¬ (own_pre k (Int32.ofNat c0) g a t xs).1 < 0 ∧ (own_pre k (Int32.ofNat c0) g a t xs).1 < (9 : Int32) := by
  intro k hk h1 h2
  rw [own_page hk] at h1 h2
  have hh : own_H a g t k = true := decide_eq_true ⟨h1, h2⟩
  have hm := own_cnt_hit (own_H a g t) hk hh
  rw [(own_inv c0 g a t xs hl hc k (by omega)).1]
  exact ⟨own_ofnat_nn (by omega), (own_ofnat_lt (by omega)).mpr (Nat.lt_of_lt_of_le (show c0 + own_cnt (own_H a g t) k < 9 by omega) (Nat.le_of_eq rfl))⟩
/-- what 'has' answers, by the members of a block -/
theorem own_has (H : Nat → Bool) (ms : List Int32) (lo : Nat) (t t' LO HI : Int32) (j j' : Nat) (hLO : LO = Int32.ofNat lo) (hHI : HI = Int32.ofNat (lo + own_cnt H 9)) (h9 : lo + own_cnt H 9 ≤ 9) (hm : ∀ q, q < 9 → H q = true → ms.getD (lo + own_cnt H q) 0 = Int32.ofNat q) (htt : t.toInt ≤ t'.toInt) (hj : own_ed ms t LO HI j) (hj' : own_ed ms t' LO HI j') : j < j' ↔ ∃ q, q < 9 ∧ H q = true ∧ ¬ Int32.ofNat q < t ∧ Int32.ofNat q < t' := by
  have cLO : LO.toNatClampNeg = lo := by rw [hLO]; exact own_clamp (by omega)
  have cHI : HI.toNatClampNeg = lo + own_cnt H 9 := by rw [hHI]; exact own_clamp (by omega)
  obtain ⟨a1, a2, a3, a4⟩ := hj
  obtain ⟨b1, b2, b3, b4⟩ := hj'
  rw [cLO] at a1 a3 b1 b3
  rw [cHI] at a2 a4 b2 b4
  constructor
  · intro h
    obtain ⟨q, hq, hHq, hcq⟩ := own_cnt_at H (show j - lo < own_cnt H 9 by omega)
    have e := hm q hq hHq
    rw [show lo + own_cnt H q = j by omega] at e
    refine ⟨q, hq, hHq, ?_, ?_⟩
    · rw [← e]; exact a4 (by omega)
    · rw [← e]; exact b3 j a1 h
  · rintro ⟨q, hq, hHq, h1, h2⟩
    have hm1 := own_cnt_hit H hq hHq
    have e := hm q hq hHq
    have hle : j ≤ lo + own_cnt H q := by
      apply Nat.le_of_not_lt; intro z
      have := a3 (lo + own_cnt H q) (by omega) z
      rw [e] at this; exact h1 this
    have hlt : lo + own_cnt H q < j' := by
      apply Nat.lt_of_not_le; intro z
      -- the place j' lies at or below q's: its page is at most q
      have hj9 : j' < lo + own_cnt H 9 := by omega
      obtain ⟨q', hq', hHq', hcq'⟩ := own_cnt_at H (show j' - lo < own_cnt H 9 by omega)
      have e' := hm q' hq' hHq'
      rw [show lo + own_cnt H q' = j' by omega] at e'
      have hqq : q' ≤ q := by
        apply Nat.le_of_not_lt; intro y
        have := own_cnt_hit H y hHq
        omega
      have := b4 hj9
      rw [e'] at this
      apply this
      rw [Int32.lt_iff_toInt_lt] at h2 ⊢
      have e1 : (Int32.ofNat q').toInt = q' := len_toInt (by omega)
      have e2 : (Int32.ofNat q).toInt = q := len_toInt (by omega)
      rw [e1]; rw [e2] at h2; omega
    omega

def own_Z9 : List Int32 := [(0 : Int32), (0 : Int32), (0 : Int32), (0 : Int32), (0 : Int32), (0 : Int32), (0 : Int32), (0 : Int32), (0 : Int32)]
theorem own_H_two {a g1 g2 t : Int32} (hne : g1 ≠ g2) : ∀ j, ¬ (own_H a g1 t j = true ∧ own_H a g2 t j = true) := by
  rintro j ⟨h1, h2⟩
  have h1 := (of_decide_eq_true h1).2
  have h2 := (of_decide_eq_true h2).2
  unfold own_f11 at h1 h2
  by_cases q1 : (XT.ushr a ((2 : Int32) * Int32.ofNat j) &&& (3 : Int32)) = g1
  · by_cases q2 : (XT.ushr a ((2 : Int32) * Int32.ofNat j) &&& (3 : Int32)) = g2
    · exact hne (q1.symm.trans q2)
    · exact h2 (if_neg q2)
  · exact h1 (if_neg q1)
theorem own_blk1 (g a t : Int32) : own_blk (0 : Int32) g a t own_Z9 = own_pre 9 (Int32.ofNat 0) g a t own_Z9 := rfl
theorem own_core (g1 g2 a t v w : Int32) (x1 x2 : List Int32) (hne : g1 ≠ g2) (hv : v = (own_blk (0 : Int32) g1 a t own_Z9).1) (hx1 : x1 = (own_blk (0 : Int32) g1 a t own_Z9).2) (hw : w = (own_blk v g2 a t x1).1) (hx2 : x2 = (own_blk v g2 a t x1).2) :
    v = Int32.ofNat (own_cnt (own_H a g1 t) 9) ∧ x1.length = 9 ∧ own_cnt (own_H a g1 t) 9 + own_cnt (own_H a g2 t) 9 ≤ 9 ∧ w = Int32.ofNat (own_cnt (own_H a g1 t) 9 + own_cnt (own_H a g2 t) 9) ∧ (∀ q, q < 9 → own_H a g1 t q = true → x2.getD (0 + own_cnt (own_H a g1 t) q) 0 = Int32.ofNat q) ∧ (∀ q, q < 9 → own_H a g2 t q = true → x2.getD (own_cnt (own_H a g1 t) 9 + own_cnt (own_H a g2 t) q) 0 = Int32.ofNat q) := by
  have i1 := own_inv 0 g1 a t own_Z9 rfl (by have := own_cnt_le (own_H a g1 t) 9; omega) 9 (Nat.le_refl _)
  rw [own_blk1] at hv hx1
  rw [i1.1, Nat.zero_add] at hv
  have hl1 : x1.length = 9 := by rw [hx1]; exact i1.2.1
  have h9 := own_cnt_two _ _ (own_H_two (a := a) (t := t) hne) 9
  have e2 : own_blk v g2 a t x1 = own_pre 9 (Int32.ofNat (own_cnt (own_H a g1 t) 9)) g2 a t x1 := by rw [hv]; rfl
  have i2 := own_inv (own_cnt (own_H a g1 t) 9) g2 a t x1 hl1 h9 9 (Nat.le_refl _)
  rw [e2] at hw hx2
  refine ⟨hv, hl1, h9, by rw [hw]; exact i2.1, fun q hq hh => ?_, fun q hq hh => by rw [hx2]; exact i2.2.2.2 q hq hh⟩
  have hm := own_cnt_hit _ hq hh
  rw [hx2, i2.2.2.1 _ (by omega), hx1]
  exact i1.2.2.2 q hq hh
theorem own_rng0 (a t g v w : Int32) (x1 x2 : List Int32) (hg : g = 0 ∨ g = 1) (hv : v = (own_blk (0 : Int32) (0 : Int32) a t own_Z9).1) (hx1 : x1 = (own_blk (0 : Int32) (0 : Int32) a t own_Z9).2) (hw : w = (own_blk v (1 : Int32) a t x1).1) (hx2 : x2 = (own_blk v (1 : Int32) a t x1).2) :
    ∃ lo, ([(0 : Int32), v, v, w].getD ((2 : Int32) * g).toNatClampNeg 0) = Int32.ofNat lo ∧ ([(0 : Int32), v, v, w].getD (((2 : Int32) * g) + (1 : Int32)).toNatClampNeg 0) = Int32.ofNat (lo + own_cnt (own_H a g t) 9) ∧ lo + own_cnt (own_H a g t) 9 ≤ 9 ∧ ∀ q, q < 9 → own_H a g t q = true → x2.getD (lo + own_cnt (own_H a g t) q) 0 = Int32.ofNat q := by
  obtain ⟨c1, c2, c3, c4, c5, c6⟩ := own_core 0 1 a t v w x1 x2 (by decide) hv hx1 hw hx2
  rcases hg with h | h <;> subst h
  · exact ⟨0, rfl, by rw [Nat.zero_add]; exact c1, by omega, c5⟩
  · exact ⟨own_cnt (own_H a 0 t) 9, c1, c4, c3, c6⟩
theorem own_rng1 (a t g v w : Int32) (x1 x2 : List Int32) (hg : g = 0 ∨ g = 1) (hv : v = (own_blk (0 : Int32) (1 : Int32) a t own_Z9).1) (hx1 : x1 = (own_blk (0 : Int32) (1 : Int32) a t own_Z9).2) (hw : w = (own_blk v (0 : Int32) a t x1).1) (hx2 : x2 = (own_blk v (0 : Int32) a t x1).2) :
    ∃ lo, ([v, w, (0 : Int32), v].getD ((2 : Int32) * g).toNatClampNeg 0) = Int32.ofNat lo ∧ ([v, w, (0 : Int32), v].getD (((2 : Int32) * g) + (1 : Int32)).toNatClampNeg 0) = Int32.ofNat (lo + own_cnt (own_H a g t) 9) ∧ lo + own_cnt (own_H a g t) 9 ≤ 9 ∧ ∀ q, q < 9 → own_H a g t q = true → x2.getD (lo + own_cnt (own_H a g t) q) 0 = Int32.ofNat q := by
  obtain ⟨c1, c2, c3, c4, c5, c6⟩ := own_core 1 0 a t v w x1 x2 (by decide) hv hx1 hw hx2
  rcases hg with h | h <;> subst h
  · exact ⟨own_cnt (own_H a 1 t) 9, c1, c4, c3, c6⟩
  · exact ⟨0, rfl, by rw [Nat.zero_add]; exact c1, by omega, c5⟩
theorem own_exp (a g t t' tot s : Int32) (h0 : 0 ≤ t.toInt) (h1 : t.toInt ≤ t'.toInt) (h2 : t'.toInt ≤ tot.toInt) (h3 : tot.toInt ≤ 9) (h4 : t'.toInt - t.toInt ≤ 3) (hs : s = t' - t) : (∃ q, q < 9 ∧ own_H a g tot q = true ∧ ¬ Int32.ofNat q < t ∧ Int32.ofNat q < t') ↔ (((0 : Int32) < s ∧ ¬ own_f11 a t g = (0 : Int32)) ∨ ((1 : Int32) < s ∧ ¬ own_f11 a (t + (1 : Int32)) g = (0 : Int32)) ∨ ((2 : Int32) < s ∧ ¬ own_f11 a (t + (2 : Int32)) g = (0 : Int32))) := by
  have e0 : (0 : Int32).toInt = 0 := rfl
  have e1 : (1 : Int32).toInt = 1 := rfl
  have e2 : (2 : Int32).toInt = 2 := rfl
  have es : s.toInt = t'.toInt - t.toInt := by rw [hs]; exact Jvm.Kit.i32_sub (by omega) (by omega)
  have p1 : (t + (1 : Int32)).toInt = t.toInt + 1 := by rw [Jvm.Kit.i32_add (by omega) (by omega), e1]
  have p2 : (t + (2 : Int32)).toInt = t.toInt + 2 := by rw [Jvm.Kit.i32_add (by omega) (by omega), e2]
  simp only [Int32.lt_iff_toInt_lt, e0, e1, e2, es]
  have of_ : ∀ (y : Int32), 0 ≤ y.toInt → y.toInt < 9 → Int32.ofNat y.toInt.toNat = y := fun y q1 q2 => Int32.toInt_inj.mp (by
    have : (Int32.ofNat y.toInt.toNat).toInt = (y.toInt.toNat : Nat) := len_toInt (by omega)
    rw [this]; omega)
  constructor
  · rintro ⟨q, hq, hH, hq1, hq2⟩
    have eq : (Int32.ofNat q).toInt = q := len_toInt (by omega)
    rw [eq] at hq1 hq2
    have hf := (of_decide_eq_true hH).2
    by_cases d0 : (q : Int) = t.toInt
    · have : Int32.ofNat q = t := Int32.toInt_inj.mp (by rw [eq]; exact d0)
      rw [this] at hf; exact Or.inl ⟨by omega, hf⟩
    · by_cases d1 : (q : Int) = t.toInt + 1
      · have : Int32.ofNat q = t + (1 : Int32) := Int32.toInt_inj.mp (by rw [eq, p1]; exact d1)
        rw [this] at hf; exact Or.inr (Or.inl ⟨by omega, hf⟩)
      · have : Int32.ofNat q = t + (2 : Int32) := Int32.toInt_inj.mp (by rw [eq, p2]; omega)
        rw [this] at hf; exact Or.inr (Or.inr ⟨by omega, hf⟩)
  · have mk : ∀ (y : Int32), t.toInt ≤ y.toInt → y.toInt < t'.toInt → ¬ own_f11 a y g = (0 : Int32) → ∃ q, q < 9 ∧ own_H a g tot q = true ∧ ¬ (Int32.ofNat q).toInt < t.toInt ∧ (Int32.ofNat q).toInt < t'.toInt := by
      intro y q1 q2 q3
      have ey := of_ y (by omega) (by omega)
      refine ⟨y.toInt.toNat, by omega, decide_eq_true ⟨?_, ?_⟩, ?_, ?_⟩
      · rw [ey, Int32.lt_iff_toInt_lt]; omega
      · rw [ey]; exact q3
      · rw [ey]; omega
      · rw [ey]; exact q2
    rintro (⟨d, hf⟩ | ⟨d, hf⟩ | ⟨d, hf⟩)
    · exact mk t (by omega) (by omega) hf
    · exact mk _ (by omega) (by omega) hf
    · exact mk _ (by omega) (by omega) hf
theorem own_m3I (x : Int32) : 0 ≤ (x &&& (3 : Int32)).toInt ∧ (x &&& (3 : Int32)).toInt ≤ 3 := by
  have e := Jvm.Kit.i32_mask x 3 (k := 2) (by decide) (by decide)
  rw [e]; omega
theorem own_e3 (x : Int32) : ((x &&& (2147483647 : Int32)) % (3 : Int32)) = 0 ∨ ((x &&& (2147483647 : Int32)) % (3 : Int32)) = 1 ∨ ((x &&& (2147483647 : Int32)) % (3 : Int32)) = 2 := by
  have e := Jvm.Kit.i32_mask x 2147483647 (k := 31) (by decide) (by decide)
  have e9 : (3 : Int32).toInt = 3 := rfl
  have r := Jvm.Kit.i32_rem_nonneg (x := x &&& (2147483647 : Int32)) (y := 3) (by rw [e]; omega)
  rw [e9] at r
  have hb : (x &&& (2147483647 : Int32)).toInt % 3 = 0 ∨ (x &&& (2147483647 : Int32)).toInt % 3 = 1 ∨ (x &&& (2147483647 : Int32)).toInt % 3 = 2 := by omega
  rcases hb with h | h | h
  · exact Or.inl (Int32.toInt_inj.mp (r.trans h))
  · exact Or.inr (Or.inl (Int32.toInt_inj.mp (r.trans h)))
  · exact Or.inr (Or.inr (Int32.toInt_inj.mp (r.trans h)))
theorem own_g2 (x : Int32) : (x &&& (1 : Int32)) = 0 ∨ (x &&& (1 : Int32)) = 1 := by
  have e := Jvm.Kit.i32_mask x 1 (k := 1) (by decide) (by decide)
  have hb : x.toInt % 2 ^ 1 = 0 ∨ x.toInt % 2 ^ 1 = 1 := by omega
  rcases hb with h | h
  · exact Or.inl (Int32.toInt_inj.mp (e.trans h))
  · exact Or.inr (Int32.toInt_inj.mp (e.trans h))
theorem own_offs (a b c e : Int32) (ha : 0 ≤ a.toInt ∧ a.toInt ≤ 3) (hb : 0 ≤ b.toInt ∧ b.toInt ≤ 3) (hc : 0 ≤ c.toInt ∧ c.toInt ≤ 3) (he : e = 0 ∨ e = 1 ∨ e = 2) (t t' tot : Int32) (ht : t = ([(0 : Int32), a, (a + b), ((a + b) + c)].getD e.toNatClampNeg 0)) (ht' : t' = ([(0 : Int32), a, (a + b), ((a + b) + c)].getD (e + (1 : Int32)).toNatClampNeg 0)) (htot : tot = ((a + b) + c)) : 0 ≤ t.toInt ∧ t.toInt ≤ t'.toInt ∧ t'.toInt ≤ tot.toInt ∧ tot.toInt ≤ 9 ∧ t'.toInt - t.toInt ≤ 3 := by
  have e0 : (0 : Int32).toInt = 0 := rfl
  have s1 : (a + b).toInt = a.toInt + b.toInt := Jvm.Kit.i32_add (by omega) (by omega)
  have s2 : ((a + b) + c).toInt = a.toInt + b.toInt + c.toInt := by rw [Jvm.Kit.i32_add (by omega) (by omega), s1]
  rcases he with h | h | h <;> subst h
  · have q1 : t = 0 := ht
    have q2 : t' = a := ht'
    rw [q1, q2, htot, e0, s2]; omega
  · have q1 : t = a := ht
    have q2 : t' = a + b := ht'
    rw [q1, q2, htot, s1, s2]; omega
  · have q1 : t = a + b := ht
    have q2 : t' = (a + b) + c := ht'
    rw [q1, q2, htot, s1, s2]; omega

theorem own_bd1 (g a t : Int32) : ∀ k, k < 9 → (own_pages.getD k 0) < t → ¬ (own_f11 a (own_pages.getD k 0) g) = (0 : Int32) → ¬ (own_pre k (0 : Int32) g a t own_Z9).1 < 0 ∧ (own_pre k (0 : Int32) g a t own_Z9).1 < (9 : Int32) :=
  own_bd 0 g a t own_Z9 rfl (by have := own_cnt_le (own_H a g t) 9; omega)
theorem own_bd2 {g1 g2 a t v : Int32} {x1 : List Int32} (hne : g1 ≠ g2) (hv : v = (own_blk (0 : Int32) g1 a t own_Z9).1) (hx1 : x1 = (own_blk (0 : Int32) g1 a t own_Z9).2) : ∀ k, k < 9 → (own_pages.getD k 0) < t → ¬ (own_f11 a (own_pages.getD k 0) g2) = (0 : Int32) → ¬ (own_pre k v g2 a t x1).1 < 0 ∧ (own_pre k v g2 a t x1).1 < (9 : Int32) := by
  obtain ⟨c1, c2, c3, _⟩ := own_core g1 g2 a t v _ x1 _ hne hv hx1 rfl rfl
  rw [c1]; exact own_bd _ g2 a t x1 c2 c3
theorem own_hlo {LO HI : Int32} {lo c : Nat} (h1 : LO = Int32.ofNat lo) (h2 : HI = Int32.ofNat (lo + c)) (h9 : lo + c ≤ 9) : ¬ LO < 0 ∧ LO.toNatClampNeg ≤ HI.toNatClampNeg ∧ HI.toNatClampNeg ≤ 9 := by
  have e1 : LO.toNatClampNeg = lo := by rw [h1]; exact own_clamp (by omega)
  have e2 : HI.toNatClampNeg = lo + c := by rw [h2]; exact own_clamp (by omega)
  refine ⟨by rw [h1]; exact own_ofnat_nn (by omega), by omega, by omega⟩
theorem own_fin (a g t t' tot s T : Int32) (ms : List Int32) (lo : Nat) (LO HI : Int32) (j k : Nat) (v : Int32) (hT : t = T) (ho : 0 ≤ t.toInt ∧ t.toInt ≤ t'.toInt ∧ t'.toInt ≤ tot.toInt ∧ tot.toInt ≤ 9 ∧ t'.toInt - t.toInt ≤ 3) (hs : s = t' - t) (hLO : LO = Int32.ofNat lo) (hHI : HI = Int32.ofNat (lo + own_cnt (own_H a g tot) 9)) (h9 : lo + own_cnt (own_H a g tot) 9 ≤ 9) (hm : ∀ q, q < 9 → own_H a g tot q = true → ms.getD (lo + own_cnt (own_H a g tot) q) 0 = Int32.ofNat q) (hj : own_ed ms T LO HI j) (hk : own_ed ms t' LO HI k) (hv : v = (if (0 : Int32) < s then (if (own_f11 a t g) = (0 : Int32) then (if (1 : Int32) < s then (if (own_f11 a (t + (1 : Int32)) g) = (0 : Int32) then (if (2 : Int32) < s then (if (own_f11 a (t + (2 : Int32)) g) = (0 : Int32) then (0 : Int32) else (1 : Int32)) else (0 : Int32)) else (1 : Int32)) else (if (2 : Int32) < s then (if (own_f11 a (t + (2 : Int32)) g) = (0 : Int32) then (0 : Int32) else (1 : Int32)) else (0 : Int32))) else (1 : Int32)) else (if (1 : Int32) < s then (if (own_f11 a (t + (1 : Int32)) g) = (0 : Int32) then (if (2 : Int32) < s then (if (own_f11 a (t + (2 : Int32)) g) = (0 : Int32) then (0 : Int32) else (1 : Int32)) else (0 : Int32)) else (1 : Int32)) else (if (2 : Int32) < s then (if (own_f11 a (t + (2 : Int32)) g) = (0 : Int32) then (0 : Int32) else (1 : Int32)) else (0 : Int32))))) : (if j < k then (1 : Int32) else (0 : Int32)) = v := by
  subst hT
  have h1 := own_has (own_H a g tot) ms lo t t' LO HI j k hLO hHI h9 hm ho.2.1 hj hk
  rw [own_exp a g t t' tot s ho.1 ho.2.1 ho.2.2.1 ho.2.2.2.1 ho.2.2.2.2 hs] at h1
  rw [hv]
  generalize own_f11 a t g = x at h1 ⊢
  generalize own_f11 a (t + (1 : Int32)) g = y at h1 ⊢
  generalize own_f11 a (t + (2 : Int32)) g = z at h1 ⊢
  by_cases q : j < k
  · rw [if_pos q]
    have h2 := h1.mp q
    by_cases d0 : (0 : Int32) < s <;> by_cases d1 : (1 : Int32) < s <;> by_cases d2 : (2 : Int32) < s <;> by_cases z0 : x = 0 <;> by_cases z1 : y = 0 <;> by_cases z2 : z = 0 <;> simp only [d0, d1, d2, z0, z1, z2, if_true, if_false, not_true, not_false_eq_true, and_true, and_false, or_false, false_or, or_self, or_true, true_or] at h2 ⊢
  · rw [if_neg q]
    have h2 := mt h1.mpr q
    by_cases d0 : (0 : Int32) < s <;> by_cases d1 : (1 : Int32) < s <;> by_cases d2 : (2 : Int32) < s <;> by_cases z0 : x = 0 <;> by_cases z1 : y = 0 <;> by_cases z2 : z = 0 <;> simp only [d0, d1, d2, z0, z1, z2, if_true, if_false, not_true, not_false_eq_true, and_true, and_false, or_false, false_or, or_self, or_true, true_or] at h2 ⊢

theorem own_pn10 : plainName "com/example/lugha/lugha/concepts/PageGroups" = true := by first | (simp [plainName, overriddenIn]; done) | decide +kernel
theorem own_ef10 (m : MethodId) (o0 : Addr) (p1 : Int32) (p2 : Int32) : entryFrame m #[(.ref o0), (.int p1), (.int p2)] 5 = mkF m 0 #[.val (.ref o0), .val (.int p1), .val (.int p2), .unset, .unset] [] := by first | (simp [entryFrame, mkF, argsToLocals, Value.category]; done) | rfl
def own_R10 : Room := ({ frames := 0, cells := 0, slots := 0, locals := 0 } : Room)
def Q10 (ms : List Int32) (t lo hi : Int32) (h0 : Heap) (n0 : Nat) (v : Option Value) (h : Heap) (L : List Loc) : Prop := ∃ j : Nat, v = some (.int (Int32.ofNat j)) ∧ Fr n0 L ∧ h = h0 ∧ own_ed ms t lo hi j
theorem d10_0 : decode prog_4_method_8_code 0 = .ok (.aload_n 0, 1) := by decide +kernel
theorem d10_1 : decode prog_4_method_8_code 1 = .ok (.getfield 13, 3) := by decide +kernel
theorem d10_4 : decode prog_4_method_8_code 4 = .ok (.iload_n 2, 1) := by decide +kernel
theorem d10_5 : decode prog_4_method_8_code 5 = .ok (.iaload, 1) := by decide +kernel
theorem d10_6 : decode prog_4_method_8_code 6 = .ok (.istore_n 3, 1) := by decide +kernel
theorem d10_7 : decode prog_4_method_8_code 7 = .ok (.aload_n 0, 1) := by decide +kernel
theorem d10_8 : decode prog_4_method_8_code 8 = .ok (.getfield 20, 3) := by decide +kernel
theorem d10_11 : decode prog_4_method_8_code 11 = .ok (.iconst 2, 1) := by decide +kernel
theorem d10_12 : decode prog_4_method_8_code 12 = .ok (.iload_n 1, 1) := by decide +kernel
theorem d10_13 : decode prog_4_method_8_code 13 = .ok (.imul, 1) := by decide +kernel
theorem d10_14 : decode prog_4_method_8_code 14 = .ok (.iaload, 1) := by decide +kernel
theorem d10_15 : decode prog_4_method_8_code 15 = .ok (.istore 4, 2) := by decide +kernel
theorem d10_17 : decode prog_4_method_8_code 17 = .ok (.iload 4, 2) := by decide +kernel
theorem d10_19 : decode prog_4_method_8_code 19 = .ok (.aload_n 0, 1) := by decide +kernel
theorem d10_20 : decode prog_4_method_8_code 20 = .ok (.getfield 20, 3) := by decide +kernel
theorem d10_23 : decode prog_4_method_8_code 23 = .ok (.iconst 2, 1) := by decide +kernel
theorem d10_24 : decode prog_4_method_8_code 24 = .ok (.iload_n 1, 1) := by decide +kernel
theorem d10_25 : decode prog_4_method_8_code 25 = .ok (.imul, 1) := by decide +kernel
theorem d10_26 : decode prog_4_method_8_code 26 = .ok (.iconst 1, 1) := by decide +kernel
theorem d10_27 : decode prog_4_method_8_code 27 = .ok (.iadd, 1) := by decide +kernel
theorem d10_28 : decode prog_4_method_8_code 28 = .ok (.iaload, 1) := by decide +kernel
theorem d10_29 : decode prog_4_method_8_code 29 = .ok (.if_icmp .ge 20, 3) := by decide +kernel
theorem d10_32 : decode prog_4_method_8_code 32 = .ok (.aload_n 0, 1) := by decide +kernel
theorem d10_33 : decode prog_4_method_8_code 33 = .ok (.getfield 23, 3) := by decide +kernel
theorem d10_36 : decode prog_4_method_8_code 36 = .ok (.iload 4, 2) := by decide +kernel
theorem d10_38 : decode prog_4_method_8_code 38 = .ok (.iaload, 1) := by decide +kernel
theorem d10_39 : decode prog_4_method_8_code 39 = .ok (.iload_n 3, 1) := by decide +kernel
theorem d10_40 : decode prog_4_method_8_code 40 = .ok (.if_icmp .ge 9, 3) := by decide +kernel
theorem d10_43 : decode prog_4_method_8_code 43 = .ok (.iinc 4 1, 3) := by decide +kernel
theorem d10_46 : decode prog_4_method_8_code 46 = .ok (.goto (-29), 3) := by decide +kernel
theorem d10_49 : decode prog_4_method_8_code 49 = .ok (.iload 4, 2) := by decide +kernel
theorem d10_51 : decode prog_4_method_8_code 51 = .ok (.ireturn, 1) := by decide +kernel
set_option maxRecDepth 65536 in
set_option maxHeartbeats 40000000 in
theorem rm10 (l : Launch) (Z : State) (a0 : Array Value) (hw : ∀ d ∈ tables_1, d.before a0 Z = true) (ws : List Jvm.Cond) (o0 : Addr) (p1 : Int32) (p2 : Int32) (x y z : Addr) (os rs ms : List Int32) (t lo hi : Int32) (h0 : Heap) (n0 : Nat) (F1 : Fld Z h0 o0 "com/example/lugha/lugha/concepts/PageGroups" "offsets" "[I" (.ref x)) (F2 : Fld Z h0 o0 "com/example/lugha/lugha/concepts/PageGroups" "ranges" "[I" (.ref y)) (F3 : Fld Z h0 o0 "com/example/lugha/lugha/concepts/PageGroups" "members" "[I" (.ref z)) (A1 : own_A Z h0 x .int (4 : Int32) os) (A2 : own_A Z h0 y .int (4 : Int32) rs) (A3 : own_A Z h0 z .int (9 : Int32) ms) (hp2 : ¬ p2 < 0 ∧ p2 < (4 : Int32)) (ht : os.getD p2.toNatClampNeg 0 = t) (hg : ¬ ((2 : Int32) * p1) < 0 ∧ ((2 : Int32) * p1) < (4 : Int32)) (hlo : rs.getD ((2 : Int32) * p1).toNatClampNeg 0 = lo) (hg1 : ¬ (((2 : Int32) * p1) + (1 : Int32)) < 0 ∧ (((2 : Int32) * p1) + (1 : Int32)) < (4 : Int32)) (hhi : rs.getD (((2 : Int32) * p1) + (1 : Int32)).toNatClampNeg 0 = hi) (hl0 : ¬ lo < 0) (hlh : lo.toNatClampNeg ≤ hi.toNatClampNeg) (h9 : hi.toNatClampNeg ≤ 9) :
    MetFree l (⟨"com/example/lugha/lugha/concepts/PageGroups", "editionFrom", "(II)I"⟩ : MethodName) (head1 (Jvm.Cond.code (⟨"com/example/lugha/lugha/concepts/PageGroups", "editionFrom", "(II)I"⟩ : MethodName) prog_4_method_8_code 5 (some .int) :: ws) own_R10) (fun a U => a = #[(.ref o0), (.int p1), (.int p2)] ∧ Z.Warmed39 U.vm ∧ U.heap = h0) (fun _ _ _ _ _ => True) (fun _ U o U' => ∃ v L, o = .returned v ∧ Q10 ms t lo hi h0 n0 v U'.heap L ∧ FrameEnd U o U' L own_R10.cells own_R10.slots) := by
  refine MetFree.of_bodySF (plainFor_of_name own_pn10) hisR ?_
  intro p e s m args below meth c s₁ Bd hml0 hP hK
  obtain ⟨ha, hZ, hh⟩ := hP
  have hx := Bd.exec
  have hby := Bd.bytes
  have hml : c.maxLocals = 5 := hml0
  have hown : s.vm.findClass "com/example/lugha/lugha/concepts/PageGroups" = some m.cls := findClass_of_methodNamed Bd.named
  have hnm := (name_of_methodNamed Bd.named Bd.method).1
  have X0 : Stand p l e own_R10 s m args below meth c s₁ [] 0 0 := Stand.of_body Bd
  have e0 : s₁.heap = h0 := by rw [← hh, Bd.state]; rfl
  have N0 := Fr.nil n0
  refine own_enter (Q := (Q10 ms t lo hi h0 n0)) (g := mkF m 0 #[.val (.ref o0), .val (.int p1), .val (.int p2), .unset, .unset] []) (by rw [ha]; exact own_ef10 m o0 p1 p2) ?_
  refine own_run (g' := (mkF m 1 #[.val (.ref o0), .val (.int p1), .val (.int p2), .unset, .unset] [(.ref o0)])) (fun _ kt => XS.aloadN X0.here hx rfl (hb hby d10_0) rfl rfl (kt)) ?_
  refine own_getF X0 hx hZ hown (host := "") (Or.inl (hw _ (List.mem_of_getElem? (i := 47) rfl))) Via.refl e0 F1 (hb hby d10_1) ?_
  intro T1 X1 e1
  refine own_run (g' := (mkF m 5 #[.val (.ref o0), .val (.int p1), .val (.int p2), .unset, .unset] [(.int p2), (.ref x)])) (fun _ kt => XS.iloadN X1.here hx rfl (hb hby d10_4) rfl (kt)) ?_
  refine own_ldI X1 hx hZ e1 A1 (j := p2) hp2 (hb hby d10_5) (x := t) ht ?_
  refine own_run (g' := (mkF m 8 #[.val (.ref o0), .val (.int p1), .val (.int p2), .val (.int t), .unset] [(.ref o0)])) (fun _ kt => XS.istoreN X1.here hx rfl (hb hby d10_6) rfl (l' := #[.val (.ref o0), .val (.int p1), .val (.int p2), .val (.int t), .unset]) rfl (XS.aloadN X1.here hx rfl (hb hby d10_7) rfl rfl (kt))) ?_
  refine own_getF X1 hx hZ hown (host := "") (Or.inl (hw _ (List.mem_of_getElem? (i := 51) rfl))) Via.refl e1 F2 (hb hby d10_8) ?_
  intro T2 X2 e2
  refine own_run (g' := (mkF m 14 #[.val (.ref o0), .val (.int p1), .val (.int p2), .val (.int t), .unset] [(.int ((2 : Int32) * p1)), (.ref y)])) (fun _ kt => XS.iconst X2.here hx rfl (hb hby d10_11) (XS.iloadN X2.here hx rfl (hb hby d10_12) rfl (XS.imul X2.here hx rfl (hb hby d10_13) rfl (kt)))) ?_
  refine own_ldI X2 hx hZ e2 A2 (j := ((2 : Int32) * p1)) hg (hb hby d10_14) (x := lo) hlo ?_
  refine own_run (g' := (mkF m 17 #[.val (.ref o0), .val (.int p1), .val (.int p2), .val (.int t), .val (.int lo)] [])) (fun _ kt => XS.istore X2.here hx rfl (hb hby d10_15) rfl (l' := #[.val (.ref o0), .val (.int p1), .val (.int p2), .val (.int t), .val (.int lo)]) rfl (kt)) ?_
  have loop3 : ∀ (mz : Nat) (T3 : State) (L3 : List Loc) (i : Int32) (j : Nat), Stand p l e own_R10 s m args below meth c T3 L3 0 0 → Fr n0 L3 → T3.heap = h0 → (i = Int32.ofNat j) → (lo.toNatClampNeg ≤ j ∧ j ≤ hi.toNatClampNeg) → (∀ k, lo.toNatClampNeg ≤ k → k < j → ms.getD k 0 < t) → hi.toNatClampNeg - j = mz → own_Run p e below s own_R10.cells own_R10.slots (Q10 ms t lo hi h0 n0) T3 (mkF m 17 #[.val (.ref o0), .val (.int p1), .val (.int p2), .val (.int t), .val (.int i)] []) := by
    intro mz
    induction mz using Nat.strongRecOn with
    | _ mz ih3 =>
      intro T3 L3 i j X3 N3 e3 hij hj hall hmz
      refine own_run (g' := (mkF m 20 #[.val (.ref o0), .val (.int p1), .val (.int p2), .val (.int t), .val (.int i)] [(.ref o0), (.int i)])) (fun _ kt => XS.iload X3.here hx rfl (hb hby d10_17) rfl (XS.aloadN X3.here hx rfl (hb hby d10_19) rfl rfl (kt))) ?_
      refine own_getF X3 hx hZ hown (host := "") (Or.inl (hw _ (List.mem_of_getElem? (i := 51) rfl))) Via.refl e3 F2 (hb hby d10_20) ?_
      intro T4 X4 e4
      refine own_run (g' := (mkF m 28 #[.val (.ref o0), .val (.int p1), .val (.int p2), .val (.int t), .val (.int i)] [(.int (((2 : Int32) * p1) + (1 : Int32))), (.ref y), (.int i)])) (fun _ kt => XS.iconst X4.here hx rfl (hb hby d10_23) (XS.iloadN X4.here hx rfl (hb hby d10_24) rfl (XS.imul X4.here hx rfl (hb hby d10_25) rfl (XS.iconst X4.here hx rfl (hb hby d10_26) (XS.iadd X4.here hx rfl (hb hby d10_27) rfl (kt)))))) ?_
      refine own_ldI X4 hx hZ e4 A2 (j := (((2 : Int32) * p1) + (1 : Int32))) hg1 (hb hby d10_28) (x := hi) hhi ?_
      have hcc : i < hi ↔ j < hi.toNatClampNeg := by rw [hij]; exact own_ofnat_lt (by omega)
      have hjc : i.toNatClampNeg = j := by rw [hij]; exact own_clamp (by omega)
      by_cases hc29 : i < hi
      · refine own_run (g' := (mkF m 32 #[.val (.ref o0), .val (.int p1), .val (.int p2), .val (.int t), .val (.int i)] [])) (fun _ kt => XS.icmpNo X4.here hx rfl (hb hby d10_29) rfl ((tlt hc29).2.1) (kt)) ?_
        have hjn := hcc.mp hc29
        have hin : ¬ i < 0 ∧ i < (9 : Int32) := by rw [hij]; exact ⟨own_ofnat_nn (by omega), (own_ofnat_lt (by omega)).mpr (Nat.lt_of_lt_of_le (show j < 9 by omega) (Nat.le_of_eq rfl))⟩
        refine own_run (g' := (mkF m 33 #[.val (.ref o0), .val (.int p1), .val (.int p2), .val (.int t), .val (.int i)] [(.ref o0)])) (fun _ kt => XS.aloadN X4.here hx rfl (hb hby d10_32) rfl rfl (kt)) ?_
        refine own_getF X4 hx hZ hown (host := "") (Or.inl (hw _ (List.mem_of_getElem? (i := 53) rfl))) Via.refl e4 F3 (hb hby d10_33) ?_
        intro T5 X5 e5
        refine own_run (g' := (mkF m 38 #[.val (.ref o0), .val (.int p1), .val (.int p2), .val (.int t), .val (.int i)] [(.int i), (.ref z)])) (fun _ kt => XS.iload X5.here hx rfl (hb hby d10_36) rfl (kt)) ?_
        refine own_ldI X5 hx hZ e5 A3 (j := i) hin (hb hby d10_38) (x := (ms.getD i.toNatClampNeg 0)) rfl ?_
        refine own_run (g' := (mkF m 40 #[.val (.ref o0), .val (.int p1), .val (.int p2), .val (.int t), .val (.int i)] [(.int t), (.int (ms.getD i.toNatClampNeg 0))])) (fun _ kt => XS.iloadN X5.here hx rfl (hb hby d10_39) rfl (kt)) ?_
        by_cases hc40 : (ms.getD i.toNatClampNeg 0) < t
        · refine own_run (g' := (mkF m 17 #[.val (.ref o0), .val (.int p1), .val (.int p2), .val (.int t), .val (.int (i + (1 : Int32)))] [])) (fun _ kt => XS.icmpNo X5.here hx rfl (hb hby d10_40) rfl ((tlt hc40).2.1) (XS.iinc X5.here hx rfl (hb hby d10_43) rfl (l' := #[.val (.ref o0), .val (.int p1), .val (.int p2), .val (.int t), .val (.int (i + (1 : Int32)))]) rfl (XS.goto X5.here hx rfl (pc0 := 46) (pc' := 17) rfl (hb hby d10_46) (by decide) (by decide) (kt)))) ?_
          exact ih3 _ (by omega) T5 _ (i + (1 : Int32)) (j + 1) X5 N3 e5 (by rw [hij]; exact own_one _) ⟨by omega, by omega⟩ (fun k h1 h2 => (Nat.lt_succ_iff_lt_or_eq.mp h2).elim (hall k h1) (fun q => by rw [q, ← hjc]; exact hc40)) rfl
        · refine own_run (g' := (mkF m 51 #[.val (.ref o0), .val (.int p1), .val (.int p2), .val (.int t), .val (.int i)] [(.int i)])) (fun _ kt => XS.icmpYes X5.here hx rfl (pc0 := 40) (pc' := 49) rfl (hb hby d10_40) rfl ((flt hc40).2.1) (by decide) (by decide) (XS.iload X5.here hx rfl (hb hby d10_49) rfl (kt))) ?_
          exact own_retI X5 hx Bd.notSynchronized Bd.returns (hb hby d10_51) (by decide) (by decide) ⟨j, by rw [hij], N3, e5, hj.1, hj.2, hall, fun _ => by rw [← hjc]; exact hc40⟩
      · refine own_run (g' := (mkF m 51 #[.val (.ref o0), .val (.int p1), .val (.int p2), .val (.int t), .val (.int i)] [(.int i)])) (fun _ kt => XS.icmpYes X4.here hx rfl (pc0 := 29) (pc' := 49) rfl (hb hby d10_29) rfl ((flt hc29).2.1) (by decide) (by decide) (XS.iload X4.here hx rfl (hb hby d10_49) rfl (kt))) ?_
        exact own_retI X4 hx Bd.notSynchronized Bd.returns (hb hby d10_51) (by decide) (by decide) ⟨j, by rw [hij], N3, e4, hj.1, hj.2, hall, fun q => absurd (hcc.mpr q) hc29⟩
  exact loop3 _ T2 _ lo lo.toNatClampNeg X2 N0 e2 (own_back hl0).symm ⟨Nat.le_refl _, hlh⟩ (fun k h1 h2 => absurd h2 (Nat.not_lt.mpr h1)) rfl
theorem own_pn9 : plainName "com/example/lugha/lugha/concepts/PageGroups" = true := by first | (simp [plainName, overriddenIn]; done) | decide +kernel
theorem own_ef9 (m : MethodId) (o0 : Addr) (p1 : Int32) (p2 : Int32) : entryFrame m #[(.ref o0), (.int p1), (.int p2)] 3 = mkF m 0 #[.val (.ref o0), .val (.int p1), .val (.int p2)] [] := by first | (simp [entryFrame, mkF, argsToLocals, Value.category]; done) | rfl
def own_R9 : Room := ({ frames := 1, cells := 0, slots := 0, locals := 17 } : Room)
def Q9 (ms : List Int32) (t t' lo hi : Int32) (h0 : Heap) (n0 : Nat) (v : Option Value) (h : Heap) (L : List Loc) : Prop := ∃ j j' : Nat, v = some (.int (if j < j' then (1 : Int32) else (0 : Int32))) ∧ Fr n0 L ∧ h = h0 ∧ own_ed ms t lo hi j ∧ own_ed ms t' lo hi j'
theorem own_pd3 : parseMethodDescriptor "(II)I" = some ⟨[.int, .int], some .int⟩ := by decide +kernel
theorem d9_0 : decode prog_4_method_6_code 0 = .ok (.aload_n 0, 1) := by decide +kernel
theorem d9_1 : decode prog_4_method_6_code 1 = .ok (.iload_n 1, 1) := by decide +kernel
theorem d9_2 : decode prog_4_method_6_code 2 = .ok (.iload_n 2, 1) := by decide +kernel
theorem d9_3 : decode prog_4_method_6_code 3 = .ok (.invokevirtual 62, 3) := by decide +kernel
theorem d9_6 : decode prog_4_method_6_code 6 = .ok (.aload_n 0, 1) := by decide +kernel
theorem d9_7 : decode prog_4_method_6_code 7 = .ok (.iload_n 1, 1) := by decide +kernel
theorem d9_8 : decode prog_4_method_6_code 8 = .ok (.iload_n 2, 1) := by decide +kernel
theorem d9_9 : decode prog_4_method_6_code 9 = .ok (.iconst 1, 1) := by decide +kernel
theorem d9_10 : decode prog_4_method_6_code 10 = .ok (.iadd, 1) := by decide +kernel
theorem d9_11 : decode prog_4_method_6_code 11 = .ok (.invokevirtual 62, 3) := by decide +kernel
theorem d9_14 : decode prog_4_method_6_code 14 = .ok (.if_icmp .ge 7, 3) := by decide +kernel
theorem d9_17 : decode prog_4_method_6_code 17 = .ok (.iconst 1, 1) := by decide +kernel
theorem d9_18 : decode prog_4_method_6_code 18 = .ok (.goto 4, 3) := by decide +kernel
theorem d9_21 : decode prog_4_method_6_code 21 = .ok (.iconst 0, 1) := by decide +kernel
theorem d9_22 : decode prog_4_method_6_code 22 = .ok (.ireturn, 1) := by decide +kernel
set_option maxRecDepth 65536 in
set_option maxHeartbeats 40000000 in
theorem rm9 (l : Launch) (Z : State) (a0 : Array Value) (hw : ∀ d ∈ tables_1, d.before a0 Z = true) (ws : List Jvm.Cond) (o0 : Addr) (p1 : Int32) (p2 : Int32) (x y z : Addr) (os rs ms : List Int32) (t t' lo hi : Int32) (h0 : Heap) (n0 : Nat) (K0 : Exa Z h0 o0 "com/example/lugha/lugha/concepts/PageGroups") (F1 : Fld Z h0 o0 "com/example/lugha/lugha/concepts/PageGroups" "offsets" "[I" (.ref x)) (F2 : Fld Z h0 o0 "com/example/lugha/lugha/concepts/PageGroups" "ranges" "[I" (.ref y)) (F3 : Fld Z h0 o0 "com/example/lugha/lugha/concepts/PageGroups" "members" "[I" (.ref z)) (A1 : own_A Z h0 x .int (4 : Int32) os) (A2 : own_A Z h0 y .int (4 : Int32) rs) (A3 : own_A Z h0 z .int (9 : Int32) ms) (hp2 : ¬ p2 < 0 ∧ p2 < (4 : Int32)) (ht : os.getD p2.toNatClampNeg 0 = t) (hg : ¬ ((2 : Int32) * p1) < 0 ∧ ((2 : Int32) * p1) < (4 : Int32)) (hlo : rs.getD ((2 : Int32) * p1).toNatClampNeg 0 = lo) (hg1 : ¬ (((2 : Int32) * p1) + (1 : Int32)) < 0 ∧ (((2 : Int32) * p1) + (1 : Int32)) < (4 : Int32)) (hhi : rs.getD (((2 : Int32) * p1) + (1 : Int32)).toNatClampNeg 0 = hi) (hl0 : ¬ lo < 0) (hlh : lo.toNatClampNeg ≤ hi.toNatClampNeg) (h9 : hi.toNatClampNeg ≤ 9) (hp3 : ¬ (p2 + (1 : Int32)) < 0 ∧ (p2 + (1 : Int32)) < (4 : Int32)) (ht' : os.getD (p2 + (1 : Int32)).toNatClampNeg 0 = t') :
    MetFree l (⟨"com/example/lugha/lugha/concepts/PageGroups", "has", "(II)Z"⟩ : MethodName) (head1 (Jvm.Cond.code (⟨"com/example/lugha/lugha/concepts/PageGroups", "has", "(II)Z"⟩ : MethodName) prog_4_method_6_code 3 (some .boolean) :: ws) own_R9) (fun a U => a = #[(.ref o0), (.int p1), (.int p2)] ∧ Z.Warmed39 U.vm ∧ U.heap = h0) (fun _ _ _ _ _ => True) (fun _ U o U' => ∃ v L, o = .returned v ∧ Q9 ms t t' lo hi h0 n0 v U'.heap L ∧ FrameEnd U o U' L own_R9.cells own_R9.slots) := by
  refine MetFree.of_bodySF (plainFor_of_name own_pn9) hisR ?_
  intro p e s m args below meth c s₁ Bd hml0 hP hK
  obtain ⟨ha, hZ, hh⟩ := hP
  have hx := Bd.exec
  have hby := Bd.bytes
  have hml : c.maxLocals = 3 := hml0
  have hown : s.vm.findClass "com/example/lugha/lugha/concepts/PageGroups" = some m.cls := findClass_of_methodNamed Bd.named
  have hnm := (name_of_methodNamed Bd.named Bd.method).1
  have X0 : Stand p l e own_R9 s m args below meth c s₁ [] 0 0 := Stand.of_body Bd
  have e0 : s₁.heap = h0 := by rw [← hh, Bd.state]; rfl
  have N0 := Fr.nil n0
  refine own_enter (Q := (Q9 ms t t' lo hi h0 n0)) (g := mkF m 0 #[.val (.ref o0), .val (.int p1), .val (.int p2)] []) (by rw [ha]; exact own_ef9 m o0 p1 p2) ?_
  refine own_run (g' := (mkF m 3 #[.val (.ref o0), .val (.int p1), .val (.int p2)] [(.int p2), (.int p1), (.ref o0)])) (fun _ kt => XS.aloadN X0.here hx rfl (hb hby d9_0) rfl rfl (XS.iloadN X0.here hx rfl (hb hby d9_1) rfl (XS.iloadN X0.here hx rfl (hb hby d9_2) rfl (kt)))) ?_
  refine own_callP (b := o0) X0 hx hZ hown (hw _ (List.mem_of_getElem? (i := 64) rfl)) (hw _ (List.mem_of_getElem? (i := 65) rfl)) (hw _ (List.mem_of_getElem? (i := 13) rfl)) (hw _ (List.mem_of_getElem? (i := 66) rfl)) (hw _ (List.mem_of_getElem? (i := 14) rfl)) (hw _ (List.mem_of_getElem? (i := 67) rfl)) (by decide) K0 (rm10 l Z a0 hw [] o0 p1 p2 x y z os rs ms t lo hi h0 n0 F1 F2 F3 A1 A2 A3 hp2 ht hg hlo hg1 hhi hl0 hlh h9) e0 (by decide) (by decide) (by decide) (by decide) (by rw [hml]; rfl) (argsL := [(.int p1), (.int p2)]) (rest := []) (lenOf own_pd3 rfl) rfl (W := 0) (Nat.le_of_eq rfl) (hb hby d9_3) ?_
  intro T1 r1 L1 X1 hQ1
  obtain ⟨j1, rfl, Nq1, e1, hed1⟩ := hQ1
  have N1 := Fr.app N0 Nq1
  refine own_run (g' := (mkF m 11 #[.val (.ref o0), .val (.int p1), .val (.int p2)] [(.int (p2 + (1 : Int32))), (.int p1), (.ref o0), (.int (Int32.ofNat j1))])) (fun _ kt => XS.aloadN X1.here hx rfl (hb hby d9_6) rfl rfl (XS.iloadN X1.here hx rfl (hb hby d9_7) rfl (XS.iloadN X1.here hx rfl (hb hby d9_8) rfl (XS.iconst X1.here hx rfl (hb hby d9_9) (XS.iadd X1.here hx rfl (hb hby d9_10) rfl (kt)))))) ?_
  refine own_callP (b := o0) X1 hx hZ hown (hw _ (List.mem_of_getElem? (i := 64) rfl)) (hw _ (List.mem_of_getElem? (i := 65) rfl)) (hw _ (List.mem_of_getElem? (i := 13) rfl)) (hw _ (List.mem_of_getElem? (i := 66) rfl)) (hw _ (List.mem_of_getElem? (i := 14) rfl)) (hw _ (List.mem_of_getElem? (i := 67) rfl)) (by decide) K0 (rm10 l Z a0 hw [] o0 p1 (p2 + (1 : Int32)) x y z os rs ms t' lo hi h0 n0 F1 F2 F3 A1 A2 A3 hp3 ht' hg hlo hg1 hhi hl0 hlh h9) e1 (by decide) (by decide) (by decide) (by decide) (by rw [hml]; rfl) (argsL := [(.int p1), (.int (p2 + (1 : Int32)))]) (rest := [(.int (Int32.ofNat j1))]) (lenOf own_pd3 rfl) rfl (W := 1) (Nat.le_of_eq rfl) (hb hby d9_11) ?_
  intro T2 r2 L2 X2 hQ2
  obtain ⟨j2, rfl, Nq2, e2, hed2⟩ := hQ2
  have N2 := Fr.app N1 Nq2
  have hcc : Int32.ofNat j1 < Int32.ofNat j2 ↔ j1 < j2 := by rw [own_ofnat_lt (Nat.lt_of_le_of_lt hed1.2.1 (own_clamp_lt hi)), own_clamp (Nat.lt_of_le_of_lt hed2.2.1 (own_clamp_lt hi))]
  by_cases hc14 : (Int32.ofNat j1) < (Int32.ofNat j2)
  · refine own_run (g' := (mkF m 22 #[.val (.ref o0), .val (.int p1), .val (.int p2)] [(.int (1 : Int32))])) (fun _ kt => XS.icmpNo X2.here hx rfl (hb hby d9_14) rfl ((tlt hc14).2.1) (XS.iconst X2.here hx rfl (hb hby d9_17) (XS.goto X2.here hx rfl (pc0 := 18) (pc' := 22) rfl (hb hby d9_18) (by decide) (by decide) (kt)))) ?_
    exact own_retN (t := .boolean) X2 hx Bd.notSynchronized Bd.returns (by simp) (hb hby d9_22) (by decide) (by decide) ⟨j1, j2, by rw [if_pos (hcc.mp hc14)]; rfl, N2, e2, hed1, hed2⟩
  · refine own_run (g' := (mkF m 22 #[.val (.ref o0), .val (.int p1), .val (.int p2)] [(.int (0 : Int32))])) (fun _ kt => XS.icmpYes X2.here hx rfl (pc0 := 14) (pc' := 21) rfl (hb hby d9_14) rfl ((flt hc14).2.1) (by decide) (by decide) (XS.iconst X2.here hx rfl (hb hby d9_21) (kt))) ?_
    exact own_retN (t := .boolean) X2 hx Bd.notSynchronized Bd.returns (by simp) (hb hby d9_22) (by decide) (by decide) ⟨j1, j2, by rw [if_neg (fun q => hc14 (hcc.mpr q))]; rfl, N2, e2, hed1, hed2⟩
theorem own_pn0 : plainName "com/example/lugha/lugha/concepts/PageGroupsHasPinLaw" = true := by first | (simp [plainName, overriddenIn]; done) | decide +kernel
theorem own_ef0 (m : MethodId) (p0 : Int32) (p1 : Int32) (p2 : Int32) (p3 : Int32) (p4 : Int32) : entryFrame m #[(.int p0), (.int p1), (.int p2), (.int p3), (.int p4)] maxLocals = mkF m 0 #[.val (.int p0), .val (.int p1), .val (.int p2), .val (.int p3), .val (.int p4), .unset, .unset, .unset, .unset, .unset, .unset, .unset, .unset, .unset, .unset, .unset, .unset, .unset, .unset, .unset, .unset, .unset, .unset] [] := by first | (simp [entryFrame, mkF, argsToLocals, Value.category, maxLocals]; done) | rfl
def Q0 (h0 : Heap) (n0 : Nat) (v : Option Value) (h : Heap) (L : List Loc) : Prop := v = some (.int 1) ∧ Fr n0 L
theorem own_pd4 : parseMethodDescriptor "([IIIII)I" = some ⟨[(.array .int), .int, .int, .int, .int], some .int⟩ := by decide +kernel
theorem own_pd5 : parseMethodDescriptor "(III)I" = some ⟨[.int, .int, .int], some .int⟩ := by decide +kernel
theorem own_pd6 : parseMethodDescriptor "(Ljava/util/List;[ILjava/util/List;[I[I[II)V" = some ⟨[(.object "java/util/List"), (.array .int), (.object "java/util/List"), (.array .int), (.array .int), (.array .int), .int], none⟩ := by decide +kernel
theorem own_pd7 : parseMethodDescriptor "(II)Z" = some ⟨[.int, .int], some .boolean⟩ := by decide +kernel
set_option maxRecDepth 65536 in
set_option maxHeartbeats 40000000 in
theorem rm0 (l : Launch) (Z : State) (a0 : Array Value) (hw : ∀ d ∈ tables_1, d.before a0 Z = true) (ws : List Jvm.Cond) (p0 : Int32) (p1 : Int32) (p2 : Int32) (p3 : Int32) (p4 : Int32) (u : Addr) (h0 : Heap) (n0 : Nat) (Z0 : n0 ≤ h0.size) (S0 : Sta Z h0 "java/util/ArrayList" "DEFAULTCAPACITY_EMPTY_ELEMENTDATA" "[Ljava/lang/Object;" (.ref u)) :
    MetFree l x (head1 (Jvm.Cond.code x code maxLocals ret :: ws) room_1) (fun a U => a = #[(.int p0), (.int p1), (.int p2), (.int p3), (.int p4)] ∧ Z.Warmed39 U.vm ∧ U.heap = h0) (fun _ _ _ _ _ => True) (fun _ U o U' => ∃ v L, o = .returned v ∧ Q0 h0 n0 v U'.heap L ∧ FrameEnd U o U' L room_1.cells room_1.slots) := by
  refine MetFree.of_bodySF (plainFor_of_name own_pn0) hisR ?_
  intro p e s m args below meth c s₁ Bd hml0 hP hK
  obtain ⟨ha, hZ, hh⟩ := hP
  have hx := Bd.exec
  have hby := Bd.bytes
  have hml : c.maxLocals = 23 := hml0
  have hown : s.vm.findClass "com/example/lugha/lugha/concepts/PageGroupsHasPinLaw" = some m.cls := findClass_of_methodNamed Bd.named
  have hnm := (name_of_methodNamed Bd.named Bd.method).1
  have X0 : Stand p l e room_1 s m args below meth c s₁ [] 0 0 := Stand.of_body Bd
  have e0 : s₁.heap = h0 := by rw [← hh, Bd.state]; rfl
  have N0 := Fr.nil n0
  refine own_enter (Q := (Q0 h0 n0)) (g := mkF m 0 #[.val (.int p0), .val (.int p1), .val (.int p2), .val (.int p3), .val (.int p4), .unset, .unset, .unset, .unset, .unset, .unset, .unset, .unset, .unset, .unset, .unset, .unset, .unset, .unset, .unset, .unset, .unset, .unset] []) (by rw [ha]; exact own_ef0 m p0 p1 p2 p3 p4) ?_
  refine own_run (g' := (mkF m 5 #[.val (.int p0), .val (.int p1), .val (.int p2), .val (.int p3), .val (.int p4), .val (.int (p0 &&& (3 : Int32))), .unset, .unset, .unset, .unset, .unset, .unset, .unset, .unset, .unset, .unset, .unset, .unset, .unset, .unset, .unset, .unset, .unset] [])) (fun _ kt => XS.iloadN X0.here hx rfl (hb hby at_0) rfl (XS.iconst X0.here hx rfl (hb hby at_1) (XS.iand X0.here hx rfl (hb hby at_2) rfl (XS.istore X0.here hx rfl (hb hby at_3) rfl (l' := #[.val (.int p0), .val (.int p1), .val (.int p2), .val (.int p3), .val (.int p4), .val (.int (p0 &&& (3 : Int32))), .unset, .unset, .unset, .unset, .unset, .unset, .unset, .unset, .unset, .unset, .unset, .unset, .unset, .unset, .unset, .unset, .unset]) rfl (kt))))) ?_
  obtain ⟨v3, hv3⟩ : ∃ z : Int32, z = (p0 &&& (3 : Int32)) := ⟨_, rfl⟩
  rw [← hv3]
  refine own_run (g' := (mkF m 12 #[.val (.int p0), .val (.int p1), .val (.int p2), .val (.int p3), .val (.int p4), .val (.int v3), .val (.int ((XT.ushr p0 (2 : Int32)) &&& (3 : Int32))), .unset, .unset, .unset, .unset, .unset, .unset, .unset, .unset, .unset, .unset, .unset, .unset, .unset, .unset, .unset, .unset] [])) (fun _ kt => XS.iloadN X0.here hx rfl (hb hby at_5) rfl (XS.iconst X0.here hx rfl (hb hby at_6) (XS.iushr X0.here hx rfl (hb hby at_7) rfl (XS.iconst X0.here hx rfl (hb hby at_8) (XS.iand X0.here hx rfl (hb hby at_9) rfl (XS.istore X0.here hx rfl (hb hby at_10) rfl (l' := #[.val (.int p0), .val (.int p1), .val (.int p2), .val (.int p3), .val (.int p4), .val (.int v3), .val (.int ((XT.ushr p0 (2 : Int32)) &&& (3 : Int32))), .unset, .unset, .unset, .unset, .unset, .unset, .unset, .unset, .unset, .unset, .unset, .unset, .unset, .unset, .unset, .unset]) rfl (kt))))))) ?_
  obtain ⟨v10, hv10⟩ : ∃ z : Int32, z = ((XT.ushr p0 (2 : Int32)) &&& (3 : Int32)) := ⟨_, rfl⟩
  rw [← hv10]
  refine own_run (g' := (mkF m 19 #[.val (.int p0), .val (.int p1), .val (.int p2), .val (.int p3), .val (.int p4), .val (.int v3), .val (.int v10), .val (.int ((XT.ushr p0 (4 : Int32)) &&& (3 : Int32))), .unset, .unset, .unset, .unset, .unset, .unset, .unset, .unset, .unset, .unset, .unset, .unset, .unset, .unset, .unset] [])) (fun _ kt => XS.iloadN X0.here hx rfl (hb hby at_12) rfl (XS.iconst X0.here hx rfl (hb hby at_13) (XS.iushr X0.here hx rfl (hb hby at_14) rfl (XS.iconst X0.here hx rfl (hb hby at_15) (XS.iand X0.here hx rfl (hb hby at_16) rfl (XS.istore X0.here hx rfl (hb hby at_17) rfl (l' := #[.val (.int p0), .val (.int p1), .val (.int p2), .val (.int p3), .val (.int p4), .val (.int v3), .val (.int v10), .val (.int ((XT.ushr p0 (4 : Int32)) &&& (3 : Int32))), .unset, .unset, .unset, .unset, .unset, .unset, .unset, .unset, .unset, .unset, .unset, .unset, .unset, .unset, .unset]) rfl (kt))))))) ?_
  obtain ⟨v17, hv17⟩ : ∃ z : Int32, z = ((XT.ushr p0 (4 : Int32)) &&& (3 : Int32)) := ⟨_, rfl⟩
  rw [← hv17]
  refine own_run (g' := (mkF m 20 #[.val (.int p0), .val (.int p1), .val (.int p2), .val (.int p3), .val (.int p4), .val (.int v3), .val (.int v10), .val (.int v17), .unset, .unset, .unset, .unset, .unset, .unset, .unset, .unset, .unset, .unset, .unset, .unset, .unset, .unset, .unset] [(.int (4 : Int32))])) (fun _ kt => XS.iconst X0.here hx rfl (hb hby at_19) (kt)) ?_
  refine own_newA X0 hx hZ (aty := .int) (hw _ (List.mem_of_getElem? (i := 0) rfl)) (ty := .int) rfl rfl e0 (hb hby at_20) (by decide) (cap := 4) (by decide) (by decide) (by decide) (by decide) ?_
  intro T1 h1 b1 qq1 X1 e1 E1 A1
  replace S0 := S0.ext E1
  have g_b1 : n0 ≤ b1 := by rw [qq1]; exact Z0
  have Z1 : n0 ≤ h1.size := Nat.le_trans Z0 E1.1
  replace A1 : own_A Z h1 b1 .int (4 : Int32) [(0 : Int32), (0 : Int32), (0 : Int32), (0 : Int32)] := A1
  refine own_run (g' := (mkF m 25 #[.val (.int p0), .val (.int p1), .val (.int p2), .val (.int p3), .val (.int p4), .val (.int v3), .val (.int v10), .val (.int v17), .unset, .unset, .unset, .unset, .unset, .unset, .unset, .unset, .unset, .unset, .unset, .unset, .unset, .unset, .unset] [(.int (0 : Int32)), (.int (0 : Int32)), (.ref b1), (.ref b1)])) (fun _ kt => XS.dup X1.here hx rfl (hb hby at_22) rfl rfl (XS.iconst X1.here hx rfl (hb hby at_23) (XS.iconst X1.here hx rfl (hb hby at_24) (kt)))) ?_
  refine own_stI X1 hx hZ e1 A1 (j := (0 : Int32)) (by decide) N0 g_b1 (hb hby at_25) (ys := [(0 : Int32), (0 : Int32), (0 : Int32), (0 : Int32)]) rfl ?_
  intro T2 h2 L2 X2 N2 e2 W2 A2
  replace S0 := S0.wr W2
  have ZW2 : n0 ≤ h2.size := Nat.le_trans Z1 (Keep.of_wr W2).1
  refine own_run (g' := (mkF m 30 #[.val (.int p0), .val (.int p1), .val (.int p2), .val (.int p3), .val (.int p4), .val (.int v3), .val (.int v10), .val (.int v17), .unset, .unset, .unset, .unset, .unset, .unset, .unset, .unset, .unset, .unset, .unset, .unset, .unset, .unset, .unset] [(.int v3), (.int (1 : Int32)), (.ref b1), (.ref b1)])) (fun _ kt => XS.dup X2.here hx rfl (hb hby at_26) rfl rfl (XS.iconst X2.here hx rfl (hb hby at_27) (XS.iload X2.here hx rfl (hb hby at_28) rfl (kt)))) ?_
  refine own_stI X2 hx hZ e2 A2 (j := (1 : Int32)) (by decide) N2 g_b1 (hb hby at_30) (ys := [(0 : Int32), v3, (0 : Int32), (0 : Int32)]) rfl ?_
  intro T3 h3 L3 X3 N3 e3 W3 A3
  replace S0 := S0.wr W3
  have ZW3 : n0 ≤ h3.size := Nat.le_trans ZW2 (Keep.of_wr W3).1
  refine own_run (g' := (mkF m 38 #[.val (.int p0), .val (.int p1), .val (.int p2), .val (.int p3), .val (.int p4), .val (.int v3), .val (.int v10), .val (.int v17), .unset, .unset, .unset, .unset, .unset, .unset, .unset, .unset, .unset, .unset, .unset, .unset, .unset, .unset, .unset] [(.int (v3 + v10)), (.int (2 : Int32)), (.ref b1), (.ref b1)])) (fun _ kt => XS.dup X3.here hx rfl (hb hby at_31) rfl rfl (XS.iconst X3.here hx rfl (hb hby at_32) (XS.iload X3.here hx rfl (hb hby at_33) rfl (XS.iload X3.here hx rfl (hb hby at_35) rfl (XS.iadd X3.here hx rfl (hb hby at_37) rfl (kt)))))) ?_
  refine own_stI X3 hx hZ e3 A3 (j := (2 : Int32)) (by decide) N3 g_b1 (hb hby at_38) (ys := [(0 : Int32), v3, (v3 + v10), (0 : Int32)]) rfl ?_
  intro T4 h4 L4 X4 N4 e4 W4 A4
  replace S0 := S0.wr W4
  have ZW4 : n0 ≤ h4.size := Nat.le_trans ZW3 (Keep.of_wr W4).1
  refine own_run (g' := (mkF m 49 #[.val (.int p0), .val (.int p1), .val (.int p2), .val (.int p3), .val (.int p4), .val (.int v3), .val (.int v10), .val (.int v17), .unset, .unset, .unset, .unset, .unset, .unset, .unset, .unset, .unset, .unset, .unset, .unset, .unset, .unset, .unset] [(.int ((v3 + v10) + v17)), (.int (3 : Int32)), (.ref b1), (.ref b1)])) (fun _ kt => XS.dup X4.here hx rfl (hb hby at_39) rfl rfl (XS.iconst X4.here hx rfl (hb hby at_40) (XS.iload X4.here hx rfl (hb hby at_41) rfl (XS.iload X4.here hx rfl (hb hby at_43) rfl (XS.iadd X4.here hx rfl (hb hby at_45) rfl (XS.iload X4.here hx rfl (hb hby at_46) rfl (XS.iadd X4.here hx rfl (hb hby at_48) rfl (kt)))))))) ?_
  refine own_stI X4 hx hZ e4 A4 (j := (3 : Int32)) (by decide) N4 g_b1 (hb hby at_49) (ys := [(0 : Int32), v3, (v3 + v10), ((v3 + v10) + v17)]) rfl ?_
  intro T5 h5 L5 X5 N5 e5 W5 A5
  replace S0 := S0.wr W5
  have ZW5 : n0 ≤ h5.size := Nat.le_trans ZW4 (Keep.of_wr W5).1
  refine own_run (g' := (mkF m 55 #[.val (.int p0), .val (.int p1), .val (.int p2), .val (.int p3), .val (.int p4), .val (.int v3), .val (.int v10), .val (.int v17), .val (.ref b1), .unset, .unset, .unset, .unset, .unset, .unset, .unset, .unset, .unset, .unset, .unset, .unset, .unset, .unset] [(.int (3 : Int32)), (.ref b1)])) (fun _ kt => XS.astore X5.here hx rfl (hb hby at_50) rfl rfl (l' := #[.val (.int p0), .val (.int p1), .val (.int p2), .val (.int p3), .val (.int p4), .val (.int v3), .val (.int v10), .val (.int v17), .val (.ref b1), .unset, .unset, .unset, .unset, .unset, .unset, .unset, .unset, .unset, .unset, .unset, .unset, .unset, .unset]) rfl (XS.aload X5.here hx rfl (hb hby at_52) rfl rfl (XS.iconst X5.here hx rfl (hb hby at_54) (kt)))) ?_
  refine own_ldI X5 hx hZ e5 A5 (j := (3 : Int32)) (by decide) (hb hby at_55) (x := ((v3 + v10) + v17)) rfl ?_
  refine own_run (g' := (mkF m 58 #[.val (.int p0), .val (.int p1), .val (.int p2), .val (.int p3), .val (.int p4), .val (.int v3), .val (.int v10), .val (.int v17), .val (.ref b1), .val (.int ((v3 + v10) + v17)), .unset, .unset, .unset, .unset, .unset, .unset, .unset, .unset, .unset, .unset, .unset, .unset, .unset] [])) (fun _ kt => XS.istore X5.here hx rfl (hb hby at_56) rfl (l' := #[.val (.int p0), .val (.int p1), .val (.int p2), .val (.int p3), .val (.int p4), .val (.int v3), .val (.int v10), .val (.int v17), .val (.ref b1), .val (.int ((v3 + v10) + v17)), .unset, .unset, .unset, .unset, .unset, .unset, .unset, .unset, .unset, .unset, .unset, .unset, .unset]) rfl (kt)) ?_
  obtain ⟨v56, hv56⟩ : ∃ z : Int32, z = ((v3 + v10) + v17) := ⟨_, rfl⟩
  rw [← hv56]
  refine own_run (g' := (mkF m 59 #[.val (.int p0), .val (.int p1), .val (.int p2), .val (.int p3), .val (.int p4), .val (.int v3), .val (.int v10), .val (.int v17), .val (.ref b1), .val (.int v56), .unset, .unset, .unset, .unset, .unset, .unset, .unset, .unset, .unset, .unset, .unset, .unset, .unset] [(.int p2)])) (fun _ kt => XS.iloadN X5.here hx rfl (hb hby at_58) rfl (kt)) ?_
  refine own_ldcI X5 hx hZ hown (hw _ (List.mem_of_getElem? (i := 1) rfl)) (hb hby at_59) ?_
  refine own_run (g' := (mkF m 66 #[.val (.int p0), .val (.int p1), .val (.int p2), .val (.int p3), .val (.int p4), .val (.int v3), .val (.int v10), .val (.int v17), .val (.ref b1), .val (.int v56), .val (.int ((p2 &&& (2147483647 : Int32)) % (3 : Int32))), .unset, .unset, .unset, .unset, .unset, .unset, .unset, .unset, .unset, .unset, .unset, .unset] [])) (fun _ kt => XS.iand X5.here hx rfl (hb hby at_61) rfl (XS.iconst X5.here hx rfl (hb hby at_62) (own_irem X5.here hx rfl (hb hby at_63) rfl (by decide) (XS.istore X5.here hx rfl (hb hby at_64) rfl (l' := #[.val (.int p0), .val (.int p1), .val (.int p2), .val (.int p3), .val (.int p4), .val (.int v3), .val (.int v10), .val (.int v17), .val (.ref b1), .val (.int v56), .val (.int ((p2 &&& (2147483647 : Int32)) % (3 : Int32))), .unset, .unset, .unset, .unset, .unset, .unset, .unset, .unset, .unset, .unset, .unset, .unset]) rfl (kt))))) ?_
  obtain ⟨v64, hv64⟩ : ∃ z : Int32, z = ((p2 &&& (2147483647 : Int32)) % (3 : Int32)) := ⟨_, rfl⟩
  rw [← hv64]
  refine own_run (g' := (mkF m 71 #[.val (.int p0), .val (.int p1), .val (.int p2), .val (.int p3), .val (.int p4), .val (.int v3), .val (.int v10), .val (.int v17), .val (.ref b1), .val (.int v56), .val (.int v64), .val (.int (p3 &&& (1 : Int32))), .unset, .unset, .unset, .unset, .unset, .unset, .unset, .unset, .unset, .unset, .unset] [])) (fun _ kt => XS.iloadN X5.here hx rfl (hb hby at_66) rfl (XS.iconst X5.here hx rfl (hb hby at_67) (XS.iand X5.here hx rfl (hb hby at_68) rfl (XS.istore X5.here hx rfl (hb hby at_69) rfl (l' := #[.val (.int p0), .val (.int p1), .val (.int p2), .val (.int p3), .val (.int p4), .val (.int v3), .val (.int v10), .val (.int v17), .val (.ref b1), .val (.int v56), .val (.int v64), .val (.int (p3 &&& (1 : Int32))), .unset, .unset, .unset, .unset, .unset, .unset, .unset, .unset, .unset, .unset, .unset]) rfl (kt))))) ?_
  obtain ⟨v69, hv69⟩ : ∃ z : Int32, z = (p3 &&& (1 : Int32)) := ⟨_, rfl⟩
  rw [← hv69]
  have hee : v64 = 0 ∨ v64 = 1 ∨ v64 = 2 := by rw [hv64]; exact own_e3 p2
  have hgg : v69 = 0 ∨ v69 = 1 := by rw [hv69]; exact own_g2 p3
  have he4 : ¬ v64 < 0 ∧ v64 < (4 : Int32) := by rcases hee with h | h | h <;> rw [h] <;> decide
  have he5 : ¬ (v64 + (1 : Int32)) < 0 ∧ (v64 + (1 : Int32)) < (4 : Int32) := by rcases hee with h | h | h <;> rw [h] <;> decide
  refine own_run (g' := (mkF m 75 #[.val (.int p0), .val (.int p1), .val (.int p2), .val (.int p3), .val (.int p4), .val (.int v3), .val (.int v10), .val (.int v17), .val (.ref b1), .val (.int v56), .val (.int v64), .val (.int v69), .unset, .unset, .unset, .unset, .unset, .unset, .unset, .unset, .unset, .unset, .unset] [(.int (p4 &&& (1 : Int32)))])) (fun _ kt => XS.iload X5.here hx rfl (hb hby at_71) rfl (XS.iconst X5.here hx rfl (hb hby at_73) (XS.iand X5.here hx rfl (hb hby at_74) rfl (kt)))) ?_
  by_cases hc75 : (p4 &&& (1 : Int32)) = (0 : Int32)
  · refine own_run (g' := (mkF m 93 #[.val (.int p0), .val (.int p1), .val (.int p2), .val (.int p3), .val (.int p4), .val (.int v3), .val (.int v10), .val (.int v17), .val (.ref b1), .val (.int v56), .val (.int v64), .val (.int v69), .val (.int (0 : Int32)), .val (.int (1 : Int32)), .unset, .unset, .unset, .unset, .unset, .unset, .unset, .unset, .unset] [(.int (9 : Int32))])) (fun _ kt => XS.ifYes X5.here hx rfl (pc0 := 75) (pc' := 82) rfl (hb hby at_75) rfl ((if0 _ _).trans (teq hc75).1) (by decide) (by decide) (XS.iconst X5.here hx rfl (hb hby at_82) (XS.istore X5.here hx rfl (hb hby at_83) rfl (l' := #[.val (.int p0), .val (.int p1), .val (.int p2), .val (.int p3), .val (.int p4), .val (.int v3), .val (.int v10), .val (.int v17), .val (.ref b1), .val (.int v56), .val (.int v64), .val (.int v69), .val (.int (0 : Int32)), .unset, .unset, .unset, .unset, .unset, .unset, .unset, .unset, .unset, .unset]) rfl (XS.iconst X5.here hx rfl (hb hby at_85) (XS.iload X5.here hx rfl (hb hby at_86) rfl (XS.isub X5.here hx rfl (hb hby at_88) rfl (XS.istore X5.here hx rfl (hb hby at_89) rfl (l' := #[.val (.int p0), .val (.int p1), .val (.int p2), .val (.int p3), .val (.int p4), .val (.int v3), .val (.int v10), .val (.int v17), .val (.ref b1), .val (.int v56), .val (.int v64), .val (.int v69), .val (.int (0 : Int32)), .val (.int (1 : Int32)), .unset, .unset, .unset, .unset, .unset, .unset, .unset, .unset, .unset]) rfl (XS.bipush X5.here hx rfl (hb hby at_91) (kt))))))))) ?_
    refine own_newA X5 hx hZ (aty := .int) (hw _ (List.mem_of_getElem? (i := 0) rfl)) (ty := .int) rfl rfl e5 (hb hby at_93) (by decide) (cap := 9) (by decide) (by decide) (by decide) (by decide) ?_
    intro T6 h6 b6 qq6 X6 e6 E6 A6
    have ne_b1_b6 : b1 ≠ b6 := Nat.ne_of_lt (by rw [qq6]; exact A5.lt)
    replace S0 := S0.ext E6
    replace A5 := A5.ext E6
    have g_b6 : n0 ≤ b6 := by rw [qq6]; exact ZW5
    have Z6 : n0 ≤ h6.size := Nat.le_trans ZW5 E6.1
    replace A6 : own_A Z h6 b6 .int (9 : Int32) [(0 : Int32), (0 : Int32), (0 : Int32), (0 : Int32), (0 : Int32), (0 : Int32), (0 : Int32), (0 : Int32), (0 : Int32)] := A6
    refine own_run (g' := (mkF m 105 #[.val (.int p0), .val (.int p1), .val (.int p2), .val (.int p3), .val (.int p4), .val (.int v3), .val (.int v10), .val (.int v17), .val (.ref b1), .val (.int v56), .val (.int v64), .val (.int v69), .val (.int (0 : Int32)), .val (.int (1 : Int32)), .val (.ref b6), .unset, .unset, .unset, .unset, .unset, .unset, .unset, .unset] [(.int v56), (.int p1), (.int (0 : Int32)), (.int (0 : Int32)), (.ref b6)])) (fun _ kt => XS.astore X6.here hx rfl (hb hby at_95) rfl rfl (l' := #[.val (.int p0), .val (.int p1), .val (.int p2), .val (.int p3), .val (.int p4), .val (.int v3), .val (.int v10), .val (.int v17), .val (.ref b1), .val (.int v56), .val (.int v64), .val (.int v69), .val (.int (0 : Int32)), .val (.int (1 : Int32)), .val (.ref b6), .unset, .unset, .unset, .unset, .unset, .unset, .unset, .unset]) rfl (XS.aload X6.here hx rfl (hb hby at_97) rfl rfl (XS.iconst X6.here hx rfl (hb hby at_99) (XS.iload X6.here hx rfl (hb hby at_100) rfl (XS.iloadN X6.here hx rfl (hb hby at_102) rfl (XS.iload X6.here hx rfl (hb hby at_103) rfl (kt))))))) ?_
    have hb105 : ∀ k, k < 9 → (own_pages.getD k 0) < v56 → ¬ (own_f11 p1 (own_pages.getD k 0) (0 : Int32)) = (0 : Int32) → ¬ (own_pre k (0 : Int32) (0 : Int32) p1 v56 [(0 : Int32), (0 : Int32), (0 : Int32), (0 : Int32), (0 : Int32), (0 : Int32), (0 : Int32), (0 : Int32), (0 : Int32)]).1 < 0 ∧ (own_pre k (0 : Int32) (0 : Int32) p1 v56 [(0 : Int32), (0 : Int32), (0 : Int32), (0 : Int32), (0 : Int32), (0 : Int32), (0 : Int32), (0 : Int32), (0 : Int32)]).1 < (9 : Int32) := own_bd1 _ _ _
    refine own_callS X6 hx hZ hown (hw _ (List.mem_of_getElem? (i := 2) rfl)) (hw _ (List.mem_of_getElem? (i := 3) rfl)) (hw _ (List.mem_of_getElem? (i := 4) rfl)) (hw _ (List.mem_of_getElem? (i := 5) rfl)) (by decide) (rm1 l Z a0 hw [] b6 (0 : Int32) (0 : Int32) p1 v56 [(0 : Int32), (0 : Int32), (0 : Int32), (0 : Int32), (0 : Int32), (0 : Int32), (0 : Int32), (0 : Int32), (0 : Int32)] h6 n0 Z6 A6 g_b6 hb105) e6 (by decide) (by decide) (by decide) (by decide) (by rw [hml]; rfl) (argsL := [(.ref b6), (.int (0 : Int32)), (.int (0 : Int32)), (.int p1), (.int v56)]) (rest := []) (lenOf own_pd4 rfl) rfl (W := 0) (Nat.le_of_eq rfl) (hb hby at_105) ?_
    intro T7 r7 L7 X7 hQ7
    obtain ⟨rfl, Nq7, Kc7, A7⟩ := hQ7
    have N7 := Fr.app N5 Nq7
    replace S0 := own_StaKeepA S0 Kc7 A6
    replace A5 := A5.keep Kc7 (ninS ne_b1_b6 nin0)
    have Z7 : n0 ≤ T7.heap.size := Nat.le_trans Z6 Kc7.1
    obtain ⟨xs7, hxs7⟩ : ∃ z : List Int32, z = (own_blk (0 : Int32) (0 : Int32) p1 v56 [(0 : Int32), (0 : Int32), (0 : Int32), (0 : Int32), (0 : Int32), (0 : Int32), (0 : Int32), (0 : Int32), (0 : Int32)]).2 := ⟨_, rfl⟩
    rw [← hxs7] at A7
    refine own_run (g' := (mkF m 110 #[.val (.int p0), .val (.int p1), .val (.int p2), .val (.int p3), .val (.int p4), .val (.int v3), .val (.int v10), .val (.int v17), .val (.ref b1), .val (.int v56), .val (.int v64), .val (.int v69), .val (.int (0 : Int32)), .val (.int (1 : Int32)), .val (.ref b6), .val (.int (own_blk (0 : Int32) (0 : Int32) p1 v56 [(0 : Int32), (0 : Int32), (0 : Int32), (0 : Int32), (0 : Int32), (0 : Int32), (0 : Int32), (0 : Int32), (0 : Int32)]).1), .unset, .unset, .unset, .unset, .unset, .unset, .unset] [])) (fun _ kt => XS.istore X7.here hx rfl (hb hby at_108) rfl (l' := #[.val (.int p0), .val (.int p1), .val (.int p2), .val (.int p3), .val (.int p4), .val (.int v3), .val (.int v10), .val (.int v17), .val (.ref b1), .val (.int v56), .val (.int v64), .val (.int v69), .val (.int (0 : Int32)), .val (.int (1 : Int32)), .val (.ref b6), .val (.int (own_blk (0 : Int32) (0 : Int32) p1 v56 [(0 : Int32), (0 : Int32), (0 : Int32), (0 : Int32), (0 : Int32), (0 : Int32), (0 : Int32), (0 : Int32), (0 : Int32)]).1), .unset, .unset, .unset, .unset, .unset, .unset, .unset]) rfl (kt)) ?_
    obtain ⟨v108, hv108⟩ : ∃ z : Int32, z = (own_blk (0 : Int32) (0 : Int32) p1 v56 [(0 : Int32), (0 : Int32), (0 : Int32), (0 : Int32), (0 : Int32), (0 : Int32), (0 : Int32), (0 : Int32), (0 : Int32)]).1 := ⟨_, rfl⟩
    rw [← hv108]
    refine own_run (g' := (mkF m 123 #[.val (.int p0), .val (.int p1), .val (.int p2), .val (.int p3), .val (.int p4), .val (.int v3), .val (.int v10), .val (.int v17), .val (.ref b1), .val (.int v56), .val (.int v64), .val (.int v69), .val (.int (0 : Int32)), .val (.int (1 : Int32)), .val (.ref b6), .val (.int v108), .val (.int v108), .unset, .unset, .unset, .unset, .unset, .unset] [(.int v56), (.int p1), (.int (1 : Int32)), (.int v108), (.ref b6)])) (fun _ kt => XS.iload X7.here hx rfl (hb hby at_110) rfl (XS.istore X7.here hx rfl (hb hby at_112) rfl (l' := #[.val (.int p0), .val (.int p1), .val (.int p2), .val (.int p3), .val (.int p4), .val (.int v3), .val (.int v10), .val (.int v17), .val (.ref b1), .val (.int v56), .val (.int v64), .val (.int v69), .val (.int (0 : Int32)), .val (.int (1 : Int32)), .val (.ref b6), .val (.int v108), .val (.int v108), .unset, .unset, .unset, .unset, .unset, .unset]) rfl (XS.aload X7.here hx rfl (hb hby at_114) rfl rfl (XS.iload X7.here hx rfl (hb hby at_116) rfl (XS.iload X7.here hx rfl (hb hby at_118) rfl (XS.iloadN X7.here hx rfl (hb hby at_120) rfl (XS.iload X7.here hx rfl (hb hby at_121) rfl (kt)))))))) ?_
    have hb123 : ∀ k, k < 9 → (own_pages.getD k 0) < v56 → ¬ (own_f11 p1 (own_pages.getD k 0) (1 : Int32)) = (0 : Int32) → ¬ (own_pre k v108 (1 : Int32) p1 v56 xs7).1 < 0 ∧ (own_pre k v108 (1 : Int32) p1 v56 xs7).1 < (9 : Int32) := own_bd2 (by decide) hv108 hxs7
    refine own_callS X7 hx hZ hown (hw _ (List.mem_of_getElem? (i := 2) rfl)) (hw _ (List.mem_of_getElem? (i := 3) rfl)) (hw _ (List.mem_of_getElem? (i := 4) rfl)) (hw _ (List.mem_of_getElem? (i := 5) rfl)) (by decide) (rm1 l Z a0 hw [] b6 v108 (1 : Int32) p1 v56 xs7 T7.heap n0 Z7 A7 g_b6 hb123) rfl (by decide) (by decide) (by decide) (by decide) (by rw [hml]; rfl) (argsL := [(.ref b6), (.int v108), (.int (1 : Int32)), (.int p1), (.int v56)]) (rest := []) (lenOf own_pd4 rfl) rfl (W := 0) (Nat.le_of_eq rfl) (hb hby at_123) ?_
    intro T8 r8 L8 X8 hQ8
    obtain ⟨rfl, Nq8, Kc8, A8⟩ := hQ8
    have N8 := Fr.app N7 Nq8
    replace S0 := own_StaKeepA S0 Kc8 A7
    replace A5 := A5.keep Kc8 (ninS ne_b1_b6 nin0)
    have Z8 : n0 ≤ T8.heap.size := Nat.le_trans Z7 Kc8.1
    obtain ⟨xs8, hxs8⟩ : ∃ z : List Int32, z = (own_blk v108 (1 : Int32) p1 v56 xs7).2 := ⟨_, rfl⟩
    rw [← hxs8] at A8
    refine own_run (g' := (mkF m 128 #[.val (.int p0), .val (.int p1), .val (.int p2), .val (.int p3), .val (.int p4), .val (.int v3), .val (.int v10), .val (.int v17), .val (.ref b1), .val (.int v56), .val (.int v64), .val (.int v69), .val (.int (0 : Int32)), .val (.int (1 : Int32)), .val (.ref b6), .val (.int (own_blk v108 (1 : Int32) p1 v56 xs7).1), .val (.int v108), .unset, .unset, .unset, .unset, .unset, .unset] [])) (fun _ kt => XS.istore X8.here hx rfl (hb hby at_126) rfl (l' := #[.val (.int p0), .val (.int p1), .val (.int p2), .val (.int p3), .val (.int p4), .val (.int v3), .val (.int v10), .val (.int v17), .val (.ref b1), .val (.int v56), .val (.int v64), .val (.int v69), .val (.int (0 : Int32)), .val (.int (1 : Int32)), .val (.ref b6), .val (.int (own_blk v108 (1 : Int32) p1 v56 xs7).1), .val (.int v108), .unset, .unset, .unset, .unset, .unset, .unset]) rfl (kt)) ?_
    obtain ⟨v126, hv126⟩ : ∃ z : Int32, z = (own_blk v108 (1 : Int32) p1 v56 xs7).1 := ⟨_, rfl⟩
    rw [← hv126]
    refine own_run (g' := (mkF m 129 #[.val (.int p0), .val (.int p1), .val (.int p2), .val (.int p3), .val (.int p4), .val (.int v3), .val (.int v10), .val (.int v17), .val (.ref b1), .val (.int v56), .val (.int v64), .val (.int v69), .val (.int (0 : Int32)), .val (.int (1 : Int32)), .val (.ref b6), .val (.int v126), .val (.int v108), .unset, .unset, .unset, .unset, .unset, .unset] [(.int (4 : Int32))])) (fun _ kt => XS.iconst X8.here hx rfl (hb hby at_128) (kt)) ?_
    refine own_newA X8 hx hZ (aty := .int) (hw _ (List.mem_of_getElem? (i := 0) rfl)) (ty := .int) rfl rfl rfl (hb hby at_129) (by decide) (cap := 4) (by decide) (by decide) (by decide) (by decide) ?_
    intro T9 h9 b9 qq9 X9 e9 E9 A9
    have ne_b1_b9 : b1 ≠ b9 := Nat.ne_of_lt (by rw [qq9]; exact A5.lt)
    have ne_b6_b9 : b6 ≠ b9 := Nat.ne_of_lt (by rw [qq9]; exact A8.lt)
    replace S0 := S0.ext E9
    replace A5 := A5.ext E9
    replace A8 := A8.ext E9
    have g_b9 : n0 ≤ b9 := by rw [qq9]; exact Z8
    have Z9 : n0 ≤ h9.size := Nat.le_trans Z8 E9.1
    replace A9 : own_A Z h9 b9 .int (4 : Int32) [(0 : Int32), (0 : Int32), (0 : Int32), (0 : Int32)] := A9
    refine own_run (g' := (mkF m 140 #[.val (.int p0), .val (.int p1), .val (.int p2), .val (.int p3), .val (.int p4), .val (.int v3), .val (.int v10), .val (.int v17), .val (.ref b1), .val (.int v56), .val (.int v64), .val (.int v69), .val (.int (0 : Int32)), .val (.int (1 : Int32)), .val (.ref b6), .val (.int v126), .val (.int v108), .val (.ref b9), .unset, .unset, .unset, .unset, .unset] [(.int (0 : Int32)), (.int (0 : Int32)), (.ref b9)])) (fun _ kt => XS.astore X9.here hx rfl (hb hby at_131) rfl rfl (l' := #[.val (.int p0), .val (.int p1), .val (.int p2), .val (.int p3), .val (.int p4), .val (.int v3), .val (.int v10), .val (.int v17), .val (.ref b1), .val (.int v56), .val (.int v64), .val (.int v69), .val (.int (0 : Int32)), .val (.int (1 : Int32)), .val (.ref b6), .val (.int v126), .val (.int v108), .val (.ref b9), .unset, .unset, .unset, .unset, .unset]) rfl (XS.aload X9.here hx rfl (hb hby at_133) rfl rfl (XS.iconst X9.here hx rfl (hb hby at_135) (XS.iload X9.here hx rfl (hb hby at_136) rfl (XS.imul X9.here hx rfl (hb hby at_138) rfl (XS.iconst X9.here hx rfl (hb hby at_139) (kt))))))) ?_
    refine own_stI X9 hx hZ e9 A9 (j := (0 : Int32)) (by decide) N8 g_b9 (hb hby at_140) (ys := [(0 : Int32), (0 : Int32), (0 : Int32), (0 : Int32)]) rfl ?_
    intro T10 h10 L10 X10 N10 e10 W10 A10
    replace S0 := S0.wr W10
    replace A5 := A5.other W10 ne_b1_b9
    replace A8 := A8.other W10 ne_b6_b9
    have ZW10 : n0 ≤ h10.size := Nat.le_trans Z9 (Keep.of_wr W10).1
    refine own_run (g' := (mkF m 151 #[.val (.int p0), .val (.int p1), .val (.int p2), .val (.int p3), .val (.int p4), .val (.int v3), .val (.int v10), .val (.int v17), .val (.ref b1), .val (.int v56), .val (.int v64), .val (.int v69), .val (.int (0 : Int32)), .val (.int (1 : Int32)), .val (.ref b6), .val (.int v126), .val (.int v108), .val (.ref b9), .unset, .unset, .unset, .unset, .unset] [(.int v108), (.int (1 : Int32)), (.ref b9)])) (fun _ kt => XS.aload X10.here hx rfl (hb hby at_141) rfl rfl (XS.iconst X10.here hx rfl (hb hby at_143) (XS.iload X10.here hx rfl (hb hby at_144) rfl (XS.imul X10.here hx rfl (hb hby at_146) rfl (XS.iconst X10.here hx rfl (hb hby at_147) (XS.iadd X10.here hx rfl (hb hby at_148) rfl (XS.iload X10.here hx rfl (hb hby at_149) rfl (kt)))))))) ?_
    refine own_stI X10 hx hZ e10 A10 (j := (1 : Int32)) (by decide) N10 g_b9 (hb hby at_151) (ys := [(0 : Int32), v108, (0 : Int32), (0 : Int32)]) rfl ?_
    intro T11 h11 L11 X11 N11 e11 W11 A11
    replace S0 := S0.wr W11
    replace A5 := A5.other W11 ne_b1_b9
    replace A8 := A8.other W11 ne_b6_b9
    have ZW11 : n0 ≤ h11.size := Nat.le_trans ZW10 (Keep.of_wr W11).1
    refine own_run (g' := (mkF m 160 #[.val (.int p0), .val (.int p1), .val (.int p2), .val (.int p3), .val (.int p4), .val (.int v3), .val (.int v10), .val (.int v17), .val (.ref b1), .val (.int v56), .val (.int v64), .val (.int v69), .val (.int (0 : Int32)), .val (.int (1 : Int32)), .val (.ref b6), .val (.int v126), .val (.int v108), .val (.ref b9), .unset, .unset, .unset, .unset, .unset] [(.int v108), (.int (2 : Int32)), (.ref b9)])) (fun _ kt => XS.aload X11.here hx rfl (hb hby at_152) rfl rfl (XS.iconst X11.here hx rfl (hb hby at_154) (XS.iload X11.here hx rfl (hb hby at_155) rfl (XS.imul X11.here hx rfl (hb hby at_157) rfl (XS.iload X11.here hx rfl (hb hby at_158) rfl (kt)))))) ?_
    refine own_stI X11 hx hZ e11 A11 (j := (2 : Int32)) (by decide) N11 g_b9 (hb hby at_160) (ys := [(0 : Int32), v108, v108, (0 : Int32)]) rfl ?_
    intro T12 h12 L12 X12 N12 e12 W12 A12
    replace S0 := S0.wr W12
    replace A5 := A5.other W12 ne_b1_b9
    replace A8 := A8.other W12 ne_b6_b9
    have ZW12 : n0 ≤ h12.size := Nat.le_trans ZW11 (Keep.of_wr W12).1
    refine own_run (g' := (mkF m 171 #[.val (.int p0), .val (.int p1), .val (.int p2), .val (.int p3), .val (.int p4), .val (.int v3), .val (.int v10), .val (.int v17), .val (.ref b1), .val (.int v56), .val (.int v64), .val (.int v69), .val (.int (0 : Int32)), .val (.int (1 : Int32)), .val (.ref b6), .val (.int v126), .val (.int v108), .val (.ref b9), .unset, .unset, .unset, .unset, .unset] [(.int v126), (.int (3 : Int32)), (.ref b9)])) (fun _ kt => XS.aload X12.here hx rfl (hb hby at_161) rfl rfl (XS.iconst X12.here hx rfl (hb hby at_163) (XS.iload X12.here hx rfl (hb hby at_164) rfl (XS.imul X12.here hx rfl (hb hby at_166) rfl (XS.iconst X12.here hx rfl (hb hby at_167) (XS.iadd X12.here hx rfl (hb hby at_168) rfl (XS.iload X12.here hx rfl (hb hby at_169) rfl (kt)))))))) ?_
    refine own_stI X12 hx hZ e12 A12 (j := (3 : Int32)) (by decide) N12 g_b9 (hb hby at_171) (ys := [(0 : Int32), v108, v108, v126]) rfl ?_
    intro T13 h13 L13 X13 N13 e13 W13 A13
    replace S0 := S0.wr W13
    replace A5 := A5.other W13 ne_b1_b9
    replace A8 := A8.other W13 ne_b6_b9
    have ZW13 : n0 ≤ h13.size := Nat.le_trans ZW12 (Keep.of_wr W13).1
    refine own_run (g' := (mkF m 174 #[.val (.int p0), .val (.int p1), .val (.int p2), .val (.int p3), .val (.int p4), .val (.int v3), .val (.int v10), .val (.int v17), .val (.ref b1), .val (.int v56), .val (.int v64), .val (.int v69), .val (.int (0 : Int32)), .val (.int (1 : Int32)), .val (.ref b6), .val (.int v126), .val (.int v108), .val (.ref b9), .unset, .unset, .unset, .unset, .unset] [(.int (9 : Int32))])) (fun _ kt => XS.bipush X13.here hx rfl (hb hby at_172) (kt)) ?_
    refine own_newA X13 hx hZ (aty := .int) (hw _ (List.mem_of_getElem? (i := 0) rfl)) (ty := .int) rfl rfl e13 (hb hby at_174) (by decide) (cap := 9) (by decide) (by decide) (by decide) (by decide) ?_
    intro T14 h14 b14 qq14 X14 e14 E14 A14
    have ne_b1_b14 : b1 ≠ b14 := Nat.ne_of_lt (by rw [qq14]; exact A5.lt)
    have ne_b6_b14 : b6 ≠ b14 := Nat.ne_of_lt (by rw [qq14]; exact A8.lt)
    have ne_b9_b14 : b9 ≠ b14 := Nat.ne_of_lt (by rw [qq14]; exact A13.lt)
    replace S0 := S0.ext E14
    replace A5 := A5.ext E14
    replace A8 := A8.ext E14
    replace A13 := A13.ext E14
    have g_b14 : n0 ≤ b14 := by rw [qq14]; exact ZW13
    have Z14 : n0 ≤ h14.size := Nat.le_trans ZW13 E14.1
    replace A14 : own_A Z h14 b14 .int (9 : Int32) [(0 : Int32), (0 : Int32), (0 : Int32), (0 : Int32), (0 : Int32), (0 : Int32), (0 : Int32), (0 : Int32), (0 : Int32)] := A14
    refine own_run (g' := (mkF m 182 #[.val (.int p0), .val (.int p1), .val (.int p2), .val (.int p3), .val (.int p4), .val (.int v3), .val (.int v10), .val (.int v17), .val (.ref b1), .val (.int v56), .val (.int v64), .val (.int v69), .val (.int (0 : Int32)), .val (.int (1 : Int32)), .val (.ref b6), .val (.int v126), .val (.int v108), .val (.ref b9), .unset, .unset, .unset, .unset, .unset] [(.int v56), (.int (0 : Int32)), (.int p1), (.int (0 : Int32)), (.ref b14), (.ref b14)])) (fun _ kt => XS.dup X14.here hx rfl (hb hby at_176) rfl rfl (XS.iconst X14.here hx rfl (hb hby at_177) (XS.iloadN X14.here hx rfl (hb hby at_178) rfl (XS.iconst X14.here hx rfl (hb hby at_179) (XS.iload X14.here hx rfl (hb hby at_180) rfl (kt)))))) ?_
    refine own_callS X14 hx hZ hown (hw _ (List.mem_of_getElem? (i := 9) rfl)) (hw _ (List.mem_of_getElem? (i := 10) rfl)) (hw _ (List.mem_of_getElem? (i := 4) rfl)) (hw _ (List.mem_of_getElem? (i := 11) rfl)) (by decide) (rm3 l Z a0 hw [] p1 (0 : Int32) v56 h14 n0) e14 (by decide) (by decide) (by decide) (by decide) (by rw [hml]; rfl) (argsL := [(.int p1), (.int (0 : Int32)), (.int v56)]) (rest := [(.int (0 : Int32)), (.ref b14), (.ref b14)]) (lenOf own_pd5 rfl) rfl (W := 3) (Nat.le_of_eq rfl) (hb hby at_182) ?_
    intro T15 r15 L15 X15 hQ15
    obtain ⟨rfl, Nq15, e15⟩ := hQ15
    have N15 := Fr.app N13 Nq15
    refine own_stI X15 hx hZ e15 A14 (j := (0 : Int32)) (by decide) N15 g_b14 (hb hby at_185) (ys := [(own_f3 p1 (0 : Int32) v56), (0 : Int32), (0 : Int32), (0 : Int32), (0 : Int32), (0 : Int32), (0 : Int32), (0 : Int32), (0 : Int32)]) rfl ?_
    intro T16 h16 L16 X16 N16 e16 W16 A16
    replace S0 := S0.wr W16
    replace A5 := A5.other W16 ne_b1_b14
    replace A8 := A8.other W16 ne_b6_b14
    replace A13 := A13.other W16 ne_b9_b14
    have ZW16 : n0 ≤ h16.size := Nat.le_trans Z14 (Keep.of_wr W16).1
    refine own_run (g' := (mkF m 192 #[.val (.int p0), .val (.int p1), .val (.int p2), .val (.int p3), .val (.int p4), .val (.int v3), .val (.int v10), .val (.int v17), .val (.ref b1), .val (.int v56), .val (.int v64), .val (.int v69), .val (.int (0 : Int32)), .val (.int (1 : Int32)), .val (.ref b6), .val (.int v126), .val (.int v108), .val (.ref b9), .unset, .unset, .unset, .unset, .unset] [(.int v56), (.int (1 : Int32)), (.int p1), (.int (1 : Int32)), (.ref b14), (.ref b14)])) (fun _ kt => XS.dup X16.here hx rfl (hb hby at_186) rfl rfl (XS.iconst X16.here hx rfl (hb hby at_187) (XS.iloadN X16.here hx rfl (hb hby at_188) rfl (XS.iconst X16.here hx rfl (hb hby at_189) (XS.iload X16.here hx rfl (hb hby at_190) rfl (kt)))))) ?_
    refine own_callS X16 hx hZ hown (hw _ (List.mem_of_getElem? (i := 9) rfl)) (hw _ (List.mem_of_getElem? (i := 10) rfl)) (hw _ (List.mem_of_getElem? (i := 4) rfl)) (hw _ (List.mem_of_getElem? (i := 11) rfl)) (by decide) (rm3 l Z a0 hw [] p1 (1 : Int32) v56 h16 n0) e16 (by decide) (by decide) (by decide) (by decide) (by rw [hml]; rfl) (argsL := [(.int p1), (.int (1 : Int32)), (.int v56)]) (rest := [(.int (1 : Int32)), (.ref b14), (.ref b14)]) (lenOf own_pd5 rfl) rfl (W := 3) (Nat.le_of_eq rfl) (hb hby at_192) ?_
    intro T17 r17 L17 X17 hQ17
    obtain ⟨rfl, Nq17, e17⟩ := hQ17
    have N17 := Fr.app N16 Nq17
    refine own_stI X17 hx hZ e17 A16 (j := (1 : Int32)) (by decide) N17 g_b14 (hb hby at_195) (ys := [(own_f3 p1 (0 : Int32) v56), (own_f3 p1 (1 : Int32) v56), (0 : Int32), (0 : Int32), (0 : Int32), (0 : Int32), (0 : Int32), (0 : Int32), (0 : Int32)]) rfl ?_
    intro T18 h18 L18 X18 N18 e18 W18 A18
    replace S0 := S0.wr W18
    replace A5 := A5.other W18 ne_b1_b14
    replace A8 := A8.other W18 ne_b6_b14
    replace A13 := A13.other W18 ne_b9_b14
    have ZW18 : n0 ≤ h18.size := Nat.le_trans ZW16 (Keep.of_wr W18).1
    refine own_run (g' := (mkF m 202 #[.val (.int p0), .val (.int p1), .val (.int p2), .val (.int p3), .val (.int p4), .val (.int v3), .val (.int v10), .val (.int v17), .val (.ref b1), .val (.int v56), .val (.int v64), .val (.int v69), .val (.int (0 : Int32)), .val (.int (1 : Int32)), .val (.ref b6), .val (.int v126), .val (.int v108), .val (.ref b9), .unset, .unset, .unset, .unset, .unset] [(.int v56), (.int (2 : Int32)), (.int p1), (.int (2 : Int32)), (.ref b14), (.ref b14)])) (fun _ kt => XS.dup X18.here hx rfl (hb hby at_196) rfl rfl (XS.iconst X18.here hx rfl (hb hby at_197) (XS.iloadN X18.here hx rfl (hb hby at_198) rfl (XS.iconst X18.here hx rfl (hb hby at_199) (XS.iload X18.here hx rfl (hb hby at_200) rfl (kt)))))) ?_
    refine own_callS X18 hx hZ hown (hw _ (List.mem_of_getElem? (i := 9) rfl)) (hw _ (List.mem_of_getElem? (i := 10) rfl)) (hw _ (List.mem_of_getElem? (i := 4) rfl)) (hw _ (List.mem_of_getElem? (i := 11) rfl)) (by decide) (rm3 l Z a0 hw [] p1 (2 : Int32) v56 h18 n0) e18 (by decide) (by decide) (by decide) (by decide) (by rw [hml]; rfl) (argsL := [(.int p1), (.int (2 : Int32)), (.int v56)]) (rest := [(.int (2 : Int32)), (.ref b14), (.ref b14)]) (lenOf own_pd5 rfl) rfl (W := 3) (Nat.le_of_eq rfl) (hb hby at_202) ?_
    intro T19 r19 L19 X19 hQ19
    obtain ⟨rfl, Nq19, e19⟩ := hQ19
    have N19 := Fr.app N18 Nq19
    refine own_stI X19 hx hZ e19 A18 (j := (2 : Int32)) (by decide) N19 g_b14 (hb hby at_205) (ys := [(own_f3 p1 (0 : Int32) v56), (own_f3 p1 (1 : Int32) v56), (own_f3 p1 (2 : Int32) v56), (0 : Int32), (0 : Int32), (0 : Int32), (0 : Int32), (0 : Int32), (0 : Int32)]) rfl ?_
    intro T20 h20 L20 X20 N20 e20 W20 A20
    replace S0 := S0.wr W20
    replace A5 := A5.other W20 ne_b1_b14
    replace A8 := A8.other W20 ne_b6_b14
    replace A13 := A13.other W20 ne_b9_b14
    have ZW20 : n0 ≤ h20.size := Nat.le_trans ZW18 (Keep.of_wr W20).1
    refine own_run (g' := (mkF m 212 #[.val (.int p0), .val (.int p1), .val (.int p2), .val (.int p3), .val (.int p4), .val (.int v3), .val (.int v10), .val (.int v17), .val (.ref b1), .val (.int v56), .val (.int v64), .val (.int v69), .val (.int (0 : Int32)), .val (.int (1 : Int32)), .val (.ref b6), .val (.int v126), .val (.int v108), .val (.ref b9), .unset, .unset, .unset, .unset, .unset] [(.int v56), (.int (3 : Int32)), (.int p1), (.int (3 : Int32)), (.ref b14), (.ref b14)])) (fun _ kt => XS.dup X20.here hx rfl (hb hby at_206) rfl rfl (XS.iconst X20.here hx rfl (hb hby at_207) (XS.iloadN X20.here hx rfl (hb hby at_208) rfl (XS.iconst X20.here hx rfl (hb hby at_209) (XS.iload X20.here hx rfl (hb hby at_210) rfl (kt)))))) ?_
    refine own_callS X20 hx hZ hown (hw _ (List.mem_of_getElem? (i := 9) rfl)) (hw _ (List.mem_of_getElem? (i := 10) rfl)) (hw _ (List.mem_of_getElem? (i := 4) rfl)) (hw _ (List.mem_of_getElem? (i := 11) rfl)) (by decide) (rm3 l Z a0 hw [] p1 (3 : Int32) v56 h20 n0) e20 (by decide) (by decide) (by decide) (by decide) (by rw [hml]; rfl) (argsL := [(.int p1), (.int (3 : Int32)), (.int v56)]) (rest := [(.int (3 : Int32)), (.ref b14), (.ref b14)]) (lenOf own_pd5 rfl) rfl (W := 3) (Nat.le_of_eq rfl) (hb hby at_212) ?_
    intro T21 r21 L21 X21 hQ21
    obtain ⟨rfl, Nq21, e21⟩ := hQ21
    have N21 := Fr.app N20 Nq21
    refine own_stI X21 hx hZ e21 A20 (j := (3 : Int32)) (by decide) N21 g_b14 (hb hby at_215) (ys := [(own_f3 p1 (0 : Int32) v56), (own_f3 p1 (1 : Int32) v56), (own_f3 p1 (2 : Int32) v56), (own_f3 p1 (3 : Int32) v56), (0 : Int32), (0 : Int32), (0 : Int32), (0 : Int32), (0 : Int32)]) rfl ?_
    intro T22 h22 L22 X22 N22 e22 W22 A22
    replace S0 := S0.wr W22
    replace A5 := A5.other W22 ne_b1_b14
    replace A8 := A8.other W22 ne_b6_b14
    replace A13 := A13.other W22 ne_b9_b14
    have ZW22 : n0 ≤ h22.size := Nat.le_trans ZW20 (Keep.of_wr W22).1
    refine own_run (g' := (mkF m 222 #[.val (.int p0), .val (.int p1), .val (.int p2), .val (.int p3), .val (.int p4), .val (.int v3), .val (.int v10), .val (.int v17), .val (.ref b1), .val (.int v56), .val (.int v64), .val (.int v69), .val (.int (0 : Int32)), .val (.int (1 : Int32)), .val (.ref b6), .val (.int v126), .val (.int v108), .val (.ref b9), .unset, .unset, .unset, .unset, .unset] [(.int v56), (.int (4 : Int32)), (.int p1), (.int (4 : Int32)), (.ref b14), (.ref b14)])) (fun _ kt => XS.dup X22.here hx rfl (hb hby at_216) rfl rfl (XS.iconst X22.here hx rfl (hb hby at_217) (XS.iloadN X22.here hx rfl (hb hby at_218) rfl (XS.iconst X22.here hx rfl (hb hby at_219) (XS.iload X22.here hx rfl (hb hby at_220) rfl (kt)))))) ?_
    refine own_callS X22 hx hZ hown (hw _ (List.mem_of_getElem? (i := 9) rfl)) (hw _ (List.mem_of_getElem? (i := 10) rfl)) (hw _ (List.mem_of_getElem? (i := 4) rfl)) (hw _ (List.mem_of_getElem? (i := 11) rfl)) (by decide) (rm3 l Z a0 hw [] p1 (4 : Int32) v56 h22 n0) e22 (by decide) (by decide) (by decide) (by decide) (by rw [hml]; rfl) (argsL := [(.int p1), (.int (4 : Int32)), (.int v56)]) (rest := [(.int (4 : Int32)), (.ref b14), (.ref b14)]) (lenOf own_pd5 rfl) rfl (W := 3) (Nat.le_of_eq rfl) (hb hby at_222) ?_
    intro T23 r23 L23 X23 hQ23
    obtain ⟨rfl, Nq23, e23⟩ := hQ23
    have N23 := Fr.app N22 Nq23
    refine own_stI X23 hx hZ e23 A22 (j := (4 : Int32)) (by decide) N23 g_b14 (hb hby at_225) (ys := [(own_f3 p1 (0 : Int32) v56), (own_f3 p1 (1 : Int32) v56), (own_f3 p1 (2 : Int32) v56), (own_f3 p1 (3 : Int32) v56), (own_f3 p1 (4 : Int32) v56), (0 : Int32), (0 : Int32), (0 : Int32), (0 : Int32)]) rfl ?_
    intro T24 h24 L24 X24 N24 e24 W24 A24
    replace S0 := S0.wr W24
    replace A5 := A5.other W24 ne_b1_b14
    replace A8 := A8.other W24 ne_b6_b14
    replace A13 := A13.other W24 ne_b9_b14
    have ZW24 : n0 ≤ h24.size := Nat.le_trans ZW22 (Keep.of_wr W24).1
    refine own_run (g' := (mkF m 232 #[.val (.int p0), .val (.int p1), .val (.int p2), .val (.int p3), .val (.int p4), .val (.int v3), .val (.int v10), .val (.int v17), .val (.ref b1), .val (.int v56), .val (.int v64), .val (.int v69), .val (.int (0 : Int32)), .val (.int (1 : Int32)), .val (.ref b6), .val (.int v126), .val (.int v108), .val (.ref b9), .unset, .unset, .unset, .unset, .unset] [(.int v56), (.int (5 : Int32)), (.int p1), (.int (5 : Int32)), (.ref b14), (.ref b14)])) (fun _ kt => XS.dup X24.here hx rfl (hb hby at_226) rfl rfl (XS.iconst X24.here hx rfl (hb hby at_227) (XS.iloadN X24.here hx rfl (hb hby at_228) rfl (XS.iconst X24.here hx rfl (hb hby at_229) (XS.iload X24.here hx rfl (hb hby at_230) rfl (kt)))))) ?_
    refine own_callS X24 hx hZ hown (hw _ (List.mem_of_getElem? (i := 9) rfl)) (hw _ (List.mem_of_getElem? (i := 10) rfl)) (hw _ (List.mem_of_getElem? (i := 4) rfl)) (hw _ (List.mem_of_getElem? (i := 11) rfl)) (by decide) (rm3 l Z a0 hw [] p1 (5 : Int32) v56 h24 n0) e24 (by decide) (by decide) (by decide) (by decide) (by rw [hml]; rfl) (argsL := [(.int p1), (.int (5 : Int32)), (.int v56)]) (rest := [(.int (5 : Int32)), (.ref b14), (.ref b14)]) (lenOf own_pd5 rfl) rfl (W := 3) (Nat.le_of_eq rfl) (hb hby at_232) ?_
    intro T25 r25 L25 X25 hQ25
    obtain ⟨rfl, Nq25, e25⟩ := hQ25
    have N25 := Fr.app N24 Nq25
    refine own_stI X25 hx hZ e25 A24 (j := (5 : Int32)) (by decide) N25 g_b14 (hb hby at_235) (ys := [(own_f3 p1 (0 : Int32) v56), (own_f3 p1 (1 : Int32) v56), (own_f3 p1 (2 : Int32) v56), (own_f3 p1 (3 : Int32) v56), (own_f3 p1 (4 : Int32) v56), (own_f3 p1 (5 : Int32) v56), (0 : Int32), (0 : Int32), (0 : Int32)]) rfl ?_
    intro T26 h26 L26 X26 N26 e26 W26 A26
    replace S0 := S0.wr W26
    replace A5 := A5.other W26 ne_b1_b14
    replace A8 := A8.other W26 ne_b6_b14
    replace A13 := A13.other W26 ne_b9_b14
    have ZW26 : n0 ≤ h26.size := Nat.le_trans ZW24 (Keep.of_wr W26).1
    refine own_run (g' := (mkF m 244 #[.val (.int p0), .val (.int p1), .val (.int p2), .val (.int p3), .val (.int p4), .val (.int v3), .val (.int v10), .val (.int v17), .val (.ref b1), .val (.int v56), .val (.int v64), .val (.int v69), .val (.int (0 : Int32)), .val (.int (1 : Int32)), .val (.ref b6), .val (.int v126), .val (.int v108), .val (.ref b9), .unset, .unset, .unset, .unset, .unset] [(.int v56), (.int (6 : Int32)), (.int p1), (.int (6 : Int32)), (.ref b14), (.ref b14)])) (fun _ kt => XS.dup X26.here hx rfl (hb hby at_236) rfl rfl (XS.bipush X26.here hx rfl (hb hby at_237) (XS.iloadN X26.here hx rfl (hb hby at_239) rfl (XS.bipush X26.here hx rfl (hb hby at_240) (XS.iload X26.here hx rfl (hb hby at_242) rfl (kt)))))) ?_
    refine own_callS X26 hx hZ hown (hw _ (List.mem_of_getElem? (i := 9) rfl)) (hw _ (List.mem_of_getElem? (i := 10) rfl)) (hw _ (List.mem_of_getElem? (i := 4) rfl)) (hw _ (List.mem_of_getElem? (i := 11) rfl)) (by decide) (rm3 l Z a0 hw [] p1 (6 : Int32) v56 h26 n0) e26 (by decide) (by decide) (by decide) (by decide) (by rw [hml]; rfl) (argsL := [(.int p1), (.int (6 : Int32)), (.int v56)]) (rest := [(.int (6 : Int32)), (.ref b14), (.ref b14)]) (lenOf own_pd5 rfl) rfl (W := 3) (Nat.le_of_eq rfl) (hb hby at_244) ?_
    intro T27 r27 L27 X27 hQ27
    obtain ⟨rfl, Nq27, e27⟩ := hQ27
    have N27 := Fr.app N26 Nq27
    refine own_stI X27 hx hZ e27 A26 (j := (6 : Int32)) (by decide) N27 g_b14 (hb hby at_247) (ys := [(own_f3 p1 (0 : Int32) v56), (own_f3 p1 (1 : Int32) v56), (own_f3 p1 (2 : Int32) v56), (own_f3 p1 (3 : Int32) v56), (own_f3 p1 (4 : Int32) v56), (own_f3 p1 (5 : Int32) v56), (own_f3 p1 (6 : Int32) v56), (0 : Int32), (0 : Int32)]) rfl ?_
    intro T28 h28 L28 X28 N28 e28 W28 A28
    replace S0 := S0.wr W28
    replace A5 := A5.other W28 ne_b1_b14
    replace A8 := A8.other W28 ne_b6_b14
    replace A13 := A13.other W28 ne_b9_b14
    have ZW28 : n0 ≤ h28.size := Nat.le_trans ZW26 (Keep.of_wr W28).1
    refine own_run (g' := (mkF m 256 #[.val (.int p0), .val (.int p1), .val (.int p2), .val (.int p3), .val (.int p4), .val (.int v3), .val (.int v10), .val (.int v17), .val (.ref b1), .val (.int v56), .val (.int v64), .val (.int v69), .val (.int (0 : Int32)), .val (.int (1 : Int32)), .val (.ref b6), .val (.int v126), .val (.int v108), .val (.ref b9), .unset, .unset, .unset, .unset, .unset] [(.int v56), (.int (7 : Int32)), (.int p1), (.int (7 : Int32)), (.ref b14), (.ref b14)])) (fun _ kt => XS.dup X28.here hx rfl (hb hby at_248) rfl rfl (XS.bipush X28.here hx rfl (hb hby at_249) (XS.iloadN X28.here hx rfl (hb hby at_251) rfl (XS.bipush X28.here hx rfl (hb hby at_252) (XS.iload X28.here hx rfl (hb hby at_254) rfl (kt)))))) ?_
    refine own_callS X28 hx hZ hown (hw _ (List.mem_of_getElem? (i := 9) rfl)) (hw _ (List.mem_of_getElem? (i := 10) rfl)) (hw _ (List.mem_of_getElem? (i := 4) rfl)) (hw _ (List.mem_of_getElem? (i := 11) rfl)) (by decide) (rm3 l Z a0 hw [] p1 (7 : Int32) v56 h28 n0) e28 (by decide) (by decide) (by decide) (by decide) (by rw [hml]; rfl) (argsL := [(.int p1), (.int (7 : Int32)), (.int v56)]) (rest := [(.int (7 : Int32)), (.ref b14), (.ref b14)]) (lenOf own_pd5 rfl) rfl (W := 3) (Nat.le_of_eq rfl) (hb hby at_256) ?_
    intro T29 r29 L29 X29 hQ29
    obtain ⟨rfl, Nq29, e29⟩ := hQ29
    have N29 := Fr.app N28 Nq29
    refine own_stI X29 hx hZ e29 A28 (j := (7 : Int32)) (by decide) N29 g_b14 (hb hby at_259) (ys := [(own_f3 p1 (0 : Int32) v56), (own_f3 p1 (1 : Int32) v56), (own_f3 p1 (2 : Int32) v56), (own_f3 p1 (3 : Int32) v56), (own_f3 p1 (4 : Int32) v56), (own_f3 p1 (5 : Int32) v56), (own_f3 p1 (6 : Int32) v56), (own_f3 p1 (7 : Int32) v56), (0 : Int32)]) rfl ?_
    intro T30 h30 L30 X30 N30 e30 W30 A30
    replace S0 := S0.wr W30
    replace A5 := A5.other W30 ne_b1_b14
    replace A8 := A8.other W30 ne_b6_b14
    replace A13 := A13.other W30 ne_b9_b14
    have ZW30 : n0 ≤ h30.size := Nat.le_trans ZW28 (Keep.of_wr W30).1
    refine own_run (g' := (mkF m 268 #[.val (.int p0), .val (.int p1), .val (.int p2), .val (.int p3), .val (.int p4), .val (.int v3), .val (.int v10), .val (.int v17), .val (.ref b1), .val (.int v56), .val (.int v64), .val (.int v69), .val (.int (0 : Int32)), .val (.int (1 : Int32)), .val (.ref b6), .val (.int v126), .val (.int v108), .val (.ref b9), .unset, .unset, .unset, .unset, .unset] [(.int v56), (.int (8 : Int32)), (.int p1), (.int (8 : Int32)), (.ref b14), (.ref b14)])) (fun _ kt => XS.dup X30.here hx rfl (hb hby at_260) rfl rfl (XS.bipush X30.here hx rfl (hb hby at_261) (XS.iloadN X30.here hx rfl (hb hby at_263) rfl (XS.bipush X30.here hx rfl (hb hby at_264) (XS.iload X30.here hx rfl (hb hby at_266) rfl (kt)))))) ?_
    refine own_callS X30 hx hZ hown (hw _ (List.mem_of_getElem? (i := 9) rfl)) (hw _ (List.mem_of_getElem? (i := 10) rfl)) (hw _ (List.mem_of_getElem? (i := 4) rfl)) (hw _ (List.mem_of_getElem? (i := 11) rfl)) (by decide) (rm3 l Z a0 hw [] p1 (8 : Int32) v56 h30 n0) e30 (by decide) (by decide) (by decide) (by decide) (by rw [hml]; rfl) (argsL := [(.int p1), (.int (8 : Int32)), (.int v56)]) (rest := [(.int (8 : Int32)), (.ref b14), (.ref b14)]) (lenOf own_pd5 rfl) rfl (W := 3) (Nat.le_of_eq rfl) (hb hby at_268) ?_
    intro T31 r31 L31 X31 hQ31
    obtain ⟨rfl, Nq31, e31⟩ := hQ31
    have N31 := Fr.app N30 Nq31
    refine own_stI X31 hx hZ e31 A30 (j := (8 : Int32)) (by decide) N31 g_b14 (hb hby at_271) (ys := [(own_f3 p1 (0 : Int32) v56), (own_f3 p1 (1 : Int32) v56), (own_f3 p1 (2 : Int32) v56), (own_f3 p1 (3 : Int32) v56), (own_f3 p1 (4 : Int32) v56), (own_f3 p1 (5 : Int32) v56), (own_f3 p1 (6 : Int32) v56), (own_f3 p1 (7 : Int32) v56), (own_f3 p1 (8 : Int32) v56)]) rfl ?_
    intro T32 h32 L32 X32 N32 e32 W32 A32
    replace S0 := S0.wr W32
    replace A5 := A5.other W32 ne_b1_b14
    replace A8 := A8.other W32 ne_b6_b14
    replace A13 := A13.other W32 ne_b9_b14
    have ZW32 : n0 ≤ h32.size := Nat.le_trans ZW30 (Keep.of_wr W32).1
    refine own_run (g' := (mkF m 274 #[.val (.int p0), .val (.int p1), .val (.int p2), .val (.int p3), .val (.int p4), .val (.int v3), .val (.int v10), .val (.int v17), .val (.ref b1), .val (.int v56), .val (.int v64), .val (.int v69), .val (.int (0 : Int32)), .val (.int (1 : Int32)), .val (.ref b6), .val (.int v126), .val (.int v108), .val (.ref b9), .val (.ref b14), .unset, .unset, .unset, .unset] [])) (fun _ kt => XS.astore X32.here hx rfl (hb hby at_272) rfl rfl (l' := #[.val (.int p0), .val (.int p1), .val (.int p2), .val (.int p3), .val (.int p4), .val (.int v3), .val (.int v10), .val (.int v17), .val (.ref b1), .val (.int v56), .val (.int v64), .val (.int v69), .val (.int (0 : Int32)), .val (.int (1 : Int32)), .val (.ref b6), .val (.int v126), .val (.int v108), .val (.ref b9), .val (.ref b14), .unset, .unset, .unset, .unset]) rfl (kt)) ?_
    refine own_new X32 hx hZ hown (hw _ (List.mem_of_getElem? (i := 12) rfl)) (hw _ (List.mem_of_getElem? (i := 13) rfl)) (hw _ (List.mem_of_getElem? (i := 14) rfl)) e32 (hb hby at_274) (by decide) (by decide) ?_
    intro T33 h33 b33 qq33 X33 e33 E33 K33 D33
    have ne_b1_b33 : b1 ≠ b33 := Nat.ne_of_lt (by rw [qq33]; exact A5.lt)
    have ne_b6_b33 : b6 ≠ b33 := Nat.ne_of_lt (by rw [qq33]; exact A8.lt)
    have ne_b9_b33 : b9 ≠ b33 := Nat.ne_of_lt (by rw [qq33]; exact A13.lt)
    have ne_b14_b33 : b14 ≠ b33 := Nat.ne_of_lt (by rw [qq33]; exact A32.lt)
    replace S0 := S0.ext E33
    replace A5 := A5.ext E33
    replace A8 := A8.ext E33
    replace A13 := A13.ext E33
    replace A32 := A32.ext E33
    have g_b33 : n0 ≤ b33 := by rw [qq33]; exact ZW32
    have Z33 : n0 ≤ h33.size := Nat.le_trans ZW32 E33.1
    have F33_tables : Fld Z h33 b33 "com/example/lugha/lugha/concepts/PageGroups" "tables" "Ljava/util/List;" .null := D33 (Or.inr (hw _ (List.mem_of_getElem? (i := 46) rfl))) (ty := (.object "java/util/List")) (by decide)
    have F33_offsets : Fld Z h33 b33 "com/example/lugha/lugha/concepts/PageGroups" "offsets" "[I" .null := D33 (Or.inr (hw _ (List.mem_of_getElem? (i := 48) rfl))) (ty := (.array .int)) (by decide)
    have F33_ids : Fld Z h33 b33 "com/example/lugha/lugha/concepts/PageGroups" "ids" "Ljava/util/List;" .null := D33 (Or.inr (hw _ (List.mem_of_getElem? (i := 50) rfl))) (ty := (.object "java/util/List")) (by decide)
    have F33_ranges : Fld Z h33 b33 "com/example/lugha/lugha/concepts/PageGroups" "ranges" "[I" .null := D33 (Or.inr (hw _ (List.mem_of_getElem? (i := 52) rfl))) (ty := (.array .int)) (by decide)
    have F33_members : Fld Z h33 b33 "com/example/lugha/lugha/concepts/PageGroups" "members" "[I" .null := D33 (Or.inr (hw _ (List.mem_of_getElem? (i := 54) rfl))) (ty := (.array .int)) (by decide)
    have F33_groupOfPage : Fld Z h33 b33 "com/example/lugha/lugha/concepts/PageGroups" "groupOfPage" "[I" .null := D33 (Or.inr (hw _ (List.mem_of_getElem? (i := 56) rfl))) (ty := (.array .int)) (by decide)
    have F33_fewLanguages : Fld Z h33 b33 "com/example/lugha/lugha/concepts/PageGroups" "fewLanguages" "I" (.int (0 : Int32)) := D33 (Or.inr (hw _ (List.mem_of_getElem? (i := 58) rfl))) (ty := .int) (by decide)
    refine own_run (g' := (mkF m 278 #[.val (.int p0), .val (.int p1), .val (.int p2), .val (.int p3), .val (.int p4), .val (.int v3), .val (.int v10), .val (.int v17), .val (.ref b1), .val (.int v56), .val (.int v64), .val (.int v69), .val (.int (0 : Int32)), .val (.int (1 : Int32)), .val (.ref b6), .val (.int v126), .val (.int v108), .val (.ref b9), .val (.ref b14), .unset, .unset, .unset, .unset] [(.ref b33), (.ref b33)])) (fun _ kt => XS.dup X33.here hx rfl (hb hby at_277) rfl rfl (kt)) ?_
    refine own_new X33 hx hZ hown (hw _ (List.mem_of_getElem? (i := 15) rfl)) (hw _ (List.mem_of_getElem? (i := 16) rfl)) (hw _ (List.mem_of_getElem? (i := 17) rfl)) e33 (hb hby at_278) (by decide) (by decide) ?_
    intro T34 h34 b34 qq34 X34 e34 E34 K34 D34
    have ne_b1_b34 : b1 ≠ b34 := Nat.ne_of_lt (by rw [qq34]; exact A5.lt)
    have ne_b6_b34 : b6 ≠ b34 := Nat.ne_of_lt (by rw [qq34]; exact A8.lt)
    have ne_b9_b34 : b9 ≠ b34 := Nat.ne_of_lt (by rw [qq34]; exact A13.lt)
    have ne_b14_b34 : b14 ≠ b34 := Nat.ne_of_lt (by rw [qq34]; exact A32.lt)
    have ne_b33_b34 : b33 ≠ b34 := Nat.ne_of_lt (by rw [qq34]; exact K33.lt)
    replace S0 := S0.ext E34
    replace A5 := A5.ext E34
    replace A8 := A8.ext E34
    replace A13 := A13.ext E34
    replace A32 := A32.ext E34
    replace K33 := K33.ext E34
    replace F33_tables := F33_tables.ext E34
    replace F33_offsets := F33_offsets.ext E34
    replace F33_ids := F33_ids.ext E34
    replace F33_ranges := F33_ranges.ext E34
    replace F33_members := F33_members.ext E34
    replace F33_groupOfPage := F33_groupOfPage.ext E34
    replace F33_fewLanguages := F33_fewLanguages.ext E34
    have g_b34 : n0 ≤ b34 := by rw [qq34]; exact Z33
    have Z34 : n0 ≤ h34.size := Nat.le_trans Z33 E34.1
    have F34_modCount : Fld Z h34 b34 "java/util/AbstractList" "modCount" "I" (.int (0 : Int32)) := D34 (Or.inl (hw _ (List.mem_of_getElem? (i := 37) rfl))) (ty := .int) (by decide)
    have F34_elementData : Fld Z h34 b34 "java/util/ArrayList" "elementData" "[Ljava/lang/Object;" .null := D34 (Or.inl (hw _ (List.mem_of_getElem? (i := 40) rfl))) (ty := (.array (.object "java/lang/Object"))) (by decide)
    refine own_run (g' := (mkF m 282 #[.val (.int p0), .val (.int p1), .val (.int p2), .val (.int p3), .val (.int p4), .val (.int v3), .val (.int v10), .val (.int v17), .val (.ref b1), .val (.int v56), .val (.int v64), .val (.int v69), .val (.int (0 : Int32)), .val (.int (1 : Int32)), .val (.ref b6), .val (.int v126), .val (.int v108), .val (.ref b9), .val (.ref b14), .unset, .unset, .unset, .unset] [(.ref b34), (.ref b34), (.ref b33), (.ref b33)])) (fun _ kt => XS.dup X34.here hx rfl (hb hby at_281) rfl rfl (kt)) ?_
    refine own_callI (b := b34) X34 hx hZ hown rfl (hw _ (List.mem_of_getElem? (i := 18) rfl)) (hw _ (List.mem_of_getElem? (i := 19) rfl)) (hw _ (List.mem_of_getElem? (i := 17) rfl)) (hw _ (List.mem_of_getElem? (i := 20) rfl)) (by decide) (rm4 l Z a0 hw [] b34 u h34 n0 Z34 K34 F34_modCount F34_elementData g_b34 S0) e34 (by decide) (by decide) (by decide) (by decide) (by rw [hml]; rfl) (argsL := []) (rest := [(.ref b34), (.ref b33), (.ref b33)]) (lenOf own_pd0 rfl) rfl (W := 3) (Nat.le_of_eq rfl) (hb hby at_282) ?_
    intro T35 r35 L35 X35 hQ35
    obtain ⟨rfl, Nq35, Kc35, F35_0, F35_1⟩ := hQ35
    have N35 := Fr.app N32 Nq35
    replace S0 := own_StaKeep S0 Kc35 K34
    replace A5 := A5.keep Kc35 (ninS ne_b1_b34 nin0)
    replace A8 := A8.keep Kc35 (ninS ne_b6_b34 nin0)
    replace A13 := A13.keep Kc35 (ninS ne_b9_b34 nin0)
    replace A32 := A32.keep Kc35 (ninS ne_b14_b34 nin0)
    replace K33 := K33.keep Kc35
    replace F33_tables := F33_tables.keep Kc35 (ninS ne_b33_b34 nin0)
    replace F33_offsets := F33_offsets.keep Kc35 (ninS ne_b33_b34 nin0)
    replace F33_ids := F33_ids.keep Kc35 (ninS ne_b33_b34 nin0)
    replace F33_ranges := F33_ranges.keep Kc35 (ninS ne_b33_b34 nin0)
    replace F33_members := F33_members.keep Kc35 (ninS ne_b33_b34 nin0)
    replace F33_groupOfPage := F33_groupOfPage.keep Kc35 (ninS ne_b33_b34 nin0)
    replace F33_fewLanguages := F33_fewLanguages.keep Kc35 (ninS ne_b33_b34 nin0)
    replace K34 := K34.keep Kc35
    have Z35 : n0 ≤ T35.heap.size := Nat.le_trans Z34 Kc35.1
    refine own_run (g' := (mkF m 295 #[.val (.int p0), .val (.int p1), .val (.int p2), .val (.int p3), .val (.int p4), .val (.int v3), .val (.int v10), .val (.int v17), .val (.ref b1), .val (.int v56), .val (.int v64), .val (.int v69), .val (.int (0 : Int32)), .val (.int (1 : Int32)), .val (.ref b6), .val (.int v126), .val (.int v108), .val (.ref b9), .val (.ref b14), .unset, .unset, .unset, .unset] [(.int (0 : Int32)), (.ref b14), (.ref b6), (.ref b9), .null, (.ref b1), (.ref b34), (.ref b33), (.ref b33)])) (fun _ kt => XS.aload X35.here hx rfl (hb hby at_285) rfl rfl (XS.aconstNull X35.here hx rfl (hb hby at_287) (XS.aload X35.here hx rfl (hb hby at_288) rfl rfl (XS.aload X35.here hx rfl (hb hby at_290) rfl rfl (XS.aload X35.here hx rfl (hb hby at_292) rfl rfl (XS.iconst X35.here hx rfl (hb hby at_294) (kt))))))) ?_
    refine own_callI (b := b33) X35 hx hZ hown rfl (hw _ (List.mem_of_getElem? (i := 41) rfl)) (hw _ (List.mem_of_getElem? (i := 42) rfl)) (hw _ (List.mem_of_getElem? (i := 14) rfl)) (hw _ (List.mem_of_getElem? (i := 43) rfl)) (by decide) (rm8 l Z a0 hw [] b33 b34 b1 b9 b6 b14 (0 : Int32) T35.heap n0 Z35 K33 F33_tables F33_offsets F33_ids F33_ranges F33_members F33_groupOfPage F33_fewLanguages g_b33) rfl (by decide) (by decide) (by decide) (by decide) (by rw [hml]; rfl) (argsL := [(.ref b34), (.ref b1), .null, (.ref b9), (.ref b6), (.ref b14), (.int (0 : Int32))]) (rest := [(.ref b33)]) (lenOf own_pd6 rfl) rfl (W := 1) (Nat.le_of_eq rfl) (hb hby at_295) ?_
    intro T36 r36 L36 X36 hQ36
    obtain ⟨rfl, Nq36, Kc36, F36_0, F36_1, F36_2, F36_3, F36_4, F36_5, F36_6⟩ := hQ36
    have N36 := Fr.app N35 Nq36
    replace S0 := own_StaKeep S0 Kc36 K33
    replace A5 := A5.keep Kc36 (ninS ne_b1_b33 nin0)
    replace A8 := A8.keep Kc36 (ninS ne_b6_b33 nin0)
    replace A13 := A13.keep Kc36 (ninS ne_b9_b33 nin0)
    replace A32 := A32.keep Kc36 (ninS ne_b14_b33 nin0)
    replace K33 := K33.keep Kc36
    replace K34 := K34.keep Kc36
    replace F35_0 := F35_0.keep Kc36 (ninS (Ne.symm ne_b33_b34) nin0)
    replace F35_1 := F35_1.keep Kc36 (ninS (Ne.symm ne_b33_b34) nin0)
    have Z36 : n0 ≤ T36.heap.size := Nat.le_trans Z35 Kc36.1
    refine own_run (g' := (mkF m 304 #[.val (.int p0), .val (.int p1), .val (.int p2), .val (.int p3), .val (.int p4), .val (.int v3), .val (.int v10), .val (.int v17), .val (.ref b1), .val (.int v56), .val (.int v64), .val (.int v69), .val (.int (0 : Int32)), .val (.int (1 : Int32)), .val (.ref b6), .val (.int v126), .val (.int v108), .val (.ref b9), .val (.ref b14), .val (.ref b33), .unset, .unset, .unset] [(.int v64), (.ref b1)])) (fun _ kt => XS.astore X36.here hx rfl (hb hby at_298) rfl rfl (l' := #[.val (.int p0), .val (.int p1), .val (.int p2), .val (.int p3), .val (.int p4), .val (.int v3), .val (.int v10), .val (.int v17), .val (.ref b1), .val (.int v56), .val (.int v64), .val (.int v69), .val (.int (0 : Int32)), .val (.int (1 : Int32)), .val (.ref b6), .val (.int v126), .val (.int v108), .val (.ref b9), .val (.ref b14), .val (.ref b33), .unset, .unset, .unset]) rfl (XS.aload X36.here hx rfl (hb hby at_300) rfl rfl (XS.iload X36.here hx rfl (hb hby at_302) rfl (kt)))) ?_
    refine own_ldI X36 hx hZ rfl A5 (j := v64) he4 (hb hby at_304) (x := ([(0 : Int32), v3, (v3 + v10), ((v3 + v10) + v17)].getD v64.toNatClampNeg 0)) rfl ?_
    refine own_run (g' := (mkF m 307 #[.val (.int p0), .val (.int p1), .val (.int p2), .val (.int p3), .val (.int p4), .val (.int v3), .val (.int v10), .val (.int v17), .val (.ref b1), .val (.int v56), .val (.int v64), .val (.int v69), .val (.int (0 : Int32)), .val (.int (1 : Int32)), .val (.ref b6), .val (.int v126), .val (.int v108), .val (.ref b9), .val (.ref b14), .val (.ref b33), .val (.int ([(0 : Int32), v3, (v3 + v10), ((v3 + v10) + v17)].getD v64.toNatClampNeg 0)), .unset, .unset] [])) (fun _ kt => XS.istore X36.here hx rfl (hb hby at_305) rfl (l' := #[.val (.int p0), .val (.int p1), .val (.int p2), .val (.int p3), .val (.int p4), .val (.int v3), .val (.int v10), .val (.int v17), .val (.ref b1), .val (.int v56), .val (.int v64), .val (.int v69), .val (.int (0 : Int32)), .val (.int (1 : Int32)), .val (.ref b6), .val (.int v126), .val (.int v108), .val (.ref b9), .val (.ref b14), .val (.ref b33), .val (.int ([(0 : Int32), v3, (v3 + v10), ((v3 + v10) + v17)].getD v64.toNatClampNeg 0)), .unset, .unset]) rfl (kt)) ?_
    obtain ⟨v305, hv305⟩ : ∃ z : Int32, z = ([(0 : Int32), v3, (v3 + v10), ((v3 + v10) + v17)].getD v64.toNatClampNeg 0) := ⟨_, rfl⟩
    rw [← hv305]
    refine own_run (g' := (mkF m 313 #[.val (.int p0), .val (.int p1), .val (.int p2), .val (.int p3), .val (.int p4), .val (.int v3), .val (.int v10), .val (.int v17), .val (.ref b1), .val (.int v56), .val (.int v64), .val (.int v69), .val (.int (0 : Int32)), .val (.int (1 : Int32)), .val (.ref b6), .val (.int v126), .val (.int v108), .val (.ref b9), .val (.ref b14), .val (.ref b33), .val (.int v305), .unset, .unset] [(.int (v64 + (1 : Int32))), (.ref b1)])) (fun _ kt => XS.aload X36.here hx rfl (hb hby at_307) rfl rfl (XS.iload X36.here hx rfl (hb hby at_309) rfl (XS.iconst X36.here hx rfl (hb hby at_311) (XS.iadd X36.here hx rfl (hb hby at_312) rfl (kt))))) ?_
    refine own_ldI X36 hx hZ rfl A5 (j := (v64 + (1 : Int32))) he5 (hb hby at_313) (x := ([(0 : Int32), v3, (v3 + v10), ((v3 + v10) + v17)].getD (v64 + (1 : Int32)).toNatClampNeg 0)) rfl ?_
    refine own_run (g' := (mkF m 319 #[.val (.int p0), .val (.int p1), .val (.int p2), .val (.int p3), .val (.int p4), .val (.int v3), .val (.int v10), .val (.int v17), .val (.ref b1), .val (.int v56), .val (.int v64), .val (.int v69), .val (.int (0 : Int32)), .val (.int (1 : Int32)), .val (.ref b6), .val (.int v126), .val (.int v108), .val (.ref b9), .val (.ref b14), .val (.ref b33), .val (.int v305), .val (.int (([(0 : Int32), v3, (v3 + v10), ((v3 + v10) + v17)].getD (v64 + (1 : Int32)).toNatClampNeg 0) - v305)), .unset] [])) (fun _ kt => XS.iload X36.here hx rfl (hb hby at_314) rfl (XS.isub X36.here hx rfl (hb hby at_316) rfl (XS.istore X36.here hx rfl (hb hby at_317) rfl (l' := #[.val (.int p0), .val (.int p1), .val (.int p2), .val (.int p3), .val (.int p4), .val (.int v3), .val (.int v10), .val (.int v17), .val (.ref b1), .val (.int v56), .val (.int v64), .val (.int v69), .val (.int (0 : Int32)), .val (.int (1 : Int32)), .val (.ref b6), .val (.int v126), .val (.int v108), .val (.ref b9), .val (.ref b14), .val (.ref b33), .val (.int v305), .val (.int (([(0 : Int32), v3, (v3 + v10), ((v3 + v10) + v17)].getD (v64 + (1 : Int32)).toNatClampNeg 0) - v305)), .unset]) rfl (kt)))) ?_
    obtain ⟨v317, hv317⟩ : ∃ z : Int32, z = (([(0 : Int32), v3, (v3 + v10), ((v3 + v10) + v17)].getD (v64 + (1 : Int32)).toNatClampNeg 0) - v305) := ⟨_, rfl⟩
    rw [← hv317]
    refine own_run (g' := (mkF m 321 #[.val (.int p0), .val (.int p1), .val (.int p2), .val (.int p3), .val (.int p4), .val (.int v3), .val (.int v10), .val (.int v17), .val (.ref b1), .val (.int v56), .val (.int v64), .val (.int v69), .val (.int (0 : Int32)), .val (.int (1 : Int32)), .val (.ref b6), .val (.int v126), .val (.int v108), .val (.ref b9), .val (.ref b14), .val (.ref b33), .val (.int v305), .val (.int v317), .unset] [(.int v317)])) (fun _ kt => XS.iload X36.here hx rfl (hb hby at_319) rfl (kt)) ?_
    have J37 : ∀ (T37 : State) (L37 : List Loc) (v37_s0 : Int32), Stand p l e room_1 s m args below meth c T37 L37 6 36 → Fr n0 L37 → T37.heap = T36.heap → v37_s0 = (if (0 : Int32) < v317 then (if (own_f11 p1 v305 v69) = (0 : Int32) then (if (1 : Int32) < v317 then (if (own_f11 p1 (v305 + (1 : Int32)) v69) = (0 : Int32) then (if (2 : Int32) < v317 then (if (own_f11 p1 (v305 + (2 : Int32)) v69) = (0 : Int32) then (0 : Int32) else (1 : Int32)) else (0 : Int32)) else (1 : Int32)) else (if (2 : Int32) < v317 then (if (own_f11 p1 (v305 + (2 : Int32)) v69) = (0 : Int32) then (0 : Int32) else (1 : Int32)) else (0 : Int32))) else (1 : Int32)) else (if (1 : Int32) < v317 then (if (own_f11 p1 (v305 + (1 : Int32)) v69) = (0 : Int32) then (if (2 : Int32) < v317 then (if (own_f11 p1 (v305 + (2 : Int32)) v69) = (0 : Int32) then (0 : Int32) else (1 : Int32)) else (0 : Int32)) else (1 : Int32)) else (if (2 : Int32) < v317 then (if (own_f11 p1 (v305 + (2 : Int32)) v69) = (0 : Int32) then (0 : Int32) else (1 : Int32)) else (0 : Int32)))) →  own_Run p e below s room_1.cells room_1.slots (Q0 h0 n0) T37 (mkF m 378 #[.val (.int p0), .val (.int p1), .val (.int p2), .val (.int p3), .val (.int p4), .val (.int v3), .val (.int v10), .val (.int v17), .val (.ref b1), .val (.int v56), .val (.int v64), .val (.int v69), .val (.int (0 : Int32)), .val (.int (1 : Int32)), .val (.ref b6), .val (.int v126), .val (.int v108), .val (.ref b9), .val (.ref b14), .val (.ref b33), .val (.int v305), .val (.int v317), .unset] [(.int v37_s0)]) := by
      intro T37 L37 v37_s0 X37 N37 e37 hv37_s0
      refine own_run (g' := (mkF m 386 #[.val (.int p0), .val (.int p1), .val (.int p2), .val (.int p3), .val (.int p4), .val (.int v3), .val (.int v10), .val (.int v17), .val (.ref b1), .val (.int v56), .val (.int v64), .val (.int v69), .val (.int (0 : Int32)), .val (.int (1 : Int32)), .val (.ref b6), .val (.int v126), .val (.int v108), .val (.ref b9), .val (.ref b14), .val (.ref b33), .val (.int v305), .val (.int v317), .val (.int v37_s0)] [(.int v64), (.int v69), (.ref b33)])) (fun _ kt => XS.istore X37.here hx rfl (hb hby at_378) rfl (l' := #[.val (.int p0), .val (.int p1), .val (.int p2), .val (.int p3), .val (.int p4), .val (.int v3), .val (.int v10), .val (.int v17), .val (.ref b1), .val (.int v56), .val (.int v64), .val (.int v69), .val (.int (0 : Int32)), .val (.int (1 : Int32)), .val (.ref b6), .val (.int v126), .val (.int v108), .val (.ref b9), .val (.ref b14), .val (.ref b33), .val (.int v305), .val (.int v317), .val (.int v37_s0)]) rfl (XS.aload X37.here hx rfl (hb hby at_380) rfl rfl (XS.iload X37.here hx rfl (hb hby at_382) rfl (XS.iload X37.here hx rfl (hb hby at_384) rfl (kt))))) ?_
      have hg0 : ¬ ((2 : Int32) * v69) < 0 ∧ ((2 : Int32) * v69) < (4 : Int32) := by rcases hgg with h | h <;> rw [h] <;> decide
      have hg1 : ¬ (((2 : Int32) * v69) + (1 : Int32)) < 0 ∧ (((2 : Int32) * v69) + (1 : Int32)) < (4 : Int32) := by rcases hgg with h | h <;> rw [h] <;> decide
      obtain ⟨lo, hLO, hHI, hn9, hmm⟩ := own_rng0 p1 v56 v69 v108 v126 xs7 xs8 hgg hv108 hxs7 hv126 hxs8
      have hlo : ¬ ([(0 : Int32), v108, v108, v126].getD ((2 : Int32) * v69).toNatClampNeg 0) < 0 ∧ ([(0 : Int32), v108, v108, v126].getD ((2 : Int32) * v69).toNatClampNeg 0).toNatClampNeg ≤ ([(0 : Int32), v108, v108, v126].getD (((2 : Int32) * v69) + (1 : Int32)).toNatClampNeg 0).toNatClampNeg ∧ ([(0 : Int32), v108, v108, v126].getD (((2 : Int32) * v69) + (1 : Int32)).toNatClampNeg 0).toNatClampNeg ≤ 9 := own_hlo hLO hHI hn9
      refine own_callV (b := b33) X37 hx hZ hown (hw _ (List.mem_of_getElem? (i := 59) rfl)) (hw _ (List.mem_of_getElem? (i := 60) rfl)) (hw _ (List.mem_of_getElem? (i := 62) rfl)) (hw _ (List.mem_of_getElem? (i := 61) rfl)) (hw _ (List.mem_of_getElem? (i := 14) rfl)) (hw _ (List.mem_of_getElem? (i := 63) rfl)) (by decide) K33 (rm9 l Z a0 hw [] b33 v69 v64 b1 b9 b6 [(0 : Int32), v3, (v3 + v10), ((v3 + v10) + v17)] [(0 : Int32), v108, v108, v126] xs8 ([(0 : Int32), v3, (v3 + v10), ((v3 + v10) + v17)].getD v64.toNatClampNeg 0) ([(0 : Int32), v3, (v3 + v10), ((v3 + v10) + v17)].getD (v64 + (1 : Int32)).toNatClampNeg 0) ([(0 : Int32), v108, v108, v126].getD ((2 : Int32) * v69).toNatClampNeg 0) ([(0 : Int32), v108, v108, v126].getD (((2 : Int32) * v69) + (1 : Int32)).toNatClampNeg 0) T36.heap n0 K33 F36_1 F36_3 F36_4 A5 A13 A8 he4 rfl hg0 rfl hg1 rfl hlo.1 hlo.2.1 hlo.2.2 he5 rfl) e37 (by decide) (by decide) (by decide) (by decide) (by rw [hml]; rfl) (argsL := [(.int v69), (.int v64)]) (rest := []) (lenOf own_pd7 rfl) rfl (W := 0) (Nat.le_of_eq rfl) (hb hby at_386) ?_
      intro T38 r38 L38 X38 hQ38
      obtain ⟨j38, k38, rfl, Nq38, e38, hed38, hek38⟩ := hQ38
      have N38 := Fr.app N37 Nq38
      have hd391 : (if j38 < k38 then (1 : Int32) else (0 : Int32)) = v37_s0 := own_fin p1 v69 v305 _ v56 v317 _ _ lo _ _ j38 k38 v37_s0 hv305 (own_offs v3 v10 v17 v64 (by rw [hv3]; exact own_m3I _) (by rw [hv10]; exact own_m3I _) (by rw [hv17]; exact own_m3I _) hee v305 _ v56 hv305 rfl hv56) hv317 hLO hHI hn9 hmm hed38 hek38 hv37_s0
      refine own_run (g' := (mkF m 399 #[.val (.int p0), .val (.int p1), .val (.int p2), .val (.int p3), .val (.int p4), .val (.int v3), .val (.int v10), .val (.int v17), .val (.ref b1), .val (.int v56), .val (.int v64), .val (.int v69), .val (.int (0 : Int32)), .val (.int (1 : Int32)), .val (.ref b6), .val (.int v126), .val (.int v108), .val (.ref b9), .val (.ref b14), .val (.ref b33), .val (.int v305), .val (.int v317), .val (.int v37_s0)] [(.int (1 : Int32))])) (fun _ kt => XS.iload X38.here hx rfl (hb hby at_389) rfl (XS.icmpNo X38.here hx rfl (hb hby at_391) rfl ((teq hd391).2) (XS.iconst X38.here hx rfl (hb hby at_394) (XS.goto X38.here hx rfl (pc0 := 395) (pc' := 399) rfl (hb hby at_395) (by decide) (by decide) (kt))))) ?_
      exact own_retN (t := .boolean) X38 hx Bd.notSynchronized Bd.returns (by simp) (hb hby at_399) (by decide) (by decide) ⟨rfl, N38⟩
    by_cases hc321 : (0 : Int32) < v317
    · refine own_run (g' := (mkF m 329 #[.val (.int p0), .val (.int p1), .val (.int p2), .val (.int p3), .val (.int p4), .val (.int v3), .val (.int v10), .val (.int v17), .val (.ref b1), .val (.int v56), .val (.int v64), .val (.int v69), .val (.int (0 : Int32)), .val (.int (1 : Int32)), .val (.ref b6), .val (.int v126), .val (.int v108), .val (.ref b9), .val (.ref b14), .val (.ref b33), .val (.int v305), .val (.int v317), .unset] [(.int v69), (.int v305), (.int p1)])) (fun _ kt => XS.ifNo X36.here hx rfl (hb hby at_321) rfl ((if0 _ _).trans (tlt hc321).2.2.2) (XS.iloadN X36.here hx rfl (hb hby at_324) rfl (XS.iload X36.here hx rfl (hb hby at_325) rfl (XS.iload X36.here hx rfl (hb hby at_327) rfl (kt))))) ?_
      refine own_callS X36 hx hZ hown (hw _ (List.mem_of_getElem? (i := 68) rfl)) (hw _ (List.mem_of_getElem? (i := 69) rfl)) (hw _ (List.mem_of_getElem? (i := 4) rfl)) (hw _ (List.mem_of_getElem? (i := 70) rfl)) (by decide) (rm11 l Z a0 hw [] p1 v305 v69 T36.heap n0) rfl (by decide) (by decide) (by decide) (by decide) (by rw [hml]; rfl) (argsL := [(.int p1), (.int v305), (.int v69)]) (rest := []) (lenOf own_pd1 rfl) rfl (W := 0) (Nat.le_of_eq rfl) (hb hby at_329) ?_
      intro T39 r39 L39 X39 hQ39
      obtain ⟨rfl, Nq39, e39⟩ := hQ39
      have N39 := Fr.app N36 Nq39
      by_cases hc332 : (own_f11 p1 v305 v69) = (0 : Int32)
      · refine own_run (g' := (mkF m 338 #[.val (.int p0), .val (.int p1), .val (.int p2), .val (.int p3), .val (.int p4), .val (.int v3), .val (.int v10), .val (.int v17), .val (.ref b1), .val (.int v56), .val (.int v64), .val (.int v69), .val (.int (0 : Int32)), .val (.int (1 : Int32)), .val (.ref b6), .val (.int v126), .val (.int v108), .val (.ref b9), .val (.ref b14), .val (.ref b33), .val (.int v305), .val (.int v317), .unset] [(.int (1 : Int32)), (.int v317)])) (fun _ kt => XS.ifNo X39.here hx rfl (hb hby at_332) rfl ((if0 _ _).trans (teq hc332).2) (XS.iload X39.here hx rfl (hb hby at_335) rfl (XS.iconst X39.here hx rfl (hb hby at_337) (kt)))) ?_
        by_cases hc338 : (1 : Int32) < v317
        · refine own_run (g' := (mkF m 348 #[.val (.int p0), .val (.int p1), .val (.int p2), .val (.int p3), .val (.int p4), .val (.int v3), .val (.int v10), .val (.int v17), .val (.ref b1), .val (.int v56), .val (.int v64), .val (.int v69), .val (.int (0 : Int32)), .val (.int (1 : Int32)), .val (.ref b6), .val (.int v126), .val (.int v108), .val (.ref b9), .val (.ref b14), .val (.ref b33), .val (.int v305), .val (.int v317), .unset] [(.int v69), (.int (v305 + (1 : Int32))), (.int p1)])) (fun _ kt => XS.icmpNo X39.here hx rfl (hb hby at_338) rfl ((tlt hc338).2.2.2) (XS.iloadN X39.here hx rfl (hb hby at_341) rfl (XS.iload X39.here hx rfl (hb hby at_342) rfl (XS.iconst X39.here hx rfl (hb hby at_344) (XS.iadd X39.here hx rfl (hb hby at_345) rfl (XS.iload X39.here hx rfl (hb hby at_346) rfl (kt))))))) ?_
          refine own_callS X39 hx hZ hown (hw _ (List.mem_of_getElem? (i := 68) rfl)) (hw _ (List.mem_of_getElem? (i := 69) rfl)) (hw _ (List.mem_of_getElem? (i := 4) rfl)) (hw _ (List.mem_of_getElem? (i := 70) rfl)) (by decide) (rm11 l Z a0 hw [] p1 (v305 + (1 : Int32)) v69 T36.heap n0) e39 (by decide) (by decide) (by decide) (by decide) (by rw [hml]; rfl) (argsL := [(.int p1), (.int (v305 + (1 : Int32))), (.int v69)]) (rest := []) (lenOf own_pd1 rfl) rfl (W := 0) (Nat.le_of_eq rfl) (hb hby at_348) ?_
          intro T40 r40 L40 X40 hQ40
          obtain ⟨rfl, Nq40, e40⟩ := hQ40
          have N40 := Fr.app N39 Nq40
          by_cases hc351 : (own_f11 p1 (v305 + (1 : Int32)) v69) = (0 : Int32)
          · refine own_run (g' := (mkF m 357 #[.val (.int p0), .val (.int p1), .val (.int p2), .val (.int p3), .val (.int p4), .val (.int v3), .val (.int v10), .val (.int v17), .val (.ref b1), .val (.int v56), .val (.int v64), .val (.int v69), .val (.int (0 : Int32)), .val (.int (1 : Int32)), .val (.ref b6), .val (.int v126), .val (.int v108), .val (.ref b9), .val (.ref b14), .val (.ref b33), .val (.int v305), .val (.int v317), .unset] [(.int (2 : Int32)), (.int v317)])) (fun _ kt => XS.ifNo X40.here hx rfl (hb hby at_351) rfl ((if0 _ _).trans (teq hc351).2) (XS.iload X40.here hx rfl (hb hby at_354) rfl (XS.iconst X40.here hx rfl (hb hby at_356) (kt)))) ?_
            by_cases hc357 : (2 : Int32) < v317
            · refine own_run (g' := (mkF m 367 #[.val (.int p0), .val (.int p1), .val (.int p2), .val (.int p3), .val (.int p4), .val (.int v3), .val (.int v10), .val (.int v17), .val (.ref b1), .val (.int v56), .val (.int v64), .val (.int v69), .val (.int (0 : Int32)), .val (.int (1 : Int32)), .val (.ref b6), .val (.int v126), .val (.int v108), .val (.ref b9), .val (.ref b14), .val (.ref b33), .val (.int v305), .val (.int v317), .unset] [(.int v69), (.int (v305 + (2 : Int32))), (.int p1)])) (fun _ kt => XS.icmpNo X40.here hx rfl (hb hby at_357) rfl ((tlt hc357).2.2.2) (XS.iloadN X40.here hx rfl (hb hby at_360) rfl (XS.iload X40.here hx rfl (hb hby at_361) rfl (XS.iconst X40.here hx rfl (hb hby at_363) (XS.iadd X40.here hx rfl (hb hby at_364) rfl (XS.iload X40.here hx rfl (hb hby at_365) rfl (kt))))))) ?_
              refine own_callS X40 hx hZ hown (hw _ (List.mem_of_getElem? (i := 68) rfl)) (hw _ (List.mem_of_getElem? (i := 69) rfl)) (hw _ (List.mem_of_getElem? (i := 4) rfl)) (hw _ (List.mem_of_getElem? (i := 70) rfl)) (by decide) (rm11 l Z a0 hw [] p1 (v305 + (2 : Int32)) v69 T36.heap n0) e40 (by decide) (by decide) (by decide) (by decide) (by rw [hml]; rfl) (argsL := [(.int p1), (.int (v305 + (2 : Int32))), (.int v69)]) (rest := []) (lenOf own_pd1 rfl) rfl (W := 0) (Nat.le_of_eq rfl) (hb hby at_367) ?_
              intro T41 r41 L41 X41 hQ41
              obtain ⟨rfl, Nq41, e41⟩ := hQ41
              have N41 := Fr.app N40 Nq41
              by_cases hc370 : (own_f11 p1 (v305 + (2 : Int32)) v69) = (0 : Int32)
              · refine own_run (g' := (mkF m 378 #[.val (.int p0), .val (.int p1), .val (.int p2), .val (.int p3), .val (.int p4), .val (.int v3), .val (.int v10), .val (.int v17), .val (.ref b1), .val (.int v56), .val (.int v64), .val (.int v69), .val (.int (0 : Int32)), .val (.int (1 : Int32)), .val (.ref b6), .val (.int v126), .val (.int v108), .val (.ref b9), .val (.ref b14), .val (.ref b33), .val (.int v305), .val (.int v317), .unset] [(.int (0 : Int32))])) (fun _ kt => XS.ifYes X41.here hx rfl (pc0 := 370) (pc' := 377) rfl (hb hby at_370) rfl ((if0 _ _).trans (teq hc370).1) (by decide) (by decide) (XS.iconst X41.here hx rfl (hb hby at_377) (kt))) ?_
                exact J37 T41 _ (0 : Int32) X41 N41 e41 (by rw [if_pos hc321, if_pos hc332, if_pos hc338, if_pos hc351, if_pos hc357, if_pos hc370])
              · refine own_run (g' := (mkF m 378 #[.val (.int p0), .val (.int p1), .val (.int p2), .val (.int p3), .val (.int p4), .val (.int v3), .val (.int v10), .val (.int v17), .val (.ref b1), .val (.int v56), .val (.int v64), .val (.int v69), .val (.int (0 : Int32)), .val (.int (1 : Int32)), .val (.ref b6), .val (.int v126), .val (.int v108), .val (.ref b9), .val (.ref b14), .val (.ref b33), .val (.int v305), .val (.int v317), .unset] [(.int (1 : Int32))])) (fun _ kt => XS.ifNo X41.here hx rfl (hb hby at_370) rfl ((if0 _ _).trans (feq hc370).1) (XS.iconst X41.here hx rfl (hb hby at_373) (XS.goto X41.here hx rfl (pc0 := 374) (pc' := 378) rfl (hb hby at_374) (by decide) (by decide) (kt)))) ?_
                exact J37 T41 _ (1 : Int32) X41 N41 e41 (by rw [if_pos hc321, if_pos hc332, if_pos hc338, if_pos hc351, if_pos hc357, if_neg hc370])
            · refine own_run (g' := (mkF m 378 #[.val (.int p0), .val (.int p1), .val (.int p2), .val (.int p3), .val (.int p4), .val (.int v3), .val (.int v10), .val (.int v17), .val (.ref b1), .val (.int v56), .val (.int v64), .val (.int v69), .val (.int (0 : Int32)), .val (.int (1 : Int32)), .val (.ref b6), .val (.int v126), .val (.int v108), .val (.ref b9), .val (.ref b14), .val (.ref b33), .val (.int v305), .val (.int v317), .unset] [(.int (0 : Int32))])) (fun _ kt => XS.icmpYes X40.here hx rfl (pc0 := 357) (pc' := 377) rfl (hb hby at_357) rfl ((flt hc357).2.2.2) (by decide) (by decide) (XS.iconst X40.here hx rfl (hb hby at_377) (kt))) ?_
              exact J37 T40 _ (0 : Int32) X40 N40 e40 (by rw [if_pos hc321, if_pos hc332, if_pos hc338, if_pos hc351, if_neg hc357])
          · refine own_run (g' := (mkF m 378 #[.val (.int p0), .val (.int p1), .val (.int p2), .val (.int p3), .val (.int p4), .val (.int v3), .val (.int v10), .val (.int v17), .val (.ref b1), .val (.int v56), .val (.int v64), .val (.int v69), .val (.int (0 : Int32)), .val (.int (1 : Int32)), .val (.ref b6), .val (.int v126), .val (.int v108), .val (.ref b9), .val (.ref b14), .val (.ref b33), .val (.int v305), .val (.int v317), .unset] [(.int (1 : Int32))])) (fun _ kt => XS.ifYes X40.here hx rfl (pc0 := 351) (pc' := 373) rfl (hb hby at_351) rfl ((if0 _ _).trans (feq hc351).2) (by decide) (by decide) (XS.iconst X40.here hx rfl (hb hby at_373) (XS.goto X40.here hx rfl (pc0 := 374) (pc' := 378) rfl (hb hby at_374) (by decide) (by decide) (kt)))) ?_
            exact J37 T40 _ (1 : Int32) X40 N40 e40 (by rw [if_pos hc321, if_pos hc332, if_pos hc338, if_neg hc351])
        · refine own_run (g' := (mkF m 357 #[.val (.int p0), .val (.int p1), .val (.int p2), .val (.int p3), .val (.int p4), .val (.int v3), .val (.int v10), .val (.int v17), .val (.ref b1), .val (.int v56), .val (.int v64), .val (.int v69), .val (.int (0 : Int32)), .val (.int (1 : Int32)), .val (.ref b6), .val (.int v126), .val (.int v108), .val (.ref b9), .val (.ref b14), .val (.ref b33), .val (.int v305), .val (.int v317), .unset] [(.int (2 : Int32)), (.int v317)])) (fun _ kt => XS.icmpYes X39.here hx rfl (pc0 := 338) (pc' := 354) rfl (hb hby at_338) rfl ((flt hc338).2.2.2) (by decide) (by decide) (XS.iload X39.here hx rfl (hb hby at_354) rfl (XS.iconst X39.here hx rfl (hb hby at_356) (kt)))) ?_
          by_cases hc357 : (2 : Int32) < v317
          · refine own_run (g' := (mkF m 367 #[.val (.int p0), .val (.int p1), .val (.int p2), .val (.int p3), .val (.int p4), .val (.int v3), .val (.int v10), .val (.int v17), .val (.ref b1), .val (.int v56), .val (.int v64), .val (.int v69), .val (.int (0 : Int32)), .val (.int (1 : Int32)), .val (.ref b6), .val (.int v126), .val (.int v108), .val (.ref b9), .val (.ref b14), .val (.ref b33), .val (.int v305), .val (.int v317), .unset] [(.int v69), (.int (v305 + (2 : Int32))), (.int p1)])) (fun _ kt => XS.icmpNo X39.here hx rfl (hb hby at_357) rfl ((tlt hc357).2.2.2) (XS.iloadN X39.here hx rfl (hb hby at_360) rfl (XS.iload X39.here hx rfl (hb hby at_361) rfl (XS.iconst X39.here hx rfl (hb hby at_363) (XS.iadd X39.here hx rfl (hb hby at_364) rfl (XS.iload X39.here hx rfl (hb hby at_365) rfl (kt))))))) ?_
            refine own_callS X39 hx hZ hown (hw _ (List.mem_of_getElem? (i := 68) rfl)) (hw _ (List.mem_of_getElem? (i := 69) rfl)) (hw _ (List.mem_of_getElem? (i := 4) rfl)) (hw _ (List.mem_of_getElem? (i := 70) rfl)) (by decide) (rm11 l Z a0 hw [] p1 (v305 + (2 : Int32)) v69 T36.heap n0) e39 (by decide) (by decide) (by decide) (by decide) (by rw [hml]; rfl) (argsL := [(.int p1), (.int (v305 + (2 : Int32))), (.int v69)]) (rest := []) (lenOf own_pd1 rfl) rfl (W := 0) (Nat.le_of_eq rfl) (hb hby at_367) ?_
            intro T42 r42 L42 X42 hQ42
            obtain ⟨rfl, Nq42, e42⟩ := hQ42
            have N42 := Fr.app N39 Nq42
            by_cases hc370 : (own_f11 p1 (v305 + (2 : Int32)) v69) = (0 : Int32)
            · refine own_run (g' := (mkF m 378 #[.val (.int p0), .val (.int p1), .val (.int p2), .val (.int p3), .val (.int p4), .val (.int v3), .val (.int v10), .val (.int v17), .val (.ref b1), .val (.int v56), .val (.int v64), .val (.int v69), .val (.int (0 : Int32)), .val (.int (1 : Int32)), .val (.ref b6), .val (.int v126), .val (.int v108), .val (.ref b9), .val (.ref b14), .val (.ref b33), .val (.int v305), .val (.int v317), .unset] [(.int (0 : Int32))])) (fun _ kt => XS.ifYes X42.here hx rfl (pc0 := 370) (pc' := 377) rfl (hb hby at_370) rfl ((if0 _ _).trans (teq hc370).1) (by decide) (by decide) (XS.iconst X42.here hx rfl (hb hby at_377) (kt))) ?_
              exact J37 T42 _ (0 : Int32) X42 N42 e42 (by rw [if_pos hc321, if_pos hc332, if_neg hc338, if_pos hc357, if_pos hc370])
            · refine own_run (g' := (mkF m 378 #[.val (.int p0), .val (.int p1), .val (.int p2), .val (.int p3), .val (.int p4), .val (.int v3), .val (.int v10), .val (.int v17), .val (.ref b1), .val (.int v56), .val (.int v64), .val (.int v69), .val (.int (0 : Int32)), .val (.int (1 : Int32)), .val (.ref b6), .val (.int v126), .val (.int v108), .val (.ref b9), .val (.ref b14), .val (.ref b33), .val (.int v305), .val (.int v317), .unset] [(.int (1 : Int32))])) (fun _ kt => XS.ifNo X42.here hx rfl (hb hby at_370) rfl ((if0 _ _).trans (feq hc370).1) (XS.iconst X42.here hx rfl (hb hby at_373) (XS.goto X42.here hx rfl (pc0 := 374) (pc' := 378) rfl (hb hby at_374) (by decide) (by decide) (kt)))) ?_
              exact J37 T42 _ (1 : Int32) X42 N42 e42 (by rw [if_pos hc321, if_pos hc332, if_neg hc338, if_pos hc357, if_neg hc370])
          · refine own_run (g' := (mkF m 378 #[.val (.int p0), .val (.int p1), .val (.int p2), .val (.int p3), .val (.int p4), .val (.int v3), .val (.int v10), .val (.int v17), .val (.ref b1), .val (.int v56), .val (.int v64), .val (.int v69), .val (.int (0 : Int32)), .val (.int (1 : Int32)), .val (.ref b6), .val (.int v126), .val (.int v108), .val (.ref b9), .val (.ref b14), .val (.ref b33), .val (.int v305), .val (.int v317), .unset] [(.int (0 : Int32))])) (fun _ kt => XS.icmpYes X39.here hx rfl (pc0 := 357) (pc' := 377) rfl (hb hby at_357) rfl ((flt hc357).2.2.2) (by decide) (by decide) (XS.iconst X39.here hx rfl (hb hby at_377) (kt))) ?_
            exact J37 T39 _ (0 : Int32) X39 N39 e39 (by rw [if_pos hc321, if_pos hc332, if_neg hc338, if_neg hc357])
      · refine own_run (g' := (mkF m 378 #[.val (.int p0), .val (.int p1), .val (.int p2), .val (.int p3), .val (.int p4), .val (.int v3), .val (.int v10), .val (.int v17), .val (.ref b1), .val (.int v56), .val (.int v64), .val (.int v69), .val (.int (0 : Int32)), .val (.int (1 : Int32)), .val (.ref b6), .val (.int v126), .val (.int v108), .val (.ref b9), .val (.ref b14), .val (.ref b33), .val (.int v305), .val (.int v317), .unset] [(.int (1 : Int32))])) (fun _ kt => XS.ifYes X39.here hx rfl (pc0 := 332) (pc' := 373) rfl (hb hby at_332) rfl ((if0 _ _).trans (feq hc332).2) (by decide) (by decide) (XS.iconst X39.here hx rfl (hb hby at_373) (XS.goto X39.here hx rfl (pc0 := 374) (pc' := 378) rfl (hb hby at_374) (by decide) (by decide) (kt)))) ?_
        exact J37 T39 _ (1 : Int32) X39 N39 e39 (by rw [if_pos hc321, if_neg hc332])
    · refine own_run (g' := (mkF m 338 #[.val (.int p0), .val (.int p1), .val (.int p2), .val (.int p3), .val (.int p4), .val (.int v3), .val (.int v10), .val (.int v17), .val (.ref b1), .val (.int v56), .val (.int v64), .val (.int v69), .val (.int (0 : Int32)), .val (.int (1 : Int32)), .val (.ref b6), .val (.int v126), .val (.int v108), .val (.ref b9), .val (.ref b14), .val (.ref b33), .val (.int v305), .val (.int v317), .unset] [(.int (1 : Int32)), (.int v317)])) (fun _ kt => XS.ifYes X36.here hx rfl (pc0 := 321) (pc' := 335) rfl (hb hby at_321) rfl ((if0 _ _).trans (flt hc321).2.2.2) (by decide) (by decide) (XS.iload X36.here hx rfl (hb hby at_335) rfl (XS.iconst X36.here hx rfl (hb hby at_337) (kt)))) ?_
      by_cases hc338 : (1 : Int32) < v317
      · refine own_run (g' := (mkF m 348 #[.val (.int p0), .val (.int p1), .val (.int p2), .val (.int p3), .val (.int p4), .val (.int v3), .val (.int v10), .val (.int v17), .val (.ref b1), .val (.int v56), .val (.int v64), .val (.int v69), .val (.int (0 : Int32)), .val (.int (1 : Int32)), .val (.ref b6), .val (.int v126), .val (.int v108), .val (.ref b9), .val (.ref b14), .val (.ref b33), .val (.int v305), .val (.int v317), .unset] [(.int v69), (.int (v305 + (1 : Int32))), (.int p1)])) (fun _ kt => XS.icmpNo X36.here hx rfl (hb hby at_338) rfl ((tlt hc338).2.2.2) (XS.iloadN X36.here hx rfl (hb hby at_341) rfl (XS.iload X36.here hx rfl (hb hby at_342) rfl (XS.iconst X36.here hx rfl (hb hby at_344) (XS.iadd X36.here hx rfl (hb hby at_345) rfl (XS.iload X36.here hx rfl (hb hby at_346) rfl (kt))))))) ?_
        refine own_callS X36 hx hZ hown (hw _ (List.mem_of_getElem? (i := 68) rfl)) (hw _ (List.mem_of_getElem? (i := 69) rfl)) (hw _ (List.mem_of_getElem? (i := 4) rfl)) (hw _ (List.mem_of_getElem? (i := 70) rfl)) (by decide) (rm11 l Z a0 hw [] p1 (v305 + (1 : Int32)) v69 T36.heap n0) rfl (by decide) (by decide) (by decide) (by decide) (by rw [hml]; rfl) (argsL := [(.int p1), (.int (v305 + (1 : Int32))), (.int v69)]) (rest := []) (lenOf own_pd1 rfl) rfl (W := 0) (Nat.le_of_eq rfl) (hb hby at_348) ?_
        intro T43 r43 L43 X43 hQ43
        obtain ⟨rfl, Nq43, e43⟩ := hQ43
        have N43 := Fr.app N36 Nq43
        by_cases hc351 : (own_f11 p1 (v305 + (1 : Int32)) v69) = (0 : Int32)
        · refine own_run (g' := (mkF m 357 #[.val (.int p0), .val (.int p1), .val (.int p2), .val (.int p3), .val (.int p4), .val (.int v3), .val (.int v10), .val (.int v17), .val (.ref b1), .val (.int v56), .val (.int v64), .val (.int v69), .val (.int (0 : Int32)), .val (.int (1 : Int32)), .val (.ref b6), .val (.int v126), .val (.int v108), .val (.ref b9), .val (.ref b14), .val (.ref b33), .val (.int v305), .val (.int v317), .unset] [(.int (2 : Int32)), (.int v317)])) (fun _ kt => XS.ifNo X43.here hx rfl (hb hby at_351) rfl ((if0 _ _).trans (teq hc351).2) (XS.iload X43.here hx rfl (hb hby at_354) rfl (XS.iconst X43.here hx rfl (hb hby at_356) (kt)))) ?_
          by_cases hc357 : (2 : Int32) < v317
          · refine own_run (g' := (mkF m 367 #[.val (.int p0), .val (.int p1), .val (.int p2), .val (.int p3), .val (.int p4), .val (.int v3), .val (.int v10), .val (.int v17), .val (.ref b1), .val (.int v56), .val (.int v64), .val (.int v69), .val (.int (0 : Int32)), .val (.int (1 : Int32)), .val (.ref b6), .val (.int v126), .val (.int v108), .val (.ref b9), .val (.ref b14), .val (.ref b33), .val (.int v305), .val (.int v317), .unset] [(.int v69), (.int (v305 + (2 : Int32))), (.int p1)])) (fun _ kt => XS.icmpNo X43.here hx rfl (hb hby at_357) rfl ((tlt hc357).2.2.2) (XS.iloadN X43.here hx rfl (hb hby at_360) rfl (XS.iload X43.here hx rfl (hb hby at_361) rfl (XS.iconst X43.here hx rfl (hb hby at_363) (XS.iadd X43.here hx rfl (hb hby at_364) rfl (XS.iload X43.here hx rfl (hb hby at_365) rfl (kt))))))) ?_
            refine own_callS X43 hx hZ hown (hw _ (List.mem_of_getElem? (i := 68) rfl)) (hw _ (List.mem_of_getElem? (i := 69) rfl)) (hw _ (List.mem_of_getElem? (i := 4) rfl)) (hw _ (List.mem_of_getElem? (i := 70) rfl)) (by decide) (rm11 l Z a0 hw [] p1 (v305 + (2 : Int32)) v69 T36.heap n0) e43 (by decide) (by decide) (by decide) (by decide) (by rw [hml]; rfl) (argsL := [(.int p1), (.int (v305 + (2 : Int32))), (.int v69)]) (rest := []) (lenOf own_pd1 rfl) rfl (W := 0) (Nat.le_of_eq rfl) (hb hby at_367) ?_
            intro T44 r44 L44 X44 hQ44
            obtain ⟨rfl, Nq44, e44⟩ := hQ44
            have N44 := Fr.app N43 Nq44
            by_cases hc370 : (own_f11 p1 (v305 + (2 : Int32)) v69) = (0 : Int32)
            · refine own_run (g' := (mkF m 378 #[.val (.int p0), .val (.int p1), .val (.int p2), .val (.int p3), .val (.int p4), .val (.int v3), .val (.int v10), .val (.int v17), .val (.ref b1), .val (.int v56), .val (.int v64), .val (.int v69), .val (.int (0 : Int32)), .val (.int (1 : Int32)), .val (.ref b6), .val (.int v126), .val (.int v108), .val (.ref b9), .val (.ref b14), .val (.ref b33), .val (.int v305), .val (.int v317), .unset] [(.int (0 : Int32))])) (fun _ kt => XS.ifYes X44.here hx rfl (pc0 := 370) (pc' := 377) rfl (hb hby at_370) rfl ((if0 _ _).trans (teq hc370).1) (by decide) (by decide) (XS.iconst X44.here hx rfl (hb hby at_377) (kt))) ?_
              exact J37 T44 _ (0 : Int32) X44 N44 e44 (by rw [if_neg hc321, if_pos hc338, if_pos hc351, if_pos hc357, if_pos hc370])
            · refine own_run (g' := (mkF m 378 #[.val (.int p0), .val (.int p1), .val (.int p2), .val (.int p3), .val (.int p4), .val (.int v3), .val (.int v10), .val (.int v17), .val (.ref b1), .val (.int v56), .val (.int v64), .val (.int v69), .val (.int (0 : Int32)), .val (.int (1 : Int32)), .val (.ref b6), .val (.int v126), .val (.int v108), .val (.ref b9), .val (.ref b14), .val (.ref b33), .val (.int v305), .val (.int v317), .unset] [(.int (1 : Int32))])) (fun _ kt => XS.ifNo X44.here hx rfl (hb hby at_370) rfl ((if0 _ _).trans (feq hc370).1) (XS.iconst X44.here hx rfl (hb hby at_373) (XS.goto X44.here hx rfl (pc0 := 374) (pc' := 378) rfl (hb hby at_374) (by decide) (by decide) (kt)))) ?_
              exact J37 T44 _ (1 : Int32) X44 N44 e44 (by rw [if_neg hc321, if_pos hc338, if_pos hc351, if_pos hc357, if_neg hc370])
          · refine own_run (g' := (mkF m 378 #[.val (.int p0), .val (.int p1), .val (.int p2), .val (.int p3), .val (.int p4), .val (.int v3), .val (.int v10), .val (.int v17), .val (.ref b1), .val (.int v56), .val (.int v64), .val (.int v69), .val (.int (0 : Int32)), .val (.int (1 : Int32)), .val (.ref b6), .val (.int v126), .val (.int v108), .val (.ref b9), .val (.ref b14), .val (.ref b33), .val (.int v305), .val (.int v317), .unset] [(.int (0 : Int32))])) (fun _ kt => XS.icmpYes X43.here hx rfl (pc0 := 357) (pc' := 377) rfl (hb hby at_357) rfl ((flt hc357).2.2.2) (by decide) (by decide) (XS.iconst X43.here hx rfl (hb hby at_377) (kt))) ?_
            exact J37 T43 _ (0 : Int32) X43 N43 e43 (by rw [if_neg hc321, if_pos hc338, if_pos hc351, if_neg hc357])
        · refine own_run (g' := (mkF m 378 #[.val (.int p0), .val (.int p1), .val (.int p2), .val (.int p3), .val (.int p4), .val (.int v3), .val (.int v10), .val (.int v17), .val (.ref b1), .val (.int v56), .val (.int v64), .val (.int v69), .val (.int (0 : Int32)), .val (.int (1 : Int32)), .val (.ref b6), .val (.int v126), .val (.int v108), .val (.ref b9), .val (.ref b14), .val (.ref b33), .val (.int v305), .val (.int v317), .unset] [(.int (1 : Int32))])) (fun _ kt => XS.ifYes X43.here hx rfl (pc0 := 351) (pc' := 373) rfl (hb hby at_351) rfl ((if0 _ _).trans (feq hc351).2) (by decide) (by decide) (XS.iconst X43.here hx rfl (hb hby at_373) (XS.goto X43.here hx rfl (pc0 := 374) (pc' := 378) rfl (hb hby at_374) (by decide) (by decide) (kt)))) ?_
          exact J37 T43 _ (1 : Int32) X43 N43 e43 (by rw [if_neg hc321, if_pos hc338, if_neg hc351])
      · refine own_run (g' := (mkF m 357 #[.val (.int p0), .val (.int p1), .val (.int p2), .val (.int p3), .val (.int p4), .val (.int v3), .val (.int v10), .val (.int v17), .val (.ref b1), .val (.int v56), .val (.int v64), .val (.int v69), .val (.int (0 : Int32)), .val (.int (1 : Int32)), .val (.ref b6), .val (.int v126), .val (.int v108), .val (.ref b9), .val (.ref b14), .val (.ref b33), .val (.int v305), .val (.int v317), .unset] [(.int (2 : Int32)), (.int v317)])) (fun _ kt => XS.icmpYes X36.here hx rfl (pc0 := 338) (pc' := 354) rfl (hb hby at_338) rfl ((flt hc338).2.2.2) (by decide) (by decide) (XS.iload X36.here hx rfl (hb hby at_354) rfl (XS.iconst X36.here hx rfl (hb hby at_356) (kt)))) ?_
        by_cases hc357 : (2 : Int32) < v317
        · refine own_run (g' := (mkF m 367 #[.val (.int p0), .val (.int p1), .val (.int p2), .val (.int p3), .val (.int p4), .val (.int v3), .val (.int v10), .val (.int v17), .val (.ref b1), .val (.int v56), .val (.int v64), .val (.int v69), .val (.int (0 : Int32)), .val (.int (1 : Int32)), .val (.ref b6), .val (.int v126), .val (.int v108), .val (.ref b9), .val (.ref b14), .val (.ref b33), .val (.int v305), .val (.int v317), .unset] [(.int v69), (.int (v305 + (2 : Int32))), (.int p1)])) (fun _ kt => XS.icmpNo X36.here hx rfl (hb hby at_357) rfl ((tlt hc357).2.2.2) (XS.iloadN X36.here hx rfl (hb hby at_360) rfl (XS.iload X36.here hx rfl (hb hby at_361) rfl (XS.iconst X36.here hx rfl (hb hby at_363) (XS.iadd X36.here hx rfl (hb hby at_364) rfl (XS.iload X36.here hx rfl (hb hby at_365) rfl (kt))))))) ?_
          refine own_callS X36 hx hZ hown (hw _ (List.mem_of_getElem? (i := 68) rfl)) (hw _ (List.mem_of_getElem? (i := 69) rfl)) (hw _ (List.mem_of_getElem? (i := 4) rfl)) (hw _ (List.mem_of_getElem? (i := 70) rfl)) (by decide) (rm11 l Z a0 hw [] p1 (v305 + (2 : Int32)) v69 T36.heap n0) rfl (by decide) (by decide) (by decide) (by decide) (by rw [hml]; rfl) (argsL := [(.int p1), (.int (v305 + (2 : Int32))), (.int v69)]) (rest := []) (lenOf own_pd1 rfl) rfl (W := 0) (Nat.le_of_eq rfl) (hb hby at_367) ?_
          intro T45 r45 L45 X45 hQ45
          obtain ⟨rfl, Nq45, e45⟩ := hQ45
          have N45 := Fr.app N36 Nq45
          by_cases hc370 : (own_f11 p1 (v305 + (2 : Int32)) v69) = (0 : Int32)
          · refine own_run (g' := (mkF m 378 #[.val (.int p0), .val (.int p1), .val (.int p2), .val (.int p3), .val (.int p4), .val (.int v3), .val (.int v10), .val (.int v17), .val (.ref b1), .val (.int v56), .val (.int v64), .val (.int v69), .val (.int (0 : Int32)), .val (.int (1 : Int32)), .val (.ref b6), .val (.int v126), .val (.int v108), .val (.ref b9), .val (.ref b14), .val (.ref b33), .val (.int v305), .val (.int v317), .unset] [(.int (0 : Int32))])) (fun _ kt => XS.ifYes X45.here hx rfl (pc0 := 370) (pc' := 377) rfl (hb hby at_370) rfl ((if0 _ _).trans (teq hc370).1) (by decide) (by decide) (XS.iconst X45.here hx rfl (hb hby at_377) (kt))) ?_
            exact J37 T45 _ (0 : Int32) X45 N45 e45 (by rw [if_neg hc321, if_neg hc338, if_pos hc357, if_pos hc370])
          · refine own_run (g' := (mkF m 378 #[.val (.int p0), .val (.int p1), .val (.int p2), .val (.int p3), .val (.int p4), .val (.int v3), .val (.int v10), .val (.int v17), .val (.ref b1), .val (.int v56), .val (.int v64), .val (.int v69), .val (.int (0 : Int32)), .val (.int (1 : Int32)), .val (.ref b6), .val (.int v126), .val (.int v108), .val (.ref b9), .val (.ref b14), .val (.ref b33), .val (.int v305), .val (.int v317), .unset] [(.int (1 : Int32))])) (fun _ kt => XS.ifNo X45.here hx rfl (hb hby at_370) rfl ((if0 _ _).trans (feq hc370).1) (XS.iconst X45.here hx rfl (hb hby at_373) (XS.goto X45.here hx rfl (pc0 := 374) (pc' := 378) rfl (hb hby at_374) (by decide) (by decide) (kt)))) ?_
            exact J37 T45 _ (1 : Int32) X45 N45 e45 (by rw [if_neg hc321, if_neg hc338, if_pos hc357, if_neg hc370])
        · refine own_run (g' := (mkF m 378 #[.val (.int p0), .val (.int p1), .val (.int p2), .val (.int p3), .val (.int p4), .val (.int v3), .val (.int v10), .val (.int v17), .val (.ref b1), .val (.int v56), .val (.int v64), .val (.int v69), .val (.int (0 : Int32)), .val (.int (1 : Int32)), .val (.ref b6), .val (.int v126), .val (.int v108), .val (.ref b9), .val (.ref b14), .val (.ref b33), .val (.int v305), .val (.int v317), .unset] [(.int (0 : Int32))])) (fun _ kt => XS.icmpYes X36.here hx rfl (pc0 := 357) (pc' := 377) rfl (hb hby at_357) rfl ((flt hc357).2.2.2) (by decide) (by decide) (XS.iconst X36.here hx rfl (hb hby at_377) (kt))) ?_
          exact J37 T36 _ (0 : Int32) X36 N36 rfl (by rw [if_neg hc321, if_neg hc338, if_neg hc357])
  · refine own_run (g' := (mkF m 91 #[.val (.int p0), .val (.int p1), .val (.int p2), .val (.int p3), .val (.int p4), .val (.int v3), .val (.int v10), .val (.int v17), .val (.ref b1), .val (.int v56), .val (.int v64), .val (.int v69), .val (.int (1 : Int32)), .val (.int (0 : Int32)), .unset, .unset, .unset, .unset, .unset, .unset, .unset, .unset, .unset] [])) (fun _ kt => XS.ifNo X5.here hx rfl (hb hby at_75) rfl ((if0 _ _).trans (feq hc75).1) (XS.iconst X5.here hx rfl (hb hby at_78) (XS.goto X5.here hx rfl (pc0 := 79) (pc' := 83) rfl (hb hby at_79) (by decide) (by decide) (XS.istore X5.here hx rfl (hb hby at_83) rfl (l' := #[.val (.int p0), .val (.int p1), .val (.int p2), .val (.int p3), .val (.int p4), .val (.int v3), .val (.int v10), .val (.int v17), .val (.ref b1), .val (.int v56), .val (.int v64), .val (.int v69), .val (.int (1 : Int32)), .unset, .unset, .unset, .unset, .unset, .unset, .unset, .unset, .unset, .unset]) rfl (XS.iconst X5.here hx rfl (hb hby at_85) (XS.iload X5.here hx rfl (hb hby at_86) rfl (XS.isub X5.here hx rfl (hb hby at_88) rfl (XS.istore X5.here hx rfl (hb hby at_89) rfl (l' := #[.val (.int p0), .val (.int p1), .val (.int p2), .val (.int p3), .val (.int p4), .val (.int v3), .val (.int v10), .val (.int v17), .val (.ref b1), .val (.int v56), .val (.int v64), .val (.int v69), .val (.int (1 : Int32)), .val (.int (0 : Int32)), .unset, .unset, .unset, .unset, .unset, .unset, .unset, .unset, .unset]) rfl (kt))))))))) ?_
    refine own_run (g' := (mkF m 93 #[.val (.int p0), .val (.int p1), .val (.int p2), .val (.int p3), .val (.int p4), .val (.int v3), .val (.int v10), .val (.int v17), .val (.ref b1), .val (.int v56), .val (.int v64), .val (.int v69), .val (.int (1 : Int32)), .val (.int (0 : Int32)), .unset, .unset, .unset, .unset, .unset, .unset, .unset, .unset, .unset] [(.int (9 : Int32))])) (fun _ kt => XS.bipush X5.here hx rfl (hb hby at_91) (kt)) ?_
    refine own_newA X5 hx hZ (aty := .int) (hw _ (List.mem_of_getElem? (i := 0) rfl)) (ty := .int) rfl rfl e5 (hb hby at_93) (by decide) (cap := 9) (by decide) (by decide) (by decide) (by decide) ?_
    intro T46 h46 b46 qq46 X46 e46 E46 A46
    have ne_b1_b46 : b1 ≠ b46 := Nat.ne_of_lt (by rw [qq46]; exact A5.lt)
    replace S0 := S0.ext E46
    replace A5 := A5.ext E46
    have g_b46 : n0 ≤ b46 := by rw [qq46]; exact ZW5
    have Z46 : n0 ≤ h46.size := Nat.le_trans ZW5 E46.1
    replace A46 : own_A Z h46 b46 .int (9 : Int32) [(0 : Int32), (0 : Int32), (0 : Int32), (0 : Int32), (0 : Int32), (0 : Int32), (0 : Int32), (0 : Int32), (0 : Int32)] := A46
    refine own_run (g' := (mkF m 105 #[.val (.int p0), .val (.int p1), .val (.int p2), .val (.int p3), .val (.int p4), .val (.int v3), .val (.int v10), .val (.int v17), .val (.ref b1), .val (.int v56), .val (.int v64), .val (.int v69), .val (.int (1 : Int32)), .val (.int (0 : Int32)), .val (.ref b46), .unset, .unset, .unset, .unset, .unset, .unset, .unset, .unset] [(.int v56), (.int p1), (.int (1 : Int32)), (.int (0 : Int32)), (.ref b46)])) (fun _ kt => XS.astore X46.here hx rfl (hb hby at_95) rfl rfl (l' := #[.val (.int p0), .val (.int p1), .val (.int p2), .val (.int p3), .val (.int p4), .val (.int v3), .val (.int v10), .val (.int v17), .val (.ref b1), .val (.int v56), .val (.int v64), .val (.int v69), .val (.int (1 : Int32)), .val (.int (0 : Int32)), .val (.ref b46), .unset, .unset, .unset, .unset, .unset, .unset, .unset, .unset]) rfl (XS.aload X46.here hx rfl (hb hby at_97) rfl rfl (XS.iconst X46.here hx rfl (hb hby at_99) (XS.iload X46.here hx rfl (hb hby at_100) rfl (XS.iloadN X46.here hx rfl (hb hby at_102) rfl (XS.iload X46.here hx rfl (hb hby at_103) rfl (kt))))))) ?_
    have hb105 : ∀ k, k < 9 → (own_pages.getD k 0) < v56 → ¬ (own_f11 p1 (own_pages.getD k 0) (1 : Int32)) = (0 : Int32) → ¬ (own_pre k (0 : Int32) (1 : Int32) p1 v56 [(0 : Int32), (0 : Int32), (0 : Int32), (0 : Int32), (0 : Int32), (0 : Int32), (0 : Int32), (0 : Int32), (0 : Int32)]).1 < 0 ∧ (own_pre k (0 : Int32) (1 : Int32) p1 v56 [(0 : Int32), (0 : Int32), (0 : Int32), (0 : Int32), (0 : Int32), (0 : Int32), (0 : Int32), (0 : Int32), (0 : Int32)]).1 < (9 : Int32) := own_bd1 _ _ _
    refine own_callS X46 hx hZ hown (hw _ (List.mem_of_getElem? (i := 2) rfl)) (hw _ (List.mem_of_getElem? (i := 3) rfl)) (hw _ (List.mem_of_getElem? (i := 4) rfl)) (hw _ (List.mem_of_getElem? (i := 5) rfl)) (by decide) (rm1 l Z a0 hw [] b46 (0 : Int32) (1 : Int32) p1 v56 [(0 : Int32), (0 : Int32), (0 : Int32), (0 : Int32), (0 : Int32), (0 : Int32), (0 : Int32), (0 : Int32), (0 : Int32)] h46 n0 Z46 A46 g_b46 hb105) e46 (by decide) (by decide) (by decide) (by decide) (by rw [hml]; rfl) (argsL := [(.ref b46), (.int (0 : Int32)), (.int (1 : Int32)), (.int p1), (.int v56)]) (rest := []) (lenOf own_pd4 rfl) rfl (W := 0) (Nat.le_of_eq rfl) (hb hby at_105) ?_
    intro T47 r47 L47 X47 hQ47
    obtain ⟨rfl, Nq47, Kc47, A47⟩ := hQ47
    have N47 := Fr.app N5 Nq47
    replace S0 := own_StaKeepA S0 Kc47 A46
    replace A5 := A5.keep Kc47 (ninS ne_b1_b46 nin0)
    have Z47 : n0 ≤ T47.heap.size := Nat.le_trans Z46 Kc47.1
    obtain ⟨xs47, hxs47⟩ : ∃ z : List Int32, z = (own_blk (0 : Int32) (1 : Int32) p1 v56 [(0 : Int32), (0 : Int32), (0 : Int32), (0 : Int32), (0 : Int32), (0 : Int32), (0 : Int32), (0 : Int32), (0 : Int32)]).2 := ⟨_, rfl⟩
    rw [← hxs47] at A47
    refine own_run (g' := (mkF m 110 #[.val (.int p0), .val (.int p1), .val (.int p2), .val (.int p3), .val (.int p4), .val (.int v3), .val (.int v10), .val (.int v17), .val (.ref b1), .val (.int v56), .val (.int v64), .val (.int v69), .val (.int (1 : Int32)), .val (.int (0 : Int32)), .val (.ref b46), .val (.int (own_blk (0 : Int32) (1 : Int32) p1 v56 [(0 : Int32), (0 : Int32), (0 : Int32), (0 : Int32), (0 : Int32), (0 : Int32), (0 : Int32), (0 : Int32), (0 : Int32)]).1), .unset, .unset, .unset, .unset, .unset, .unset, .unset] [])) (fun _ kt => XS.istore X47.here hx rfl (hb hby at_108) rfl (l' := #[.val (.int p0), .val (.int p1), .val (.int p2), .val (.int p3), .val (.int p4), .val (.int v3), .val (.int v10), .val (.int v17), .val (.ref b1), .val (.int v56), .val (.int v64), .val (.int v69), .val (.int (1 : Int32)), .val (.int (0 : Int32)), .val (.ref b46), .val (.int (own_blk (0 : Int32) (1 : Int32) p1 v56 [(0 : Int32), (0 : Int32), (0 : Int32), (0 : Int32), (0 : Int32), (0 : Int32), (0 : Int32), (0 : Int32), (0 : Int32)]).1), .unset, .unset, .unset, .unset, .unset, .unset, .unset]) rfl (kt)) ?_
    obtain ⟨v108, hv108⟩ : ∃ z : Int32, z = (own_blk (0 : Int32) (1 : Int32) p1 v56 [(0 : Int32), (0 : Int32), (0 : Int32), (0 : Int32), (0 : Int32), (0 : Int32), (0 : Int32), (0 : Int32), (0 : Int32)]).1 := ⟨_, rfl⟩
    rw [← hv108]
    refine own_run (g' := (mkF m 123 #[.val (.int p0), .val (.int p1), .val (.int p2), .val (.int p3), .val (.int p4), .val (.int v3), .val (.int v10), .val (.int v17), .val (.ref b1), .val (.int v56), .val (.int v64), .val (.int v69), .val (.int (1 : Int32)), .val (.int (0 : Int32)), .val (.ref b46), .val (.int v108), .val (.int v108), .unset, .unset, .unset, .unset, .unset, .unset] [(.int v56), (.int p1), (.int (0 : Int32)), (.int v108), (.ref b46)])) (fun _ kt => XS.iload X47.here hx rfl (hb hby at_110) rfl (XS.istore X47.here hx rfl (hb hby at_112) rfl (l' := #[.val (.int p0), .val (.int p1), .val (.int p2), .val (.int p3), .val (.int p4), .val (.int v3), .val (.int v10), .val (.int v17), .val (.ref b1), .val (.int v56), .val (.int v64), .val (.int v69), .val (.int (1 : Int32)), .val (.int (0 : Int32)), .val (.ref b46), .val (.int v108), .val (.int v108), .unset, .unset, .unset, .unset, .unset, .unset]) rfl (XS.aload X47.here hx rfl (hb hby at_114) rfl rfl (XS.iload X47.here hx rfl (hb hby at_116) rfl (XS.iload X47.here hx rfl (hb hby at_118) rfl (XS.iloadN X47.here hx rfl (hb hby at_120) rfl (XS.iload X47.here hx rfl (hb hby at_121) rfl (kt)))))))) ?_
    have hb123 : ∀ k, k < 9 → (own_pages.getD k 0) < v56 → ¬ (own_f11 p1 (own_pages.getD k 0) (0 : Int32)) = (0 : Int32) → ¬ (own_pre k v108 (0 : Int32) p1 v56 xs47).1 < 0 ∧ (own_pre k v108 (0 : Int32) p1 v56 xs47).1 < (9 : Int32) := own_bd2 (by decide) hv108 hxs47
    refine own_callS X47 hx hZ hown (hw _ (List.mem_of_getElem? (i := 2) rfl)) (hw _ (List.mem_of_getElem? (i := 3) rfl)) (hw _ (List.mem_of_getElem? (i := 4) rfl)) (hw _ (List.mem_of_getElem? (i := 5) rfl)) (by decide) (rm1 l Z a0 hw [] b46 v108 (0 : Int32) p1 v56 xs47 T47.heap n0 Z47 A47 g_b46 hb123) rfl (by decide) (by decide) (by decide) (by decide) (by rw [hml]; rfl) (argsL := [(.ref b46), (.int v108), (.int (0 : Int32)), (.int p1), (.int v56)]) (rest := []) (lenOf own_pd4 rfl) rfl (W := 0) (Nat.le_of_eq rfl) (hb hby at_123) ?_
    intro T48 r48 L48 X48 hQ48
    obtain ⟨rfl, Nq48, Kc48, A48⟩ := hQ48
    have N48 := Fr.app N47 Nq48
    replace S0 := own_StaKeepA S0 Kc48 A47
    replace A5 := A5.keep Kc48 (ninS ne_b1_b46 nin0)
    have Z48 : n0 ≤ T48.heap.size := Nat.le_trans Z47 Kc48.1
    obtain ⟨xs48, hxs48⟩ : ∃ z : List Int32, z = (own_blk v108 (0 : Int32) p1 v56 xs47).2 := ⟨_, rfl⟩
    rw [← hxs48] at A48
    refine own_run (g' := (mkF m 128 #[.val (.int p0), .val (.int p1), .val (.int p2), .val (.int p3), .val (.int p4), .val (.int v3), .val (.int v10), .val (.int v17), .val (.ref b1), .val (.int v56), .val (.int v64), .val (.int v69), .val (.int (1 : Int32)), .val (.int (0 : Int32)), .val (.ref b46), .val (.int (own_blk v108 (0 : Int32) p1 v56 xs47).1), .val (.int v108), .unset, .unset, .unset, .unset, .unset, .unset] [])) (fun _ kt => XS.istore X48.here hx rfl (hb hby at_126) rfl (l' := #[.val (.int p0), .val (.int p1), .val (.int p2), .val (.int p3), .val (.int p4), .val (.int v3), .val (.int v10), .val (.int v17), .val (.ref b1), .val (.int v56), .val (.int v64), .val (.int v69), .val (.int (1 : Int32)), .val (.int (0 : Int32)), .val (.ref b46), .val (.int (own_blk v108 (0 : Int32) p1 v56 xs47).1), .val (.int v108), .unset, .unset, .unset, .unset, .unset, .unset]) rfl (kt)) ?_
    obtain ⟨v126, hv126⟩ : ∃ z : Int32, z = (own_blk v108 (0 : Int32) p1 v56 xs47).1 := ⟨_, rfl⟩
    rw [← hv126]
    refine own_run (g' := (mkF m 129 #[.val (.int p0), .val (.int p1), .val (.int p2), .val (.int p3), .val (.int p4), .val (.int v3), .val (.int v10), .val (.int v17), .val (.ref b1), .val (.int v56), .val (.int v64), .val (.int v69), .val (.int (1 : Int32)), .val (.int (0 : Int32)), .val (.ref b46), .val (.int v126), .val (.int v108), .unset, .unset, .unset, .unset, .unset, .unset] [(.int (4 : Int32))])) (fun _ kt => XS.iconst X48.here hx rfl (hb hby at_128) (kt)) ?_
    refine own_newA X48 hx hZ (aty := .int) (hw _ (List.mem_of_getElem? (i := 0) rfl)) (ty := .int) rfl rfl rfl (hb hby at_129) (by decide) (cap := 4) (by decide) (by decide) (by decide) (by decide) ?_
    intro T49 h49 b49 qq49 X49 e49 E49 A49
    have ne_b1_b49 : b1 ≠ b49 := Nat.ne_of_lt (by rw [qq49]; exact A5.lt)
    have ne_b46_b49 : b46 ≠ b49 := Nat.ne_of_lt (by rw [qq49]; exact A48.lt)
    replace S0 := S0.ext E49
    replace A5 := A5.ext E49
    replace A48 := A48.ext E49
    have g_b49 : n0 ≤ b49 := by rw [qq49]; exact Z48
    have Z49 : n0 ≤ h49.size := Nat.le_trans Z48 E49.1
    replace A49 : own_A Z h49 b49 .int (4 : Int32) [(0 : Int32), (0 : Int32), (0 : Int32), (0 : Int32)] := A49
    refine own_run (g' := (mkF m 140 #[.val (.int p0), .val (.int p1), .val (.int p2), .val (.int p3), .val (.int p4), .val (.int v3), .val (.int v10), .val (.int v17), .val (.ref b1), .val (.int v56), .val (.int v64), .val (.int v69), .val (.int (1 : Int32)), .val (.int (0 : Int32)), .val (.ref b46), .val (.int v126), .val (.int v108), .val (.ref b49), .unset, .unset, .unset, .unset, .unset] [(.int (0 : Int32)), (.int (2 : Int32)), (.ref b49)])) (fun _ kt => XS.astore X49.here hx rfl (hb hby at_131) rfl rfl (l' := #[.val (.int p0), .val (.int p1), .val (.int p2), .val (.int p3), .val (.int p4), .val (.int v3), .val (.int v10), .val (.int v17), .val (.ref b1), .val (.int v56), .val (.int v64), .val (.int v69), .val (.int (1 : Int32)), .val (.int (0 : Int32)), .val (.ref b46), .val (.int v126), .val (.int v108), .val (.ref b49), .unset, .unset, .unset, .unset, .unset]) rfl (XS.aload X49.here hx rfl (hb hby at_133) rfl rfl (XS.iconst X49.here hx rfl (hb hby at_135) (XS.iload X49.here hx rfl (hb hby at_136) rfl (XS.imul X49.here hx rfl (hb hby at_138) rfl (XS.iconst X49.here hx rfl (hb hby at_139) (kt))))))) ?_
    refine own_stI X49 hx hZ e49 A49 (j := (2 : Int32)) (by decide) N48 g_b49 (hb hby at_140) (ys := [(0 : Int32), (0 : Int32), (0 : Int32), (0 : Int32)]) rfl ?_
    intro T50 h50 L50 X50 N50 e50 W50 A50
    replace S0 := S0.wr W50
    replace A5 := A5.other W50 ne_b1_b49
    replace A48 := A48.other W50 ne_b46_b49
    have ZW50 : n0 ≤ h50.size := Nat.le_trans Z49 (Keep.of_wr W50).1
    refine own_run (g' := (mkF m 151 #[.val (.int p0), .val (.int p1), .val (.int p2), .val (.int p3), .val (.int p4), .val (.int v3), .val (.int v10), .val (.int v17), .val (.ref b1), .val (.int v56), .val (.int v64), .val (.int v69), .val (.int (1 : Int32)), .val (.int (0 : Int32)), .val (.ref b46), .val (.int v126), .val (.int v108), .val (.ref b49), .unset, .unset, .unset, .unset, .unset] [(.int v108), (.int (3 : Int32)), (.ref b49)])) (fun _ kt => XS.aload X50.here hx rfl (hb hby at_141) rfl rfl (XS.iconst X50.here hx rfl (hb hby at_143) (XS.iload X50.here hx rfl (hb hby at_144) rfl (XS.imul X50.here hx rfl (hb hby at_146) rfl (XS.iconst X50.here hx rfl (hb hby at_147) (XS.iadd X50.here hx rfl (hb hby at_148) rfl (XS.iload X50.here hx rfl (hb hby at_149) rfl (kt)))))))) ?_
    refine own_stI X50 hx hZ e50 A50 (j := (3 : Int32)) (by decide) N50 g_b49 (hb hby at_151) (ys := [(0 : Int32), (0 : Int32), (0 : Int32), v108]) rfl ?_
    intro T51 h51 L51 X51 N51 e51 W51 A51
    replace S0 := S0.wr W51
    replace A5 := A5.other W51 ne_b1_b49
    replace A48 := A48.other W51 ne_b46_b49
    have ZW51 : n0 ≤ h51.size := Nat.le_trans ZW50 (Keep.of_wr W51).1
    refine own_run (g' := (mkF m 160 #[.val (.int p0), .val (.int p1), .val (.int p2), .val (.int p3), .val (.int p4), .val (.int v3), .val (.int v10), .val (.int v17), .val (.ref b1), .val (.int v56), .val (.int v64), .val (.int v69), .val (.int (1 : Int32)), .val (.int (0 : Int32)), .val (.ref b46), .val (.int v126), .val (.int v108), .val (.ref b49), .unset, .unset, .unset, .unset, .unset] [(.int v108), (.int (0 : Int32)), (.ref b49)])) (fun _ kt => XS.aload X51.here hx rfl (hb hby at_152) rfl rfl (XS.iconst X51.here hx rfl (hb hby at_154) (XS.iload X51.here hx rfl (hb hby at_155) rfl (XS.imul X51.here hx rfl (hb hby at_157) rfl (XS.iload X51.here hx rfl (hb hby at_158) rfl (kt)))))) ?_
    refine own_stI X51 hx hZ e51 A51 (j := (0 : Int32)) (by decide) N51 g_b49 (hb hby at_160) (ys := [v108, (0 : Int32), (0 : Int32), v108]) rfl ?_
    intro T52 h52 L52 X52 N52 e52 W52 A52
    replace S0 := S0.wr W52
    replace A5 := A5.other W52 ne_b1_b49
    replace A48 := A48.other W52 ne_b46_b49
    have ZW52 : n0 ≤ h52.size := Nat.le_trans ZW51 (Keep.of_wr W52).1
    refine own_run (g' := (mkF m 171 #[.val (.int p0), .val (.int p1), .val (.int p2), .val (.int p3), .val (.int p4), .val (.int v3), .val (.int v10), .val (.int v17), .val (.ref b1), .val (.int v56), .val (.int v64), .val (.int v69), .val (.int (1 : Int32)), .val (.int (0 : Int32)), .val (.ref b46), .val (.int v126), .val (.int v108), .val (.ref b49), .unset, .unset, .unset, .unset, .unset] [(.int v126), (.int (1 : Int32)), (.ref b49)])) (fun _ kt => XS.aload X52.here hx rfl (hb hby at_161) rfl rfl (XS.iconst X52.here hx rfl (hb hby at_163) (XS.iload X52.here hx rfl (hb hby at_164) rfl (XS.imul X52.here hx rfl (hb hby at_166) rfl (XS.iconst X52.here hx rfl (hb hby at_167) (XS.iadd X52.here hx rfl (hb hby at_168) rfl (XS.iload X52.here hx rfl (hb hby at_169) rfl (kt)))))))) ?_
    refine own_stI X52 hx hZ e52 A52 (j := (1 : Int32)) (by decide) N52 g_b49 (hb hby at_171) (ys := [v108, v126, (0 : Int32), v108]) rfl ?_
    intro T53 h53 L53 X53 N53 e53 W53 A53
    replace S0 := S0.wr W53
    replace A5 := A5.other W53 ne_b1_b49
    replace A48 := A48.other W53 ne_b46_b49
    have ZW53 : n0 ≤ h53.size := Nat.le_trans ZW52 (Keep.of_wr W53).1
    refine own_run (g' := (mkF m 174 #[.val (.int p0), .val (.int p1), .val (.int p2), .val (.int p3), .val (.int p4), .val (.int v3), .val (.int v10), .val (.int v17), .val (.ref b1), .val (.int v56), .val (.int v64), .val (.int v69), .val (.int (1 : Int32)), .val (.int (0 : Int32)), .val (.ref b46), .val (.int v126), .val (.int v108), .val (.ref b49), .unset, .unset, .unset, .unset, .unset] [(.int (9 : Int32))])) (fun _ kt => XS.bipush X53.here hx rfl (hb hby at_172) (kt)) ?_
    refine own_newA X53 hx hZ (aty := .int) (hw _ (List.mem_of_getElem? (i := 0) rfl)) (ty := .int) rfl rfl e53 (hb hby at_174) (by decide) (cap := 9) (by decide) (by decide) (by decide) (by decide) ?_
    intro T54 h54 b54 qq54 X54 e54 E54 A54
    have ne_b1_b54 : b1 ≠ b54 := Nat.ne_of_lt (by rw [qq54]; exact A5.lt)
    have ne_b46_b54 : b46 ≠ b54 := Nat.ne_of_lt (by rw [qq54]; exact A48.lt)
    have ne_b49_b54 : b49 ≠ b54 := Nat.ne_of_lt (by rw [qq54]; exact A53.lt)
    replace S0 := S0.ext E54
    replace A5 := A5.ext E54
    replace A48 := A48.ext E54
    replace A53 := A53.ext E54
    have g_b54 : n0 ≤ b54 := by rw [qq54]; exact ZW53
    have Z54 : n0 ≤ h54.size := Nat.le_trans ZW53 E54.1
    replace A54 : own_A Z h54 b54 .int (9 : Int32) [(0 : Int32), (0 : Int32), (0 : Int32), (0 : Int32), (0 : Int32), (0 : Int32), (0 : Int32), (0 : Int32), (0 : Int32)] := A54
    refine own_run (g' := (mkF m 182 #[.val (.int p0), .val (.int p1), .val (.int p2), .val (.int p3), .val (.int p4), .val (.int v3), .val (.int v10), .val (.int v17), .val (.ref b1), .val (.int v56), .val (.int v64), .val (.int v69), .val (.int (1 : Int32)), .val (.int (0 : Int32)), .val (.ref b46), .val (.int v126), .val (.int v108), .val (.ref b49), .unset, .unset, .unset, .unset, .unset] [(.int v56), (.int (0 : Int32)), (.int p1), (.int (0 : Int32)), (.ref b54), (.ref b54)])) (fun _ kt => XS.dup X54.here hx rfl (hb hby at_176) rfl rfl (XS.iconst X54.here hx rfl (hb hby at_177) (XS.iloadN X54.here hx rfl (hb hby at_178) rfl (XS.iconst X54.here hx rfl (hb hby at_179) (XS.iload X54.here hx rfl (hb hby at_180) rfl (kt)))))) ?_
    refine own_callS X54 hx hZ hown (hw _ (List.mem_of_getElem? (i := 9) rfl)) (hw _ (List.mem_of_getElem? (i := 10) rfl)) (hw _ (List.mem_of_getElem? (i := 4) rfl)) (hw _ (List.mem_of_getElem? (i := 11) rfl)) (by decide) (rm3 l Z a0 hw [] p1 (0 : Int32) v56 h54 n0) e54 (by decide) (by decide) (by decide) (by decide) (by rw [hml]; rfl) (argsL := [(.int p1), (.int (0 : Int32)), (.int v56)]) (rest := [(.int (0 : Int32)), (.ref b54), (.ref b54)]) (lenOf own_pd5 rfl) rfl (W := 3) (Nat.le_of_eq rfl) (hb hby at_182) ?_
    intro T55 r55 L55 X55 hQ55
    obtain ⟨rfl, Nq55, e55⟩ := hQ55
    have N55 := Fr.app N53 Nq55
    refine own_stI X55 hx hZ e55 A54 (j := (0 : Int32)) (by decide) N55 g_b54 (hb hby at_185) (ys := [(own_f3 p1 (0 : Int32) v56), (0 : Int32), (0 : Int32), (0 : Int32), (0 : Int32), (0 : Int32), (0 : Int32), (0 : Int32), (0 : Int32)]) rfl ?_
    intro T56 h56 L56 X56 N56 e56 W56 A56
    replace S0 := S0.wr W56
    replace A5 := A5.other W56 ne_b1_b54
    replace A48 := A48.other W56 ne_b46_b54
    replace A53 := A53.other W56 ne_b49_b54
    have ZW56 : n0 ≤ h56.size := Nat.le_trans Z54 (Keep.of_wr W56).1
    refine own_run (g' := (mkF m 192 #[.val (.int p0), .val (.int p1), .val (.int p2), .val (.int p3), .val (.int p4), .val (.int v3), .val (.int v10), .val (.int v17), .val (.ref b1), .val (.int v56), .val (.int v64), .val (.int v69), .val (.int (1 : Int32)), .val (.int (0 : Int32)), .val (.ref b46), .val (.int v126), .val (.int v108), .val (.ref b49), .unset, .unset, .unset, .unset, .unset] [(.int v56), (.int (1 : Int32)), (.int p1), (.int (1 : Int32)), (.ref b54), (.ref b54)])) (fun _ kt => XS.dup X56.here hx rfl (hb hby at_186) rfl rfl (XS.iconst X56.here hx rfl (hb hby at_187) (XS.iloadN X56.here hx rfl (hb hby at_188) rfl (XS.iconst X56.here hx rfl (hb hby at_189) (XS.iload X56.here hx rfl (hb hby at_190) rfl (kt)))))) ?_
    refine own_callS X56 hx hZ hown (hw _ (List.mem_of_getElem? (i := 9) rfl)) (hw _ (List.mem_of_getElem? (i := 10) rfl)) (hw _ (List.mem_of_getElem? (i := 4) rfl)) (hw _ (List.mem_of_getElem? (i := 11) rfl)) (by decide) (rm3 l Z a0 hw [] p1 (1 : Int32) v56 h56 n0) e56 (by decide) (by decide) (by decide) (by decide) (by rw [hml]; rfl) (argsL := [(.int p1), (.int (1 : Int32)), (.int v56)]) (rest := [(.int (1 : Int32)), (.ref b54), (.ref b54)]) (lenOf own_pd5 rfl) rfl (W := 3) (Nat.le_of_eq rfl) (hb hby at_192) ?_
    intro T57 r57 L57 X57 hQ57
    obtain ⟨rfl, Nq57, e57⟩ := hQ57
    have N57 := Fr.app N56 Nq57
    refine own_stI X57 hx hZ e57 A56 (j := (1 : Int32)) (by decide) N57 g_b54 (hb hby at_195) (ys := [(own_f3 p1 (0 : Int32) v56), (own_f3 p1 (1 : Int32) v56), (0 : Int32), (0 : Int32), (0 : Int32), (0 : Int32), (0 : Int32), (0 : Int32), (0 : Int32)]) rfl ?_
    intro T58 h58 L58 X58 N58 e58 W58 A58
    replace S0 := S0.wr W58
    replace A5 := A5.other W58 ne_b1_b54
    replace A48 := A48.other W58 ne_b46_b54
    replace A53 := A53.other W58 ne_b49_b54
    have ZW58 : n0 ≤ h58.size := Nat.le_trans ZW56 (Keep.of_wr W58).1
    refine own_run (g' := (mkF m 202 #[.val (.int p0), .val (.int p1), .val (.int p2), .val (.int p3), .val (.int p4), .val (.int v3), .val (.int v10), .val (.int v17), .val (.ref b1), .val (.int v56), .val (.int v64), .val (.int v69), .val (.int (1 : Int32)), .val (.int (0 : Int32)), .val (.ref b46), .val (.int v126), .val (.int v108), .val (.ref b49), .unset, .unset, .unset, .unset, .unset] [(.int v56), (.int (2 : Int32)), (.int p1), (.int (2 : Int32)), (.ref b54), (.ref b54)])) (fun _ kt => XS.dup X58.here hx rfl (hb hby at_196) rfl rfl (XS.iconst X58.here hx rfl (hb hby at_197) (XS.iloadN X58.here hx rfl (hb hby at_198) rfl (XS.iconst X58.here hx rfl (hb hby at_199) (XS.iload X58.here hx rfl (hb hby at_200) rfl (kt)))))) ?_
    refine own_callS X58 hx hZ hown (hw _ (List.mem_of_getElem? (i := 9) rfl)) (hw _ (List.mem_of_getElem? (i := 10) rfl)) (hw _ (List.mem_of_getElem? (i := 4) rfl)) (hw _ (List.mem_of_getElem? (i := 11) rfl)) (by decide) (rm3 l Z a0 hw [] p1 (2 : Int32) v56 h58 n0) e58 (by decide) (by decide) (by decide) (by decide) (by rw [hml]; rfl) (argsL := [(.int p1), (.int (2 : Int32)), (.int v56)]) (rest := [(.int (2 : Int32)), (.ref b54), (.ref b54)]) (lenOf own_pd5 rfl) rfl (W := 3) (Nat.le_of_eq rfl) (hb hby at_202) ?_
    intro T59 r59 L59 X59 hQ59
    obtain ⟨rfl, Nq59, e59⟩ := hQ59
    have N59 := Fr.app N58 Nq59
    refine own_stI X59 hx hZ e59 A58 (j := (2 : Int32)) (by decide) N59 g_b54 (hb hby at_205) (ys := [(own_f3 p1 (0 : Int32) v56), (own_f3 p1 (1 : Int32) v56), (own_f3 p1 (2 : Int32) v56), (0 : Int32), (0 : Int32), (0 : Int32), (0 : Int32), (0 : Int32), (0 : Int32)]) rfl ?_
    intro T60 h60 L60 X60 N60 e60 W60 A60
    replace S0 := S0.wr W60
    replace A5 := A5.other W60 ne_b1_b54
    replace A48 := A48.other W60 ne_b46_b54
    replace A53 := A53.other W60 ne_b49_b54
    have ZW60 : n0 ≤ h60.size := Nat.le_trans ZW58 (Keep.of_wr W60).1
    refine own_run (g' := (mkF m 212 #[.val (.int p0), .val (.int p1), .val (.int p2), .val (.int p3), .val (.int p4), .val (.int v3), .val (.int v10), .val (.int v17), .val (.ref b1), .val (.int v56), .val (.int v64), .val (.int v69), .val (.int (1 : Int32)), .val (.int (0 : Int32)), .val (.ref b46), .val (.int v126), .val (.int v108), .val (.ref b49), .unset, .unset, .unset, .unset, .unset] [(.int v56), (.int (3 : Int32)), (.int p1), (.int (3 : Int32)), (.ref b54), (.ref b54)])) (fun _ kt => XS.dup X60.here hx rfl (hb hby at_206) rfl rfl (XS.iconst X60.here hx rfl (hb hby at_207) (XS.iloadN X60.here hx rfl (hb hby at_208) rfl (XS.iconst X60.here hx rfl (hb hby at_209) (XS.iload X60.here hx rfl (hb hby at_210) rfl (kt)))))) ?_
    refine own_callS X60 hx hZ hown (hw _ (List.mem_of_getElem? (i := 9) rfl)) (hw _ (List.mem_of_getElem? (i := 10) rfl)) (hw _ (List.mem_of_getElem? (i := 4) rfl)) (hw _ (List.mem_of_getElem? (i := 11) rfl)) (by decide) (rm3 l Z a0 hw [] p1 (3 : Int32) v56 h60 n0) e60 (by decide) (by decide) (by decide) (by decide) (by rw [hml]; rfl) (argsL := [(.int p1), (.int (3 : Int32)), (.int v56)]) (rest := [(.int (3 : Int32)), (.ref b54), (.ref b54)]) (lenOf own_pd5 rfl) rfl (W := 3) (Nat.le_of_eq rfl) (hb hby at_212) ?_
    intro T61 r61 L61 X61 hQ61
    obtain ⟨rfl, Nq61, e61⟩ := hQ61
    have N61 := Fr.app N60 Nq61
    refine own_stI X61 hx hZ e61 A60 (j := (3 : Int32)) (by decide) N61 g_b54 (hb hby at_215) (ys := [(own_f3 p1 (0 : Int32) v56), (own_f3 p1 (1 : Int32) v56), (own_f3 p1 (2 : Int32) v56), (own_f3 p1 (3 : Int32) v56), (0 : Int32), (0 : Int32), (0 : Int32), (0 : Int32), (0 : Int32)]) rfl ?_
    intro T62 h62 L62 X62 N62 e62 W62 A62
    replace S0 := S0.wr W62
    replace A5 := A5.other W62 ne_b1_b54
    replace A48 := A48.other W62 ne_b46_b54
    replace A53 := A53.other W62 ne_b49_b54
    have ZW62 : n0 ≤ h62.size := Nat.le_trans ZW60 (Keep.of_wr W62).1
    refine own_run (g' := (mkF m 222 #[.val (.int p0), .val (.int p1), .val (.int p2), .val (.int p3), .val (.int p4), .val (.int v3), .val (.int v10), .val (.int v17), .val (.ref b1), .val (.int v56), .val (.int v64), .val (.int v69), .val (.int (1 : Int32)), .val (.int (0 : Int32)), .val (.ref b46), .val (.int v126), .val (.int v108), .val (.ref b49), .unset, .unset, .unset, .unset, .unset] [(.int v56), (.int (4 : Int32)), (.int p1), (.int (4 : Int32)), (.ref b54), (.ref b54)])) (fun _ kt => XS.dup X62.here hx rfl (hb hby at_216) rfl rfl (XS.iconst X62.here hx rfl (hb hby at_217) (XS.iloadN X62.here hx rfl (hb hby at_218) rfl (XS.iconst X62.here hx rfl (hb hby at_219) (XS.iload X62.here hx rfl (hb hby at_220) rfl (kt)))))) ?_
    refine own_callS X62 hx hZ hown (hw _ (List.mem_of_getElem? (i := 9) rfl)) (hw _ (List.mem_of_getElem? (i := 10) rfl)) (hw _ (List.mem_of_getElem? (i := 4) rfl)) (hw _ (List.mem_of_getElem? (i := 11) rfl)) (by decide) (rm3 l Z a0 hw [] p1 (4 : Int32) v56 h62 n0) e62 (by decide) (by decide) (by decide) (by decide) (by rw [hml]; rfl) (argsL := [(.int p1), (.int (4 : Int32)), (.int v56)]) (rest := [(.int (4 : Int32)), (.ref b54), (.ref b54)]) (lenOf own_pd5 rfl) rfl (W := 3) (Nat.le_of_eq rfl) (hb hby at_222) ?_
    intro T63 r63 L63 X63 hQ63
    obtain ⟨rfl, Nq63, e63⟩ := hQ63
    have N63 := Fr.app N62 Nq63
    refine own_stI X63 hx hZ e63 A62 (j := (4 : Int32)) (by decide) N63 g_b54 (hb hby at_225) (ys := [(own_f3 p1 (0 : Int32) v56), (own_f3 p1 (1 : Int32) v56), (own_f3 p1 (2 : Int32) v56), (own_f3 p1 (3 : Int32) v56), (own_f3 p1 (4 : Int32) v56), (0 : Int32), (0 : Int32), (0 : Int32), (0 : Int32)]) rfl ?_
    intro T64 h64 L64 X64 N64 e64 W64 A64
    replace S0 := S0.wr W64
    replace A5 := A5.other W64 ne_b1_b54
    replace A48 := A48.other W64 ne_b46_b54
    replace A53 := A53.other W64 ne_b49_b54
    have ZW64 : n0 ≤ h64.size := Nat.le_trans ZW62 (Keep.of_wr W64).1
    refine own_run (g' := (mkF m 232 #[.val (.int p0), .val (.int p1), .val (.int p2), .val (.int p3), .val (.int p4), .val (.int v3), .val (.int v10), .val (.int v17), .val (.ref b1), .val (.int v56), .val (.int v64), .val (.int v69), .val (.int (1 : Int32)), .val (.int (0 : Int32)), .val (.ref b46), .val (.int v126), .val (.int v108), .val (.ref b49), .unset, .unset, .unset, .unset, .unset] [(.int v56), (.int (5 : Int32)), (.int p1), (.int (5 : Int32)), (.ref b54), (.ref b54)])) (fun _ kt => XS.dup X64.here hx rfl (hb hby at_226) rfl rfl (XS.iconst X64.here hx rfl (hb hby at_227) (XS.iloadN X64.here hx rfl (hb hby at_228) rfl (XS.iconst X64.here hx rfl (hb hby at_229) (XS.iload X64.here hx rfl (hb hby at_230) rfl (kt)))))) ?_
    refine own_callS X64 hx hZ hown (hw _ (List.mem_of_getElem? (i := 9) rfl)) (hw _ (List.mem_of_getElem? (i := 10) rfl)) (hw _ (List.mem_of_getElem? (i := 4) rfl)) (hw _ (List.mem_of_getElem? (i := 11) rfl)) (by decide) (rm3 l Z a0 hw [] p1 (5 : Int32) v56 h64 n0) e64 (by decide) (by decide) (by decide) (by decide) (by rw [hml]; rfl) (argsL := [(.int p1), (.int (5 : Int32)), (.int v56)]) (rest := [(.int (5 : Int32)), (.ref b54), (.ref b54)]) (lenOf own_pd5 rfl) rfl (W := 3) (Nat.le_of_eq rfl) (hb hby at_232) ?_
    intro T65 r65 L65 X65 hQ65
    obtain ⟨rfl, Nq65, e65⟩ := hQ65
    have N65 := Fr.app N64 Nq65
    refine own_stI X65 hx hZ e65 A64 (j := (5 : Int32)) (by decide) N65 g_b54 (hb hby at_235) (ys := [(own_f3 p1 (0 : Int32) v56), (own_f3 p1 (1 : Int32) v56), (own_f3 p1 (2 : Int32) v56), (own_f3 p1 (3 : Int32) v56), (own_f3 p1 (4 : Int32) v56), (own_f3 p1 (5 : Int32) v56), (0 : Int32), (0 : Int32), (0 : Int32)]) rfl ?_
    intro T66 h66 L66 X66 N66 e66 W66 A66
    replace S0 := S0.wr W66
    replace A5 := A5.other W66 ne_b1_b54
    replace A48 := A48.other W66 ne_b46_b54
    replace A53 := A53.other W66 ne_b49_b54
    have ZW66 : n0 ≤ h66.size := Nat.le_trans ZW64 (Keep.of_wr W66).1
    refine own_run (g' := (mkF m 244 #[.val (.int p0), .val (.int p1), .val (.int p2), .val (.int p3), .val (.int p4), .val (.int v3), .val (.int v10), .val (.int v17), .val (.ref b1), .val (.int v56), .val (.int v64), .val (.int v69), .val (.int (1 : Int32)), .val (.int (0 : Int32)), .val (.ref b46), .val (.int v126), .val (.int v108), .val (.ref b49), .unset, .unset, .unset, .unset, .unset] [(.int v56), (.int (6 : Int32)), (.int p1), (.int (6 : Int32)), (.ref b54), (.ref b54)])) (fun _ kt => XS.dup X66.here hx rfl (hb hby at_236) rfl rfl (XS.bipush X66.here hx rfl (hb hby at_237) (XS.iloadN X66.here hx rfl (hb hby at_239) rfl (XS.bipush X66.here hx rfl (hb hby at_240) (XS.iload X66.here hx rfl (hb hby at_242) rfl (kt)))))) ?_
    refine own_callS X66 hx hZ hown (hw _ (List.mem_of_getElem? (i := 9) rfl)) (hw _ (List.mem_of_getElem? (i := 10) rfl)) (hw _ (List.mem_of_getElem? (i := 4) rfl)) (hw _ (List.mem_of_getElem? (i := 11) rfl)) (by decide) (rm3 l Z a0 hw [] p1 (6 : Int32) v56 h66 n0) e66 (by decide) (by decide) (by decide) (by decide) (by rw [hml]; rfl) (argsL := [(.int p1), (.int (6 : Int32)), (.int v56)]) (rest := [(.int (6 : Int32)), (.ref b54), (.ref b54)]) (lenOf own_pd5 rfl) rfl (W := 3) (Nat.le_of_eq rfl) (hb hby at_244) ?_
    intro T67 r67 L67 X67 hQ67
    obtain ⟨rfl, Nq67, e67⟩ := hQ67
    have N67 := Fr.app N66 Nq67
    refine own_stI X67 hx hZ e67 A66 (j := (6 : Int32)) (by decide) N67 g_b54 (hb hby at_247) (ys := [(own_f3 p1 (0 : Int32) v56), (own_f3 p1 (1 : Int32) v56), (own_f3 p1 (2 : Int32) v56), (own_f3 p1 (3 : Int32) v56), (own_f3 p1 (4 : Int32) v56), (own_f3 p1 (5 : Int32) v56), (own_f3 p1 (6 : Int32) v56), (0 : Int32), (0 : Int32)]) rfl ?_
    intro T68 h68 L68 X68 N68 e68 W68 A68
    replace S0 := S0.wr W68
    replace A5 := A5.other W68 ne_b1_b54
    replace A48 := A48.other W68 ne_b46_b54
    replace A53 := A53.other W68 ne_b49_b54
    have ZW68 : n0 ≤ h68.size := Nat.le_trans ZW66 (Keep.of_wr W68).1
    refine own_run (g' := (mkF m 256 #[.val (.int p0), .val (.int p1), .val (.int p2), .val (.int p3), .val (.int p4), .val (.int v3), .val (.int v10), .val (.int v17), .val (.ref b1), .val (.int v56), .val (.int v64), .val (.int v69), .val (.int (1 : Int32)), .val (.int (0 : Int32)), .val (.ref b46), .val (.int v126), .val (.int v108), .val (.ref b49), .unset, .unset, .unset, .unset, .unset] [(.int v56), (.int (7 : Int32)), (.int p1), (.int (7 : Int32)), (.ref b54), (.ref b54)])) (fun _ kt => XS.dup X68.here hx rfl (hb hby at_248) rfl rfl (XS.bipush X68.here hx rfl (hb hby at_249) (XS.iloadN X68.here hx rfl (hb hby at_251) rfl (XS.bipush X68.here hx rfl (hb hby at_252) (XS.iload X68.here hx rfl (hb hby at_254) rfl (kt)))))) ?_
    refine own_callS X68 hx hZ hown (hw _ (List.mem_of_getElem? (i := 9) rfl)) (hw _ (List.mem_of_getElem? (i := 10) rfl)) (hw _ (List.mem_of_getElem? (i := 4) rfl)) (hw _ (List.mem_of_getElem? (i := 11) rfl)) (by decide) (rm3 l Z a0 hw [] p1 (7 : Int32) v56 h68 n0) e68 (by decide) (by decide) (by decide) (by decide) (by rw [hml]; rfl) (argsL := [(.int p1), (.int (7 : Int32)), (.int v56)]) (rest := [(.int (7 : Int32)), (.ref b54), (.ref b54)]) (lenOf own_pd5 rfl) rfl (W := 3) (Nat.le_of_eq rfl) (hb hby at_256) ?_
    intro T69 r69 L69 X69 hQ69
    obtain ⟨rfl, Nq69, e69⟩ := hQ69
    have N69 := Fr.app N68 Nq69
    refine own_stI X69 hx hZ e69 A68 (j := (7 : Int32)) (by decide) N69 g_b54 (hb hby at_259) (ys := [(own_f3 p1 (0 : Int32) v56), (own_f3 p1 (1 : Int32) v56), (own_f3 p1 (2 : Int32) v56), (own_f3 p1 (3 : Int32) v56), (own_f3 p1 (4 : Int32) v56), (own_f3 p1 (5 : Int32) v56), (own_f3 p1 (6 : Int32) v56), (own_f3 p1 (7 : Int32) v56), (0 : Int32)]) rfl ?_
    intro T70 h70 L70 X70 N70 e70 W70 A70
    replace S0 := S0.wr W70
    replace A5 := A5.other W70 ne_b1_b54
    replace A48 := A48.other W70 ne_b46_b54
    replace A53 := A53.other W70 ne_b49_b54
    have ZW70 : n0 ≤ h70.size := Nat.le_trans ZW68 (Keep.of_wr W70).1
    refine own_run (g' := (mkF m 268 #[.val (.int p0), .val (.int p1), .val (.int p2), .val (.int p3), .val (.int p4), .val (.int v3), .val (.int v10), .val (.int v17), .val (.ref b1), .val (.int v56), .val (.int v64), .val (.int v69), .val (.int (1 : Int32)), .val (.int (0 : Int32)), .val (.ref b46), .val (.int v126), .val (.int v108), .val (.ref b49), .unset, .unset, .unset, .unset, .unset] [(.int v56), (.int (8 : Int32)), (.int p1), (.int (8 : Int32)), (.ref b54), (.ref b54)])) (fun _ kt => XS.dup X70.here hx rfl (hb hby at_260) rfl rfl (XS.bipush X70.here hx rfl (hb hby at_261) (XS.iloadN X70.here hx rfl (hb hby at_263) rfl (XS.bipush X70.here hx rfl (hb hby at_264) (XS.iload X70.here hx rfl (hb hby at_266) rfl (kt)))))) ?_
    refine own_callS X70 hx hZ hown (hw _ (List.mem_of_getElem? (i := 9) rfl)) (hw _ (List.mem_of_getElem? (i := 10) rfl)) (hw _ (List.mem_of_getElem? (i := 4) rfl)) (hw _ (List.mem_of_getElem? (i := 11) rfl)) (by decide) (rm3 l Z a0 hw [] p1 (8 : Int32) v56 h70 n0) e70 (by decide) (by decide) (by decide) (by decide) (by rw [hml]; rfl) (argsL := [(.int p1), (.int (8 : Int32)), (.int v56)]) (rest := [(.int (8 : Int32)), (.ref b54), (.ref b54)]) (lenOf own_pd5 rfl) rfl (W := 3) (Nat.le_of_eq rfl) (hb hby at_268) ?_
    intro T71 r71 L71 X71 hQ71
    obtain ⟨rfl, Nq71, e71⟩ := hQ71
    have N71 := Fr.app N70 Nq71
    refine own_stI X71 hx hZ e71 A70 (j := (8 : Int32)) (by decide) N71 g_b54 (hb hby at_271) (ys := [(own_f3 p1 (0 : Int32) v56), (own_f3 p1 (1 : Int32) v56), (own_f3 p1 (2 : Int32) v56), (own_f3 p1 (3 : Int32) v56), (own_f3 p1 (4 : Int32) v56), (own_f3 p1 (5 : Int32) v56), (own_f3 p1 (6 : Int32) v56), (own_f3 p1 (7 : Int32) v56), (own_f3 p1 (8 : Int32) v56)]) rfl ?_
    intro T72 h72 L72 X72 N72 e72 W72 A72
    replace S0 := S0.wr W72
    replace A5 := A5.other W72 ne_b1_b54
    replace A48 := A48.other W72 ne_b46_b54
    replace A53 := A53.other W72 ne_b49_b54
    have ZW72 : n0 ≤ h72.size := Nat.le_trans ZW70 (Keep.of_wr W72).1
    refine own_run (g' := (mkF m 274 #[.val (.int p0), .val (.int p1), .val (.int p2), .val (.int p3), .val (.int p4), .val (.int v3), .val (.int v10), .val (.int v17), .val (.ref b1), .val (.int v56), .val (.int v64), .val (.int v69), .val (.int (1 : Int32)), .val (.int (0 : Int32)), .val (.ref b46), .val (.int v126), .val (.int v108), .val (.ref b49), .val (.ref b54), .unset, .unset, .unset, .unset] [])) (fun _ kt => XS.astore X72.here hx rfl (hb hby at_272) rfl rfl (l' := #[.val (.int p0), .val (.int p1), .val (.int p2), .val (.int p3), .val (.int p4), .val (.int v3), .val (.int v10), .val (.int v17), .val (.ref b1), .val (.int v56), .val (.int v64), .val (.int v69), .val (.int (1 : Int32)), .val (.int (0 : Int32)), .val (.ref b46), .val (.int v126), .val (.int v108), .val (.ref b49), .val (.ref b54), .unset, .unset, .unset, .unset]) rfl (kt)) ?_
    refine own_new X72 hx hZ hown (hw _ (List.mem_of_getElem? (i := 12) rfl)) (hw _ (List.mem_of_getElem? (i := 13) rfl)) (hw _ (List.mem_of_getElem? (i := 14) rfl)) e72 (hb hby at_274) (by decide) (by decide) ?_
    intro T73 h73 b73 qq73 X73 e73 E73 K73 D73
    have ne_b1_b73 : b1 ≠ b73 := Nat.ne_of_lt (by rw [qq73]; exact A5.lt)
    have ne_b46_b73 : b46 ≠ b73 := Nat.ne_of_lt (by rw [qq73]; exact A48.lt)
    have ne_b49_b73 : b49 ≠ b73 := Nat.ne_of_lt (by rw [qq73]; exact A53.lt)
    have ne_b54_b73 : b54 ≠ b73 := Nat.ne_of_lt (by rw [qq73]; exact A72.lt)
    replace S0 := S0.ext E73
    replace A5 := A5.ext E73
    replace A48 := A48.ext E73
    replace A53 := A53.ext E73
    replace A72 := A72.ext E73
    have g_b73 : n0 ≤ b73 := by rw [qq73]; exact ZW72
    have Z73 : n0 ≤ h73.size := Nat.le_trans ZW72 E73.1
    have F73_tables : Fld Z h73 b73 "com/example/lugha/lugha/concepts/PageGroups" "tables" "Ljava/util/List;" .null := D73 (Or.inr (hw _ (List.mem_of_getElem? (i := 46) rfl))) (ty := (.object "java/util/List")) (by decide)
    have F73_offsets : Fld Z h73 b73 "com/example/lugha/lugha/concepts/PageGroups" "offsets" "[I" .null := D73 (Or.inr (hw _ (List.mem_of_getElem? (i := 48) rfl))) (ty := (.array .int)) (by decide)
    have F73_ids : Fld Z h73 b73 "com/example/lugha/lugha/concepts/PageGroups" "ids" "Ljava/util/List;" .null := D73 (Or.inr (hw _ (List.mem_of_getElem? (i := 50) rfl))) (ty := (.object "java/util/List")) (by decide)
    have F73_ranges : Fld Z h73 b73 "com/example/lugha/lugha/concepts/PageGroups" "ranges" "[I" .null := D73 (Or.inr (hw _ (List.mem_of_getElem? (i := 52) rfl))) (ty := (.array .int)) (by decide)
    have F73_members : Fld Z h73 b73 "com/example/lugha/lugha/concepts/PageGroups" "members" "[I" .null := D73 (Or.inr (hw _ (List.mem_of_getElem? (i := 54) rfl))) (ty := (.array .int)) (by decide)
    have F73_groupOfPage : Fld Z h73 b73 "com/example/lugha/lugha/concepts/PageGroups" "groupOfPage" "[I" .null := D73 (Or.inr (hw _ (List.mem_of_getElem? (i := 56) rfl))) (ty := (.array .int)) (by decide)
    have F73_fewLanguages : Fld Z h73 b73 "com/example/lugha/lugha/concepts/PageGroups" "fewLanguages" "I" (.int (0 : Int32)) := D73 (Or.inr (hw _ (List.mem_of_getElem? (i := 58) rfl))) (ty := .int) (by decide)
    refine own_run (g' := (mkF m 278 #[.val (.int p0), .val (.int p1), .val (.int p2), .val (.int p3), .val (.int p4), .val (.int v3), .val (.int v10), .val (.int v17), .val (.ref b1), .val (.int v56), .val (.int v64), .val (.int v69), .val (.int (1 : Int32)), .val (.int (0 : Int32)), .val (.ref b46), .val (.int v126), .val (.int v108), .val (.ref b49), .val (.ref b54), .unset, .unset, .unset, .unset] [(.ref b73), (.ref b73)])) (fun _ kt => XS.dup X73.here hx rfl (hb hby at_277) rfl rfl (kt)) ?_
    refine own_new X73 hx hZ hown (hw _ (List.mem_of_getElem? (i := 15) rfl)) (hw _ (List.mem_of_getElem? (i := 16) rfl)) (hw _ (List.mem_of_getElem? (i := 17) rfl)) e73 (hb hby at_278) (by decide) (by decide) ?_
    intro T74 h74 b74 qq74 X74 e74 E74 K74 D74
    have ne_b1_b74 : b1 ≠ b74 := Nat.ne_of_lt (by rw [qq74]; exact A5.lt)
    have ne_b46_b74 : b46 ≠ b74 := Nat.ne_of_lt (by rw [qq74]; exact A48.lt)
    have ne_b49_b74 : b49 ≠ b74 := Nat.ne_of_lt (by rw [qq74]; exact A53.lt)
    have ne_b54_b74 : b54 ≠ b74 := Nat.ne_of_lt (by rw [qq74]; exact A72.lt)
    have ne_b73_b74 : b73 ≠ b74 := Nat.ne_of_lt (by rw [qq74]; exact K73.lt)
    replace S0 := S0.ext E74
    replace A5 := A5.ext E74
    replace A48 := A48.ext E74
    replace A53 := A53.ext E74
    replace A72 := A72.ext E74
    replace K73 := K73.ext E74
    replace F73_tables := F73_tables.ext E74
    replace F73_offsets := F73_offsets.ext E74
    replace F73_ids := F73_ids.ext E74
    replace F73_ranges := F73_ranges.ext E74
    replace F73_members := F73_members.ext E74
    replace F73_groupOfPage := F73_groupOfPage.ext E74
    replace F73_fewLanguages := F73_fewLanguages.ext E74
    have g_b74 : n0 ≤ b74 := by rw [qq74]; exact Z73
    have Z74 : n0 ≤ h74.size := Nat.le_trans Z73 E74.1
    have F74_modCount : Fld Z h74 b74 "java/util/AbstractList" "modCount" "I" (.int (0 : Int32)) := D74 (Or.inl (hw _ (List.mem_of_getElem? (i := 37) rfl))) (ty := .int) (by decide)
    have F74_elementData : Fld Z h74 b74 "java/util/ArrayList" "elementData" "[Ljava/lang/Object;" .null := D74 (Or.inl (hw _ (List.mem_of_getElem? (i := 40) rfl))) (ty := (.array (.object "java/lang/Object"))) (by decide)
    refine own_run (g' := (mkF m 282 #[.val (.int p0), .val (.int p1), .val (.int p2), .val (.int p3), .val (.int p4), .val (.int v3), .val (.int v10), .val (.int v17), .val (.ref b1), .val (.int v56), .val (.int v64), .val (.int v69), .val (.int (1 : Int32)), .val (.int (0 : Int32)), .val (.ref b46), .val (.int v126), .val (.int v108), .val (.ref b49), .val (.ref b54), .unset, .unset, .unset, .unset] [(.ref b74), (.ref b74), (.ref b73), (.ref b73)])) (fun _ kt => XS.dup X74.here hx rfl (hb hby at_281) rfl rfl (kt)) ?_
    refine own_callI (b := b74) X74 hx hZ hown rfl (hw _ (List.mem_of_getElem? (i := 18) rfl)) (hw _ (List.mem_of_getElem? (i := 19) rfl)) (hw _ (List.mem_of_getElem? (i := 17) rfl)) (hw _ (List.mem_of_getElem? (i := 20) rfl)) (by decide) (rm4 l Z a0 hw [] b74 u h74 n0 Z74 K74 F74_modCount F74_elementData g_b74 S0) e74 (by decide) (by decide) (by decide) (by decide) (by rw [hml]; rfl) (argsL := []) (rest := [(.ref b74), (.ref b73), (.ref b73)]) (lenOf own_pd0 rfl) rfl (W := 3) (Nat.le_of_eq rfl) (hb hby at_282) ?_
    intro T75 r75 L75 X75 hQ75
    obtain ⟨rfl, Nq75, Kc75, F75_0, F75_1⟩ := hQ75
    have N75 := Fr.app N72 Nq75
    replace S0 := own_StaKeep S0 Kc75 K74
    replace A5 := A5.keep Kc75 (ninS ne_b1_b74 nin0)
    replace A48 := A48.keep Kc75 (ninS ne_b46_b74 nin0)
    replace A53 := A53.keep Kc75 (ninS ne_b49_b74 nin0)
    replace A72 := A72.keep Kc75 (ninS ne_b54_b74 nin0)
    replace K73 := K73.keep Kc75
    replace F73_tables := F73_tables.keep Kc75 (ninS ne_b73_b74 nin0)
    replace F73_offsets := F73_offsets.keep Kc75 (ninS ne_b73_b74 nin0)
    replace F73_ids := F73_ids.keep Kc75 (ninS ne_b73_b74 nin0)
    replace F73_ranges := F73_ranges.keep Kc75 (ninS ne_b73_b74 nin0)
    replace F73_members := F73_members.keep Kc75 (ninS ne_b73_b74 nin0)
    replace F73_groupOfPage := F73_groupOfPage.keep Kc75 (ninS ne_b73_b74 nin0)
    replace F73_fewLanguages := F73_fewLanguages.keep Kc75 (ninS ne_b73_b74 nin0)
    replace K74 := K74.keep Kc75
    have Z75 : n0 ≤ T75.heap.size := Nat.le_trans Z74 Kc75.1
    refine own_run (g' := (mkF m 295 #[.val (.int p0), .val (.int p1), .val (.int p2), .val (.int p3), .val (.int p4), .val (.int v3), .val (.int v10), .val (.int v17), .val (.ref b1), .val (.int v56), .val (.int v64), .val (.int v69), .val (.int (1 : Int32)), .val (.int (0 : Int32)), .val (.ref b46), .val (.int v126), .val (.int v108), .val (.ref b49), .val (.ref b54), .unset, .unset, .unset, .unset] [(.int (0 : Int32)), (.ref b54), (.ref b46), (.ref b49), .null, (.ref b1), (.ref b74), (.ref b73), (.ref b73)])) (fun _ kt => XS.aload X75.here hx rfl (hb hby at_285) rfl rfl (XS.aconstNull X75.here hx rfl (hb hby at_287) (XS.aload X75.here hx rfl (hb hby at_288) rfl rfl (XS.aload X75.here hx rfl (hb hby at_290) rfl rfl (XS.aload X75.here hx rfl (hb hby at_292) rfl rfl (XS.iconst X75.here hx rfl (hb hby at_294) (kt))))))) ?_
    refine own_callI (b := b73) X75 hx hZ hown rfl (hw _ (List.mem_of_getElem? (i := 41) rfl)) (hw _ (List.mem_of_getElem? (i := 42) rfl)) (hw _ (List.mem_of_getElem? (i := 14) rfl)) (hw _ (List.mem_of_getElem? (i := 43) rfl)) (by decide) (rm8 l Z a0 hw [] b73 b74 b1 b49 b46 b54 (0 : Int32) T75.heap n0 Z75 K73 F73_tables F73_offsets F73_ids F73_ranges F73_members F73_groupOfPage F73_fewLanguages g_b73) rfl (by decide) (by decide) (by decide) (by decide) (by rw [hml]; rfl) (argsL := [(.ref b74), (.ref b1), .null, (.ref b49), (.ref b46), (.ref b54), (.int (0 : Int32))]) (rest := [(.ref b73)]) (lenOf own_pd6 rfl) rfl (W := 1) (Nat.le_of_eq rfl) (hb hby at_295) ?_
    intro T76 r76 L76 X76 hQ76
    obtain ⟨rfl, Nq76, Kc76, F76_0, F76_1, F76_2, F76_3, F76_4, F76_5, F76_6⟩ := hQ76
    have N76 := Fr.app N75 Nq76
    replace S0 := own_StaKeep S0 Kc76 K73
    replace A5 := A5.keep Kc76 (ninS ne_b1_b73 nin0)
    replace A48 := A48.keep Kc76 (ninS ne_b46_b73 nin0)
    replace A53 := A53.keep Kc76 (ninS ne_b49_b73 nin0)
    replace A72 := A72.keep Kc76 (ninS ne_b54_b73 nin0)
    replace K73 := K73.keep Kc76
    replace K74 := K74.keep Kc76
    replace F75_0 := F75_0.keep Kc76 (ninS (Ne.symm ne_b73_b74) nin0)
    replace F75_1 := F75_1.keep Kc76 (ninS (Ne.symm ne_b73_b74) nin0)
    have Z76 : n0 ≤ T76.heap.size := Nat.le_trans Z75 Kc76.1
    refine own_run (g' := (mkF m 304 #[.val (.int p0), .val (.int p1), .val (.int p2), .val (.int p3), .val (.int p4), .val (.int v3), .val (.int v10), .val (.int v17), .val (.ref b1), .val (.int v56), .val (.int v64), .val (.int v69), .val (.int (1 : Int32)), .val (.int (0 : Int32)), .val (.ref b46), .val (.int v126), .val (.int v108), .val (.ref b49), .val (.ref b54), .val (.ref b73), .unset, .unset, .unset] [(.int v64), (.ref b1)])) (fun _ kt => XS.astore X76.here hx rfl (hb hby at_298) rfl rfl (l' := #[.val (.int p0), .val (.int p1), .val (.int p2), .val (.int p3), .val (.int p4), .val (.int v3), .val (.int v10), .val (.int v17), .val (.ref b1), .val (.int v56), .val (.int v64), .val (.int v69), .val (.int (1 : Int32)), .val (.int (0 : Int32)), .val (.ref b46), .val (.int v126), .val (.int v108), .val (.ref b49), .val (.ref b54), .val (.ref b73), .unset, .unset, .unset]) rfl (XS.aload X76.here hx rfl (hb hby at_300) rfl rfl (XS.iload X76.here hx rfl (hb hby at_302) rfl (kt)))) ?_
    refine own_ldI X76 hx hZ rfl A5 (j := v64) he4 (hb hby at_304) (x := ([(0 : Int32), v3, (v3 + v10), ((v3 + v10) + v17)].getD v64.toNatClampNeg 0)) rfl ?_
    refine own_run (g' := (mkF m 307 #[.val (.int p0), .val (.int p1), .val (.int p2), .val (.int p3), .val (.int p4), .val (.int v3), .val (.int v10), .val (.int v17), .val (.ref b1), .val (.int v56), .val (.int v64), .val (.int v69), .val (.int (1 : Int32)), .val (.int (0 : Int32)), .val (.ref b46), .val (.int v126), .val (.int v108), .val (.ref b49), .val (.ref b54), .val (.ref b73), .val (.int ([(0 : Int32), v3, (v3 + v10), ((v3 + v10) + v17)].getD v64.toNatClampNeg 0)), .unset, .unset] [])) (fun _ kt => XS.istore X76.here hx rfl (hb hby at_305) rfl (l' := #[.val (.int p0), .val (.int p1), .val (.int p2), .val (.int p3), .val (.int p4), .val (.int v3), .val (.int v10), .val (.int v17), .val (.ref b1), .val (.int v56), .val (.int v64), .val (.int v69), .val (.int (1 : Int32)), .val (.int (0 : Int32)), .val (.ref b46), .val (.int v126), .val (.int v108), .val (.ref b49), .val (.ref b54), .val (.ref b73), .val (.int ([(0 : Int32), v3, (v3 + v10), ((v3 + v10) + v17)].getD v64.toNatClampNeg 0)), .unset, .unset]) rfl (kt)) ?_
    obtain ⟨v305, hv305⟩ : ∃ z : Int32, z = ([(0 : Int32), v3, (v3 + v10), ((v3 + v10) + v17)].getD v64.toNatClampNeg 0) := ⟨_, rfl⟩
    rw [← hv305]
    refine own_run (g' := (mkF m 313 #[.val (.int p0), .val (.int p1), .val (.int p2), .val (.int p3), .val (.int p4), .val (.int v3), .val (.int v10), .val (.int v17), .val (.ref b1), .val (.int v56), .val (.int v64), .val (.int v69), .val (.int (1 : Int32)), .val (.int (0 : Int32)), .val (.ref b46), .val (.int v126), .val (.int v108), .val (.ref b49), .val (.ref b54), .val (.ref b73), .val (.int v305), .unset, .unset] [(.int (v64 + (1 : Int32))), (.ref b1)])) (fun _ kt => XS.aload X76.here hx rfl (hb hby at_307) rfl rfl (XS.iload X76.here hx rfl (hb hby at_309) rfl (XS.iconst X76.here hx rfl (hb hby at_311) (XS.iadd X76.here hx rfl (hb hby at_312) rfl (kt))))) ?_
    refine own_ldI X76 hx hZ rfl A5 (j := (v64 + (1 : Int32))) he5 (hb hby at_313) (x := ([(0 : Int32), v3, (v3 + v10), ((v3 + v10) + v17)].getD (v64 + (1 : Int32)).toNatClampNeg 0)) rfl ?_
    refine own_run (g' := (mkF m 319 #[.val (.int p0), .val (.int p1), .val (.int p2), .val (.int p3), .val (.int p4), .val (.int v3), .val (.int v10), .val (.int v17), .val (.ref b1), .val (.int v56), .val (.int v64), .val (.int v69), .val (.int (1 : Int32)), .val (.int (0 : Int32)), .val (.ref b46), .val (.int v126), .val (.int v108), .val (.ref b49), .val (.ref b54), .val (.ref b73), .val (.int v305), .val (.int (([(0 : Int32), v3, (v3 + v10), ((v3 + v10) + v17)].getD (v64 + (1 : Int32)).toNatClampNeg 0) - v305)), .unset] [])) (fun _ kt => XS.iload X76.here hx rfl (hb hby at_314) rfl (XS.isub X76.here hx rfl (hb hby at_316) rfl (XS.istore X76.here hx rfl (hb hby at_317) rfl (l' := #[.val (.int p0), .val (.int p1), .val (.int p2), .val (.int p3), .val (.int p4), .val (.int v3), .val (.int v10), .val (.int v17), .val (.ref b1), .val (.int v56), .val (.int v64), .val (.int v69), .val (.int (1 : Int32)), .val (.int (0 : Int32)), .val (.ref b46), .val (.int v126), .val (.int v108), .val (.ref b49), .val (.ref b54), .val (.ref b73), .val (.int v305), .val (.int (([(0 : Int32), v3, (v3 + v10), ((v3 + v10) + v17)].getD (v64 + (1 : Int32)).toNatClampNeg 0) - v305)), .unset]) rfl (kt)))) ?_
    obtain ⟨v317, hv317⟩ : ∃ z : Int32, z = (([(0 : Int32), v3, (v3 + v10), ((v3 + v10) + v17)].getD (v64 + (1 : Int32)).toNatClampNeg 0) - v305) := ⟨_, rfl⟩
    rw [← hv317]
    refine own_run (g' := (mkF m 321 #[.val (.int p0), .val (.int p1), .val (.int p2), .val (.int p3), .val (.int p4), .val (.int v3), .val (.int v10), .val (.int v17), .val (.ref b1), .val (.int v56), .val (.int v64), .val (.int v69), .val (.int (1 : Int32)), .val (.int (0 : Int32)), .val (.ref b46), .val (.int v126), .val (.int v108), .val (.ref b49), .val (.ref b54), .val (.ref b73), .val (.int v305), .val (.int v317), .unset] [(.int v317)])) (fun _ kt => XS.iload X76.here hx rfl (hb hby at_319) rfl (kt)) ?_
    have J77 : ∀ (T77 : State) (L77 : List Loc) (v77_s0 : Int32), Stand p l e room_1 s m args below meth c T77 L77 6 36 → Fr n0 L77 → T77.heap = T76.heap → v77_s0 = (if (0 : Int32) < v317 then (if (own_f11 p1 v305 v69) = (0 : Int32) then (if (1 : Int32) < v317 then (if (own_f11 p1 (v305 + (1 : Int32)) v69) = (0 : Int32) then (if (2 : Int32) < v317 then (if (own_f11 p1 (v305 + (2 : Int32)) v69) = (0 : Int32) then (0 : Int32) else (1 : Int32)) else (0 : Int32)) else (1 : Int32)) else (if (2 : Int32) < v317 then (if (own_f11 p1 (v305 + (2 : Int32)) v69) = (0 : Int32) then (0 : Int32) else (1 : Int32)) else (0 : Int32))) else (1 : Int32)) else (if (1 : Int32) < v317 then (if (own_f11 p1 (v305 + (1 : Int32)) v69) = (0 : Int32) then (if (2 : Int32) < v317 then (if (own_f11 p1 (v305 + (2 : Int32)) v69) = (0 : Int32) then (0 : Int32) else (1 : Int32)) else (0 : Int32)) else (1 : Int32)) else (if (2 : Int32) < v317 then (if (own_f11 p1 (v305 + (2 : Int32)) v69) = (0 : Int32) then (0 : Int32) else (1 : Int32)) else (0 : Int32)))) →  own_Run p e below s room_1.cells room_1.slots (Q0 h0 n0) T77 (mkF m 378 #[.val (.int p0), .val (.int p1), .val (.int p2), .val (.int p3), .val (.int p4), .val (.int v3), .val (.int v10), .val (.int v17), .val (.ref b1), .val (.int v56), .val (.int v64), .val (.int v69), .val (.int (1 : Int32)), .val (.int (0 : Int32)), .val (.ref b46), .val (.int v126), .val (.int v108), .val (.ref b49), .val (.ref b54), .val (.ref b73), .val (.int v305), .val (.int v317), .unset] [(.int v77_s0)]) := by
      intro T77 L77 v77_s0 X77 N77 e77 hv77_s0
      refine own_run (g' := (mkF m 386 #[.val (.int p0), .val (.int p1), .val (.int p2), .val (.int p3), .val (.int p4), .val (.int v3), .val (.int v10), .val (.int v17), .val (.ref b1), .val (.int v56), .val (.int v64), .val (.int v69), .val (.int (1 : Int32)), .val (.int (0 : Int32)), .val (.ref b46), .val (.int v126), .val (.int v108), .val (.ref b49), .val (.ref b54), .val (.ref b73), .val (.int v305), .val (.int v317), .val (.int v77_s0)] [(.int v64), (.int v69), (.ref b73)])) (fun _ kt => XS.istore X77.here hx rfl (hb hby at_378) rfl (l' := #[.val (.int p0), .val (.int p1), .val (.int p2), .val (.int p3), .val (.int p4), .val (.int v3), .val (.int v10), .val (.int v17), .val (.ref b1), .val (.int v56), .val (.int v64), .val (.int v69), .val (.int (1 : Int32)), .val (.int (0 : Int32)), .val (.ref b46), .val (.int v126), .val (.int v108), .val (.ref b49), .val (.ref b54), .val (.ref b73), .val (.int v305), .val (.int v317), .val (.int v77_s0)]) rfl (XS.aload X77.here hx rfl (hb hby at_380) rfl rfl (XS.iload X77.here hx rfl (hb hby at_382) rfl (XS.iload X77.here hx rfl (hb hby at_384) rfl (kt))))) ?_
      have hg0 : ¬ ((2 : Int32) * v69) < 0 ∧ ((2 : Int32) * v69) < (4 : Int32) := by rcases hgg with h | h <;> rw [h] <;> decide
      have hg1 : ¬ (((2 : Int32) * v69) + (1 : Int32)) < 0 ∧ (((2 : Int32) * v69) + (1 : Int32)) < (4 : Int32) := by rcases hgg with h | h <;> rw [h] <;> decide
      obtain ⟨lo, hLO, hHI, hn9, hmm⟩ := own_rng1 p1 v56 v69 v108 v126 xs47 xs48 hgg hv108 hxs47 hv126 hxs48
      have hlo : ¬ ([v108, v126, (0 : Int32), v108].getD ((2 : Int32) * v69).toNatClampNeg 0) < 0 ∧ ([v108, v126, (0 : Int32), v108].getD ((2 : Int32) * v69).toNatClampNeg 0).toNatClampNeg ≤ ([v108, v126, (0 : Int32), v108].getD (((2 : Int32) * v69) + (1 : Int32)).toNatClampNeg 0).toNatClampNeg ∧ ([v108, v126, (0 : Int32), v108].getD (((2 : Int32) * v69) + (1 : Int32)).toNatClampNeg 0).toNatClampNeg ≤ 9 := own_hlo hLO hHI hn9
      refine own_callV (b := b73) X77 hx hZ hown (hw _ (List.mem_of_getElem? (i := 59) rfl)) (hw _ (List.mem_of_getElem? (i := 60) rfl)) (hw _ (List.mem_of_getElem? (i := 62) rfl)) (hw _ (List.mem_of_getElem? (i := 61) rfl)) (hw _ (List.mem_of_getElem? (i := 14) rfl)) (hw _ (List.mem_of_getElem? (i := 63) rfl)) (by decide) K73 (rm9 l Z a0 hw [] b73 v69 v64 b1 b49 b46 [(0 : Int32), v3, (v3 + v10), ((v3 + v10) + v17)] [v108, v126, (0 : Int32), v108] xs48 ([(0 : Int32), v3, (v3 + v10), ((v3 + v10) + v17)].getD v64.toNatClampNeg 0) ([(0 : Int32), v3, (v3 + v10), ((v3 + v10) + v17)].getD (v64 + (1 : Int32)).toNatClampNeg 0) ([v108, v126, (0 : Int32), v108].getD ((2 : Int32) * v69).toNatClampNeg 0) ([v108, v126, (0 : Int32), v108].getD (((2 : Int32) * v69) + (1 : Int32)).toNatClampNeg 0) T76.heap n0 K73 F76_1 F76_3 F76_4 A5 A53 A48 he4 rfl hg0 rfl hg1 rfl hlo.1 hlo.2.1 hlo.2.2 he5 rfl) e77 (by decide) (by decide) (by decide) (by decide) (by rw [hml]; rfl) (argsL := [(.int v69), (.int v64)]) (rest := []) (lenOf own_pd7 rfl) rfl (W := 0) (Nat.le_of_eq rfl) (hb hby at_386) ?_
      intro T78 r78 L78 X78 hQ78
      obtain ⟨j78, k78, rfl, Nq78, e78, hed78, hek78⟩ := hQ78
      have N78 := Fr.app N77 Nq78
      have hd391 : (if j78 < k78 then (1 : Int32) else (0 : Int32)) = v77_s0 := own_fin p1 v69 v305 _ v56 v317 _ _ lo _ _ j78 k78 v77_s0 hv305 (own_offs v3 v10 v17 v64 (by rw [hv3]; exact own_m3I _) (by rw [hv10]; exact own_m3I _) (by rw [hv17]; exact own_m3I _) hee v305 _ v56 hv305 rfl hv56) hv317 hLO hHI hn9 hmm hed78 hek78 hv77_s0
      refine own_run (g' := (mkF m 399 #[.val (.int p0), .val (.int p1), .val (.int p2), .val (.int p3), .val (.int p4), .val (.int v3), .val (.int v10), .val (.int v17), .val (.ref b1), .val (.int v56), .val (.int v64), .val (.int v69), .val (.int (1 : Int32)), .val (.int (0 : Int32)), .val (.ref b46), .val (.int v126), .val (.int v108), .val (.ref b49), .val (.ref b54), .val (.ref b73), .val (.int v305), .val (.int v317), .val (.int v77_s0)] [(.int (1 : Int32))])) (fun _ kt => XS.iload X78.here hx rfl (hb hby at_389) rfl (XS.icmpNo X78.here hx rfl (hb hby at_391) rfl ((teq hd391).2) (XS.iconst X78.here hx rfl (hb hby at_394) (XS.goto X78.here hx rfl (pc0 := 395) (pc' := 399) rfl (hb hby at_395) (by decide) (by decide) (kt))))) ?_
      exact own_retN (t := .boolean) X78 hx Bd.notSynchronized Bd.returns (by simp) (hb hby at_399) (by decide) (by decide) ⟨rfl, N78⟩
    by_cases hc321 : (0 : Int32) < v317
    · refine own_run (g' := (mkF m 329 #[.val (.int p0), .val (.int p1), .val (.int p2), .val (.int p3), .val (.int p4), .val (.int v3), .val (.int v10), .val (.int v17), .val (.ref b1), .val (.int v56), .val (.int v64), .val (.int v69), .val (.int (1 : Int32)), .val (.int (0 : Int32)), .val (.ref b46), .val (.int v126), .val (.int v108), .val (.ref b49), .val (.ref b54), .val (.ref b73), .val (.int v305), .val (.int v317), .unset] [(.int v69), (.int v305), (.int p1)])) (fun _ kt => XS.ifNo X76.here hx rfl (hb hby at_321) rfl ((if0 _ _).trans (tlt hc321).2.2.2) (XS.iloadN X76.here hx rfl (hb hby at_324) rfl (XS.iload X76.here hx rfl (hb hby at_325) rfl (XS.iload X76.here hx rfl (hb hby at_327) rfl (kt))))) ?_
      refine own_callS X76 hx hZ hown (hw _ (List.mem_of_getElem? (i := 68) rfl)) (hw _ (List.mem_of_getElem? (i := 69) rfl)) (hw _ (List.mem_of_getElem? (i := 4) rfl)) (hw _ (List.mem_of_getElem? (i := 70) rfl)) (by decide) (rm11 l Z a0 hw [] p1 v305 v69 T76.heap n0) rfl (by decide) (by decide) (by decide) (by decide) (by rw [hml]; rfl) (argsL := [(.int p1), (.int v305), (.int v69)]) (rest := []) (lenOf own_pd1 rfl) rfl (W := 0) (Nat.le_of_eq rfl) (hb hby at_329) ?_
      intro T79 r79 L79 X79 hQ79
      obtain ⟨rfl, Nq79, e79⟩ := hQ79
      have N79 := Fr.app N76 Nq79
      by_cases hc332 : (own_f11 p1 v305 v69) = (0 : Int32)
      · refine own_run (g' := (mkF m 338 #[.val (.int p0), .val (.int p1), .val (.int p2), .val (.int p3), .val (.int p4), .val (.int v3), .val (.int v10), .val (.int v17), .val (.ref b1), .val (.int v56), .val (.int v64), .val (.int v69), .val (.int (1 : Int32)), .val (.int (0 : Int32)), .val (.ref b46), .val (.int v126), .val (.int v108), .val (.ref b49), .val (.ref b54), .val (.ref b73), .val (.int v305), .val (.int v317), .unset] [(.int (1 : Int32)), (.int v317)])) (fun _ kt => XS.ifNo X79.here hx rfl (hb hby at_332) rfl ((if0 _ _).trans (teq hc332).2) (XS.iload X79.here hx rfl (hb hby at_335) rfl (XS.iconst X79.here hx rfl (hb hby at_337) (kt)))) ?_
        by_cases hc338 : (1 : Int32) < v317
        · refine own_run (g' := (mkF m 348 #[.val (.int p0), .val (.int p1), .val (.int p2), .val (.int p3), .val (.int p4), .val (.int v3), .val (.int v10), .val (.int v17), .val (.ref b1), .val (.int v56), .val (.int v64), .val (.int v69), .val (.int (1 : Int32)), .val (.int (0 : Int32)), .val (.ref b46), .val (.int v126), .val (.int v108), .val (.ref b49), .val (.ref b54), .val (.ref b73), .val (.int v305), .val (.int v317), .unset] [(.int v69), (.int (v305 + (1 : Int32))), (.int p1)])) (fun _ kt => XS.icmpNo X79.here hx rfl (hb hby at_338) rfl ((tlt hc338).2.2.2) (XS.iloadN X79.here hx rfl (hb hby at_341) rfl (XS.iload X79.here hx rfl (hb hby at_342) rfl (XS.iconst X79.here hx rfl (hb hby at_344) (XS.iadd X79.here hx rfl (hb hby at_345) rfl (XS.iload X79.here hx rfl (hb hby at_346) rfl (kt))))))) ?_
          refine own_callS X79 hx hZ hown (hw _ (List.mem_of_getElem? (i := 68) rfl)) (hw _ (List.mem_of_getElem? (i := 69) rfl)) (hw _ (List.mem_of_getElem? (i := 4) rfl)) (hw _ (List.mem_of_getElem? (i := 70) rfl)) (by decide) (rm11 l Z a0 hw [] p1 (v305 + (1 : Int32)) v69 T76.heap n0) e79 (by decide) (by decide) (by decide) (by decide) (by rw [hml]; rfl) (argsL := [(.int p1), (.int (v305 + (1 : Int32))), (.int v69)]) (rest := []) (lenOf own_pd1 rfl) rfl (W := 0) (Nat.le_of_eq rfl) (hb hby at_348) ?_
          intro T80 r80 L80 X80 hQ80
          obtain ⟨rfl, Nq80, e80⟩ := hQ80
          have N80 := Fr.app N79 Nq80
          by_cases hc351 : (own_f11 p1 (v305 + (1 : Int32)) v69) = (0 : Int32)
          · refine own_run (g' := (mkF m 357 #[.val (.int p0), .val (.int p1), .val (.int p2), .val (.int p3), .val (.int p4), .val (.int v3), .val (.int v10), .val (.int v17), .val (.ref b1), .val (.int v56), .val (.int v64), .val (.int v69), .val (.int (1 : Int32)), .val (.int (0 : Int32)), .val (.ref b46), .val (.int v126), .val (.int v108), .val (.ref b49), .val (.ref b54), .val (.ref b73), .val (.int v305), .val (.int v317), .unset] [(.int (2 : Int32)), (.int v317)])) (fun _ kt => XS.ifNo X80.here hx rfl (hb hby at_351) rfl ((if0 _ _).trans (teq hc351).2) (XS.iload X80.here hx rfl (hb hby at_354) rfl (XS.iconst X80.here hx rfl (hb hby at_356) (kt)))) ?_
            by_cases hc357 : (2 : Int32) < v317
            · refine own_run (g' := (mkF m 367 #[.val (.int p0), .val (.int p1), .val (.int p2), .val (.int p3), .val (.int p4), .val (.int v3), .val (.int v10), .val (.int v17), .val (.ref b1), .val (.int v56), .val (.int v64), .val (.int v69), .val (.int (1 : Int32)), .val (.int (0 : Int32)), .val (.ref b46), .val (.int v126), .val (.int v108), .val (.ref b49), .val (.ref b54), .val (.ref b73), .val (.int v305), .val (.int v317), .unset] [(.int v69), (.int (v305 + (2 : Int32))), (.int p1)])) (fun _ kt => XS.icmpNo X80.here hx rfl (hb hby at_357) rfl ((tlt hc357).2.2.2) (XS.iloadN X80.here hx rfl (hb hby at_360) rfl (XS.iload X80.here hx rfl (hb hby at_361) rfl (XS.iconst X80.here hx rfl (hb hby at_363) (XS.iadd X80.here hx rfl (hb hby at_364) rfl (XS.iload X80.here hx rfl (hb hby at_365) rfl (kt))))))) ?_
              refine own_callS X80 hx hZ hown (hw _ (List.mem_of_getElem? (i := 68) rfl)) (hw _ (List.mem_of_getElem? (i := 69) rfl)) (hw _ (List.mem_of_getElem? (i := 4) rfl)) (hw _ (List.mem_of_getElem? (i := 70) rfl)) (by decide) (rm11 l Z a0 hw [] p1 (v305 + (2 : Int32)) v69 T76.heap n0) e80 (by decide) (by decide) (by decide) (by decide) (by rw [hml]; rfl) (argsL := [(.int p1), (.int (v305 + (2 : Int32))), (.int v69)]) (rest := []) (lenOf own_pd1 rfl) rfl (W := 0) (Nat.le_of_eq rfl) (hb hby at_367) ?_
              intro T81 r81 L81 X81 hQ81
              obtain ⟨rfl, Nq81, e81⟩ := hQ81
              have N81 := Fr.app N80 Nq81
              by_cases hc370 : (own_f11 p1 (v305 + (2 : Int32)) v69) = (0 : Int32)
              · refine own_run (g' := (mkF m 378 #[.val (.int p0), .val (.int p1), .val (.int p2), .val (.int p3), .val (.int p4), .val (.int v3), .val (.int v10), .val (.int v17), .val (.ref b1), .val (.int v56), .val (.int v64), .val (.int v69), .val (.int (1 : Int32)), .val (.int (0 : Int32)), .val (.ref b46), .val (.int v126), .val (.int v108), .val (.ref b49), .val (.ref b54), .val (.ref b73), .val (.int v305), .val (.int v317), .unset] [(.int (0 : Int32))])) (fun _ kt => XS.ifYes X81.here hx rfl (pc0 := 370) (pc' := 377) rfl (hb hby at_370) rfl ((if0 _ _).trans (teq hc370).1) (by decide) (by decide) (XS.iconst X81.here hx rfl (hb hby at_377) (kt))) ?_
                exact J77 T81 _ (0 : Int32) X81 N81 e81 (by rw [if_pos hc321, if_pos hc332, if_pos hc338, if_pos hc351, if_pos hc357, if_pos hc370])
              · refine own_run (g' := (mkF m 378 #[.val (.int p0), .val (.int p1), .val (.int p2), .val (.int p3), .val (.int p4), .val (.int v3), .val (.int v10), .val (.int v17), .val (.ref b1), .val (.int v56), .val (.int v64), .val (.int v69), .val (.int (1 : Int32)), .val (.int (0 : Int32)), .val (.ref b46), .val (.int v126), .val (.int v108), .val (.ref b49), .val (.ref b54), .val (.ref b73), .val (.int v305), .val (.int v317), .unset] [(.int (1 : Int32))])) (fun _ kt => XS.ifNo X81.here hx rfl (hb hby at_370) rfl ((if0 _ _).trans (feq hc370).1) (XS.iconst X81.here hx rfl (hb hby at_373) (XS.goto X81.here hx rfl (pc0 := 374) (pc' := 378) rfl (hb hby at_374) (by decide) (by decide) (kt)))) ?_
                exact J77 T81 _ (1 : Int32) X81 N81 e81 (by rw [if_pos hc321, if_pos hc332, if_pos hc338, if_pos hc351, if_pos hc357, if_neg hc370])
            · refine own_run (g' := (mkF m 378 #[.val (.int p0), .val (.int p1), .val (.int p2), .val (.int p3), .val (.int p4), .val (.int v3), .val (.int v10), .val (.int v17), .val (.ref b1), .val (.int v56), .val (.int v64), .val (.int v69), .val (.int (1 : Int32)), .val (.int (0 : Int32)), .val (.ref b46), .val (.int v126), .val (.int v108), .val (.ref b49), .val (.ref b54), .val (.ref b73), .val (.int v305), .val (.int v317), .unset] [(.int (0 : Int32))])) (fun _ kt => XS.icmpYes X80.here hx rfl (pc0 := 357) (pc' := 377) rfl (hb hby at_357) rfl ((flt hc357).2.2.2) (by decide) (by decide) (XS.iconst X80.here hx rfl (hb hby at_377) (kt))) ?_
              exact J77 T80 _ (0 : Int32) X80 N80 e80 (by rw [if_pos hc321, if_pos hc332, if_pos hc338, if_pos hc351, if_neg hc357])
          · refine own_run (g' := (mkF m 378 #[.val (.int p0), .val (.int p1), .val (.int p2), .val (.int p3), .val (.int p4), .val (.int v3), .val (.int v10), .val (.int v17), .val (.ref b1), .val (.int v56), .val (.int v64), .val (.int v69), .val (.int (1 : Int32)), .val (.int (0 : Int32)), .val (.ref b46), .val (.int v126), .val (.int v108), .val (.ref b49), .val (.ref b54), .val (.ref b73), .val (.int v305), .val (.int v317), .unset] [(.int (1 : Int32))])) (fun _ kt => XS.ifYes X80.here hx rfl (pc0 := 351) (pc' := 373) rfl (hb hby at_351) rfl ((if0 _ _).trans (feq hc351).2) (by decide) (by decide) (XS.iconst X80.here hx rfl (hb hby at_373) (XS.goto X80.here hx rfl (pc0 := 374) (pc' := 378) rfl (hb hby at_374) (by decide) (by decide) (kt)))) ?_
            exact J77 T80 _ (1 : Int32) X80 N80 e80 (by rw [if_pos hc321, if_pos hc332, if_pos hc338, if_neg hc351])
        · refine own_run (g' := (mkF m 357 #[.val (.int p0), .val (.int p1), .val (.int p2), .val (.int p3), .val (.int p4), .val (.int v3), .val (.int v10), .val (.int v17), .val (.ref b1), .val (.int v56), .val (.int v64), .val (.int v69), .val (.int (1 : Int32)), .val (.int (0 : Int32)), .val (.ref b46), .val (.int v126), .val (.int v108), .val (.ref b49), .val (.ref b54), .val (.ref b73), .val (.int v305), .val (.int v317), .unset] [(.int (2 : Int32)), (.int v317)])) (fun _ kt => XS.icmpYes X79.here hx rfl (pc0 := 338) (pc' := 354) rfl (hb hby at_338) rfl ((flt hc338).2.2.2) (by decide) (by decide) (XS.iload X79.here hx rfl (hb hby at_354) rfl (XS.iconst X79.here hx rfl (hb hby at_356) (kt)))) ?_
          by_cases hc357 : (2 : Int32) < v317
          · refine own_run (g' := (mkF m 367 #[.val (.int p0), .val (.int p1), .val (.int p2), .val (.int p3), .val (.int p4), .val (.int v3), .val (.int v10), .val (.int v17), .val (.ref b1), .val (.int v56), .val (.int v64), .val (.int v69), .val (.int (1 : Int32)), .val (.int (0 : Int32)), .val (.ref b46), .val (.int v126), .val (.int v108), .val (.ref b49), .val (.ref b54), .val (.ref b73), .val (.int v305), .val (.int v317), .unset] [(.int v69), (.int (v305 + (2 : Int32))), (.int p1)])) (fun _ kt => XS.icmpNo X79.here hx rfl (hb hby at_357) rfl ((tlt hc357).2.2.2) (XS.iloadN X79.here hx rfl (hb hby at_360) rfl (XS.iload X79.here hx rfl (hb hby at_361) rfl (XS.iconst X79.here hx rfl (hb hby at_363) (XS.iadd X79.here hx rfl (hb hby at_364) rfl (XS.iload X79.here hx rfl (hb hby at_365) rfl (kt))))))) ?_
            refine own_callS X79 hx hZ hown (hw _ (List.mem_of_getElem? (i := 68) rfl)) (hw _ (List.mem_of_getElem? (i := 69) rfl)) (hw _ (List.mem_of_getElem? (i := 4) rfl)) (hw _ (List.mem_of_getElem? (i := 70) rfl)) (by decide) (rm11 l Z a0 hw [] p1 (v305 + (2 : Int32)) v69 T76.heap n0) e79 (by decide) (by decide) (by decide) (by decide) (by rw [hml]; rfl) (argsL := [(.int p1), (.int (v305 + (2 : Int32))), (.int v69)]) (rest := []) (lenOf own_pd1 rfl) rfl (W := 0) (Nat.le_of_eq rfl) (hb hby at_367) ?_
            intro T82 r82 L82 X82 hQ82
            obtain ⟨rfl, Nq82, e82⟩ := hQ82
            have N82 := Fr.app N79 Nq82
            by_cases hc370 : (own_f11 p1 (v305 + (2 : Int32)) v69) = (0 : Int32)
            · refine own_run (g' := (mkF m 378 #[.val (.int p0), .val (.int p1), .val (.int p2), .val (.int p3), .val (.int p4), .val (.int v3), .val (.int v10), .val (.int v17), .val (.ref b1), .val (.int v56), .val (.int v64), .val (.int v69), .val (.int (1 : Int32)), .val (.int (0 : Int32)), .val (.ref b46), .val (.int v126), .val (.int v108), .val (.ref b49), .val (.ref b54), .val (.ref b73), .val (.int v305), .val (.int v317), .unset] [(.int (0 : Int32))])) (fun _ kt => XS.ifYes X82.here hx rfl (pc0 := 370) (pc' := 377) rfl (hb hby at_370) rfl ((if0 _ _).trans (teq hc370).1) (by decide) (by decide) (XS.iconst X82.here hx rfl (hb hby at_377) (kt))) ?_
              exact J77 T82 _ (0 : Int32) X82 N82 e82 (by rw [if_pos hc321, if_pos hc332, if_neg hc338, if_pos hc357, if_pos hc370])
            · refine own_run (g' := (mkF m 378 #[.val (.int p0), .val (.int p1), .val (.int p2), .val (.int p3), .val (.int p4), .val (.int v3), .val (.int v10), .val (.int v17), .val (.ref b1), .val (.int v56), .val (.int v64), .val (.int v69), .val (.int (1 : Int32)), .val (.int (0 : Int32)), .val (.ref b46), .val (.int v126), .val (.int v108), .val (.ref b49), .val (.ref b54), .val (.ref b73), .val (.int v305), .val (.int v317), .unset] [(.int (1 : Int32))])) (fun _ kt => XS.ifNo X82.here hx rfl (hb hby at_370) rfl ((if0 _ _).trans (feq hc370).1) (XS.iconst X82.here hx rfl (hb hby at_373) (XS.goto X82.here hx rfl (pc0 := 374) (pc' := 378) rfl (hb hby at_374) (by decide) (by decide) (kt)))) ?_
              exact J77 T82 _ (1 : Int32) X82 N82 e82 (by rw [if_pos hc321, if_pos hc332, if_neg hc338, if_pos hc357, if_neg hc370])
          · refine own_run (g' := (mkF m 378 #[.val (.int p0), .val (.int p1), .val (.int p2), .val (.int p3), .val (.int p4), .val (.int v3), .val (.int v10), .val (.int v17), .val (.ref b1), .val (.int v56), .val (.int v64), .val (.int v69), .val (.int (1 : Int32)), .val (.int (0 : Int32)), .val (.ref b46), .val (.int v126), .val (.int v108), .val (.ref b49), .val (.ref b54), .val (.ref b73), .val (.int v305), .val (.int v317), .unset] [(.int (0 : Int32))])) (fun _ kt => XS.icmpYes X79.here hx rfl (pc0 := 357) (pc' := 377) rfl (hb hby at_357) rfl ((flt hc357).2.2.2) (by decide) (by decide) (XS.iconst X79.here hx rfl (hb hby at_377) (kt))) ?_
            exact J77 T79 _ (0 : Int32) X79 N79 e79 (by rw [if_pos hc321, if_pos hc332, if_neg hc338, if_neg hc357])
      · refine own_run (g' := (mkF m 378 #[.val (.int p0), .val (.int p1), .val (.int p2), .val (.int p3), .val (.int p4), .val (.int v3), .val (.int v10), .val (.int v17), .val (.ref b1), .val (.int v56), .val (.int v64), .val (.int v69), .val (.int (1 : Int32)), .val (.int (0 : Int32)), .val (.ref b46), .val (.int v126), .val (.int v108), .val (.ref b49), .val (.ref b54), .val (.ref b73), .val (.int v305), .val (.int v317), .unset] [(.int (1 : Int32))])) (fun _ kt => XS.ifYes X79.here hx rfl (pc0 := 332) (pc' := 373) rfl (hb hby at_332) rfl ((if0 _ _).trans (feq hc332).2) (by decide) (by decide) (XS.iconst X79.here hx rfl (hb hby at_373) (XS.goto X79.here hx rfl (pc0 := 374) (pc' := 378) rfl (hb hby at_374) (by decide) (by decide) (kt)))) ?_
        exact J77 T79 _ (1 : Int32) X79 N79 e79 (by rw [if_pos hc321, if_neg hc332])
    · refine own_run (g' := (mkF m 338 #[.val (.int p0), .val (.int p1), .val (.int p2), .val (.int p3), .val (.int p4), .val (.int v3), .val (.int v10), .val (.int v17), .val (.ref b1), .val (.int v56), .val (.int v64), .val (.int v69), .val (.int (1 : Int32)), .val (.int (0 : Int32)), .val (.ref b46), .val (.int v126), .val (.int v108), .val (.ref b49), .val (.ref b54), .val (.ref b73), .val (.int v305), .val (.int v317), .unset] [(.int (1 : Int32)), (.int v317)])) (fun _ kt => XS.ifYes X76.here hx rfl (pc0 := 321) (pc' := 335) rfl (hb hby at_321) rfl ((if0 _ _).trans (flt hc321).2.2.2) (by decide) (by decide) (XS.iload X76.here hx rfl (hb hby at_335) rfl (XS.iconst X76.here hx rfl (hb hby at_337) (kt)))) ?_
      by_cases hc338 : (1 : Int32) < v317
      · refine own_run (g' := (mkF m 348 #[.val (.int p0), .val (.int p1), .val (.int p2), .val (.int p3), .val (.int p4), .val (.int v3), .val (.int v10), .val (.int v17), .val (.ref b1), .val (.int v56), .val (.int v64), .val (.int v69), .val (.int (1 : Int32)), .val (.int (0 : Int32)), .val (.ref b46), .val (.int v126), .val (.int v108), .val (.ref b49), .val (.ref b54), .val (.ref b73), .val (.int v305), .val (.int v317), .unset] [(.int v69), (.int (v305 + (1 : Int32))), (.int p1)])) (fun _ kt => XS.icmpNo X76.here hx rfl (hb hby at_338) rfl ((tlt hc338).2.2.2) (XS.iloadN X76.here hx rfl (hb hby at_341) rfl (XS.iload X76.here hx rfl (hb hby at_342) rfl (XS.iconst X76.here hx rfl (hb hby at_344) (XS.iadd X76.here hx rfl (hb hby at_345) rfl (XS.iload X76.here hx rfl (hb hby at_346) rfl (kt))))))) ?_
        refine own_callS X76 hx hZ hown (hw _ (List.mem_of_getElem? (i := 68) rfl)) (hw _ (List.mem_of_getElem? (i := 69) rfl)) (hw _ (List.mem_of_getElem? (i := 4) rfl)) (hw _ (List.mem_of_getElem? (i := 70) rfl)) (by decide) (rm11 l Z a0 hw [] p1 (v305 + (1 : Int32)) v69 T76.heap n0) rfl (by decide) (by decide) (by decide) (by decide) (by rw [hml]; rfl) (argsL := [(.int p1), (.int (v305 + (1 : Int32))), (.int v69)]) (rest := []) (lenOf own_pd1 rfl) rfl (W := 0) (Nat.le_of_eq rfl) (hb hby at_348) ?_
        intro T83 r83 L83 X83 hQ83
        obtain ⟨rfl, Nq83, e83⟩ := hQ83
        have N83 := Fr.app N76 Nq83
        by_cases hc351 : (own_f11 p1 (v305 + (1 : Int32)) v69) = (0 : Int32)
        · refine own_run (g' := (mkF m 357 #[.val (.int p0), .val (.int p1), .val (.int p2), .val (.int p3), .val (.int p4), .val (.int v3), .val (.int v10), .val (.int v17), .val (.ref b1), .val (.int v56), .val (.int v64), .val (.int v69), .val (.int (1 : Int32)), .val (.int (0 : Int32)), .val (.ref b46), .val (.int v126), .val (.int v108), .val (.ref b49), .val (.ref b54), .val (.ref b73), .val (.int v305), .val (.int v317), .unset] [(.int (2 : Int32)), (.int v317)])) (fun _ kt => XS.ifNo X83.here hx rfl (hb hby at_351) rfl ((if0 _ _).trans (teq hc351).2) (XS.iload X83.here hx rfl (hb hby at_354) rfl (XS.iconst X83.here hx rfl (hb hby at_356) (kt)))) ?_
          by_cases hc357 : (2 : Int32) < v317
          · refine own_run (g' := (mkF m 367 #[.val (.int p0), .val (.int p1), .val (.int p2), .val (.int p3), .val (.int p4), .val (.int v3), .val (.int v10), .val (.int v17), .val (.ref b1), .val (.int v56), .val (.int v64), .val (.int v69), .val (.int (1 : Int32)), .val (.int (0 : Int32)), .val (.ref b46), .val (.int v126), .val (.int v108), .val (.ref b49), .val (.ref b54), .val (.ref b73), .val (.int v305), .val (.int v317), .unset] [(.int v69), (.int (v305 + (2 : Int32))), (.int p1)])) (fun _ kt => XS.icmpNo X83.here hx rfl (hb hby at_357) rfl ((tlt hc357).2.2.2) (XS.iloadN X83.here hx rfl (hb hby at_360) rfl (XS.iload X83.here hx rfl (hb hby at_361) rfl (XS.iconst X83.here hx rfl (hb hby at_363) (XS.iadd X83.here hx rfl (hb hby at_364) rfl (XS.iload X83.here hx rfl (hb hby at_365) rfl (kt))))))) ?_
            refine own_callS X83 hx hZ hown (hw _ (List.mem_of_getElem? (i := 68) rfl)) (hw _ (List.mem_of_getElem? (i := 69) rfl)) (hw _ (List.mem_of_getElem? (i := 4) rfl)) (hw _ (List.mem_of_getElem? (i := 70) rfl)) (by decide) (rm11 l Z a0 hw [] p1 (v305 + (2 : Int32)) v69 T76.heap n0) e83 (by decide) (by decide) (by decide) (by decide) (by rw [hml]; rfl) (argsL := [(.int p1), (.int (v305 + (2 : Int32))), (.int v69)]) (rest := []) (lenOf own_pd1 rfl) rfl (W := 0) (Nat.le_of_eq rfl) (hb hby at_367) ?_
            intro T84 r84 L84 X84 hQ84
            obtain ⟨rfl, Nq84, e84⟩ := hQ84
            have N84 := Fr.app N83 Nq84
            by_cases hc370 : (own_f11 p1 (v305 + (2 : Int32)) v69) = (0 : Int32)
            · refine own_run (g' := (mkF m 378 #[.val (.int p0), .val (.int p1), .val (.int p2), .val (.int p3), .val (.int p4), .val (.int v3), .val (.int v10), .val (.int v17), .val (.ref b1), .val (.int v56), .val (.int v64), .val (.int v69), .val (.int (1 : Int32)), .val (.int (0 : Int32)), .val (.ref b46), .val (.int v126), .val (.int v108), .val (.ref b49), .val (.ref b54), .val (.ref b73), .val (.int v305), .val (.int v317), .unset] [(.int (0 : Int32))])) (fun _ kt => XS.ifYes X84.here hx rfl (pc0 := 370) (pc' := 377) rfl (hb hby at_370) rfl ((if0 _ _).trans (teq hc370).1) (by decide) (by decide) (XS.iconst X84.here hx rfl (hb hby at_377) (kt))) ?_
              exact J77 T84 _ (0 : Int32) X84 N84 e84 (by rw [if_neg hc321, if_pos hc338, if_pos hc351, if_pos hc357, if_pos hc370])
            · refine own_run (g' := (mkF m 378 #[.val (.int p0), .val (.int p1), .val (.int p2), .val (.int p3), .val (.int p4), .val (.int v3), .val (.int v10), .val (.int v17), .val (.ref b1), .val (.int v56), .val (.int v64), .val (.int v69), .val (.int (1 : Int32)), .val (.int (0 : Int32)), .val (.ref b46), .val (.int v126), .val (.int v108), .val (.ref b49), .val (.ref b54), .val (.ref b73), .val (.int v305), .val (.int v317), .unset] [(.int (1 : Int32))])) (fun _ kt => XS.ifNo X84.here hx rfl (hb hby at_370) rfl ((if0 _ _).trans (feq hc370).1) (XS.iconst X84.here hx rfl (hb hby at_373) (XS.goto X84.here hx rfl (pc0 := 374) (pc' := 378) rfl (hb hby at_374) (by decide) (by decide) (kt)))) ?_
              exact J77 T84 _ (1 : Int32) X84 N84 e84 (by rw [if_neg hc321, if_pos hc338, if_pos hc351, if_pos hc357, if_neg hc370])
          · refine own_run (g' := (mkF m 378 #[.val (.int p0), .val (.int p1), .val (.int p2), .val (.int p3), .val (.int p4), .val (.int v3), .val (.int v10), .val (.int v17), .val (.ref b1), .val (.int v56), .val (.int v64), .val (.int v69), .val (.int (1 : Int32)), .val (.int (0 : Int32)), .val (.ref b46), .val (.int v126), .val (.int v108), .val (.ref b49), .val (.ref b54), .val (.ref b73), .val (.int v305), .val (.int v317), .unset] [(.int (0 : Int32))])) (fun _ kt => XS.icmpYes X83.here hx rfl (pc0 := 357) (pc' := 377) rfl (hb hby at_357) rfl ((flt hc357).2.2.2) (by decide) (by decide) (XS.iconst X83.here hx rfl (hb hby at_377) (kt))) ?_
            exact J77 T83 _ (0 : Int32) X83 N83 e83 (by rw [if_neg hc321, if_pos hc338, if_pos hc351, if_neg hc357])
        · refine own_run (g' := (mkF m 378 #[.val (.int p0), .val (.int p1), .val (.int p2), .val (.int p3), .val (.int p4), .val (.int v3), .val (.int v10), .val (.int v17), .val (.ref b1), .val (.int v56), .val (.int v64), .val (.int v69), .val (.int (1 : Int32)), .val (.int (0 : Int32)), .val (.ref b46), .val (.int v126), .val (.int v108), .val (.ref b49), .val (.ref b54), .val (.ref b73), .val (.int v305), .val (.int v317), .unset] [(.int (1 : Int32))])) (fun _ kt => XS.ifYes X83.here hx rfl (pc0 := 351) (pc' := 373) rfl (hb hby at_351) rfl ((if0 _ _).trans (feq hc351).2) (by decide) (by decide) (XS.iconst X83.here hx rfl (hb hby at_373) (XS.goto X83.here hx rfl (pc0 := 374) (pc' := 378) rfl (hb hby at_374) (by decide) (by decide) (kt)))) ?_
          exact J77 T83 _ (1 : Int32) X83 N83 e83 (by rw [if_neg hc321, if_pos hc338, if_neg hc351])
      · refine own_run (g' := (mkF m 357 #[.val (.int p0), .val (.int p1), .val (.int p2), .val (.int p3), .val (.int p4), .val (.int v3), .val (.int v10), .val (.int v17), .val (.ref b1), .val (.int v56), .val (.int v64), .val (.int v69), .val (.int (1 : Int32)), .val (.int (0 : Int32)), .val (.ref b46), .val (.int v126), .val (.int v108), .val (.ref b49), .val (.ref b54), .val (.ref b73), .val (.int v305), .val (.int v317), .unset] [(.int (2 : Int32)), (.int v317)])) (fun _ kt => XS.icmpYes X76.here hx rfl (pc0 := 338) (pc' := 354) rfl (hb hby at_338) rfl ((flt hc338).2.2.2) (by decide) (by decide) (XS.iload X76.here hx rfl (hb hby at_354) rfl (XS.iconst X76.here hx rfl (hb hby at_356) (kt)))) ?_
        by_cases hc357 : (2 : Int32) < v317
        · refine own_run (g' := (mkF m 367 #[.val (.int p0), .val (.int p1), .val (.int p2), .val (.int p3), .val (.int p4), .val (.int v3), .val (.int v10), .val (.int v17), .val (.ref b1), .val (.int v56), .val (.int v64), .val (.int v69), .val (.int (1 : Int32)), .val (.int (0 : Int32)), .val (.ref b46), .val (.int v126), .val (.int v108), .val (.ref b49), .val (.ref b54), .val (.ref b73), .val (.int v305), .val (.int v317), .unset] [(.int v69), (.int (v305 + (2 : Int32))), (.int p1)])) (fun _ kt => XS.icmpNo X76.here hx rfl (hb hby at_357) rfl ((tlt hc357).2.2.2) (XS.iloadN X76.here hx rfl (hb hby at_360) rfl (XS.iload X76.here hx rfl (hb hby at_361) rfl (XS.iconst X76.here hx rfl (hb hby at_363) (XS.iadd X76.here hx rfl (hb hby at_364) rfl (XS.iload X76.here hx rfl (hb hby at_365) rfl (kt))))))) ?_
          refine own_callS X76 hx hZ hown (hw _ (List.mem_of_getElem? (i := 68) rfl)) (hw _ (List.mem_of_getElem? (i := 69) rfl)) (hw _ (List.mem_of_getElem? (i := 4) rfl)) (hw _ (List.mem_of_getElem? (i := 70) rfl)) (by decide) (rm11 l Z a0 hw [] p1 (v305 + (2 : Int32)) v69 T76.heap n0) rfl (by decide) (by decide) (by decide) (by decide) (by rw [hml]; rfl) (argsL := [(.int p1), (.int (v305 + (2 : Int32))), (.int v69)]) (rest := []) (lenOf own_pd1 rfl) rfl (W := 0) (Nat.le_of_eq rfl) (hb hby at_367) ?_
          intro T85 r85 L85 X85 hQ85
          obtain ⟨rfl, Nq85, e85⟩ := hQ85
          have N85 := Fr.app N76 Nq85
          by_cases hc370 : (own_f11 p1 (v305 + (2 : Int32)) v69) = (0 : Int32)
          · refine own_run (g' := (mkF m 378 #[.val (.int p0), .val (.int p1), .val (.int p2), .val (.int p3), .val (.int p4), .val (.int v3), .val (.int v10), .val (.int v17), .val (.ref b1), .val (.int v56), .val (.int v64), .val (.int v69), .val (.int (1 : Int32)), .val (.int (0 : Int32)), .val (.ref b46), .val (.int v126), .val (.int v108), .val (.ref b49), .val (.ref b54), .val (.ref b73), .val (.int v305), .val (.int v317), .unset] [(.int (0 : Int32))])) (fun _ kt => XS.ifYes X85.here hx rfl (pc0 := 370) (pc' := 377) rfl (hb hby at_370) rfl ((if0 _ _).trans (teq hc370).1) (by decide) (by decide) (XS.iconst X85.here hx rfl (hb hby at_377) (kt))) ?_
            exact J77 T85 _ (0 : Int32) X85 N85 e85 (by rw [if_neg hc321, if_neg hc338, if_pos hc357, if_pos hc370])
          · refine own_run (g' := (mkF m 378 #[.val (.int p0), .val (.int p1), .val (.int p2), .val (.int p3), .val (.int p4), .val (.int v3), .val (.int v10), .val (.int v17), .val (.ref b1), .val (.int v56), .val (.int v64), .val (.int v69), .val (.int (1 : Int32)), .val (.int (0 : Int32)), .val (.ref b46), .val (.int v126), .val (.int v108), .val (.ref b49), .val (.ref b54), .val (.ref b73), .val (.int v305), .val (.int v317), .unset] [(.int (1 : Int32))])) (fun _ kt => XS.ifNo X85.here hx rfl (hb hby at_370) rfl ((if0 _ _).trans (feq hc370).1) (XS.iconst X85.here hx rfl (hb hby at_373) (XS.goto X85.here hx rfl (pc0 := 374) (pc' := 378) rfl (hb hby at_374) (by decide) (by decide) (kt)))) ?_
            exact J77 T85 _ (1 : Int32) X85 N85 e85 (by rw [if_neg hc321, if_neg hc338, if_pos hc357, if_neg hc370])
        · refine own_run (g' := (mkF m 378 #[.val (.int p0), .val (.int p1), .val (.int p2), .val (.int p3), .val (.int p4), .val (.int v3), .val (.int v10), .val (.int v17), .val (.ref b1), .val (.int v56), .val (.int v64), .val (.int v69), .val (.int (1 : Int32)), .val (.int (0 : Int32)), .val (.ref b46), .val (.int v126), .val (.int v108), .val (.ref b49), .val (.ref b54), .val (.ref b73), .val (.int v305), .val (.int v317), .unset] [(.int (0 : Int32))])) (fun _ kt => XS.icmpYes X76.here hx rfl (pc0 := 357) (pc' := 377) rfl (hb hby at_357) rfl ((flt hc357).2.2.2) (by decide) (by decide) (XS.iconst X76.here hx rfl (hb hby at_377) (kt))) ?_
          exact J77 T76 _ (0 : Int32) X76 N76 rfl (by rw [if_neg hc321, if_neg hc338, if_neg hc357])
set_option maxRecDepth 65536 in
set_option maxHeartbeats 40000000 in
theorem comes_1 {Post : Tables → Env → Array Value → State → Outcome → State → Prop} (hpost : ∀ tb e args s v u, (limb_1_1.after args s (.returned v) u = true ∧ limb_1_2.after args s (.returned v) u = true ∧ True) → FrameEnd s (.returned v) u (Jvm.fieldLocs frame_1_writes args s ++ Jvm.arrayLocs frame_1_arrays args s ++ Jvm.staticLocs frame_1_statics s) 24 192 → Post tb e args s (.returned v) u) :
    ArmFor flags0 classFile x code maxLocals ret World_1 tables_1 room_1 Calls_1 rest_1 Pre_1 Post := by
  intro l hfl _ _ p e ha hc hk s m args below hf hA hF happ hP
  obtain ⟨hcalls, hrest, hpre⟩ := hP
  obtain ⟨-, -, -, hnamed, -, -, -, hat⟩ := (Spec.applies_iff hf).mp happ
  obtain ⟨hg, hn⟩ := and_e (Cond.before_iff.mp (show (Jvm.Cond.and given_1 narrow_1).before args s = true from hpre))
  obtain ⟨hcnt, g0⟩ := and_e hg
  obtain ⟨k0, g1⟩ := and_e g0
  obtain ⟨k1, g2⟩ := and_e g1
  obtain ⟨k2, g3⟩ := and_e g2
  obtain ⟨k3, g4⟩ := and_e g3
  obtain ⟨w0, w1, w2, w3, w4, rfl⟩ : ∃ w0 w1 w2 w3 w4 : Value, args = #[w0, w1, w2, w3, w4] := by
    have hs : args.size = 5 := by simpa [Cond.value, given_1] using hcnt
    obtain ⟨L⟩ := args
    match L, hs with
    | [w0, w1, w2, w3, w4], _ => exact ⟨w0, w1, w2, w3, w4, rfl⟩
  have hw := fun d (hd : d ∈ tables_1) => atoms_spec (ws := Jvm.Cond.code x code maxLocals ret :: tables_1) hat d (List.mem_cons_of_mem _ hd)
  obtain ⟨hsets, hown0⟩ := atoms_of _ (rest_1_c_eq ▸ (show rest_1_c.before _ s = true from hrest))
  obtain ⟨u0, eu0⟩ := exa_v (Cond.before_iff.mp (hsets _ (List.mem_of_getElem? (i := 7) rfl)))
  have S0 : Sta s s.heap "java/util/ArrayList" "DEFAULTCAPACITY_EMPTY_ELEMENTDATA" "[Ljava/lang/Object;" (.ref u0) := Sta.start eu0 (Or.inr ⟨hw _ (List.mem_of_getElem? (i := 17) rfl), hsets _ (List.mem_of_getElem? (i := 2) rfl)⟩)
  obtain ⟨i0, ei0⟩ := is_v k0
  obtain rfl : w0 = (.int i0) := Option.some.inj ei0
  obtain ⟨i1, ei1⟩ := is_v k1
  obtain rfl : w1 = (.int i1) := Option.some.inj ei1
  obtain ⟨i2, ei2⟩ := is_v k2
  obtain rfl : w2 = (.int i2) := Option.some.inj ei2
  obtain ⟨i3, ei3⟩ := is_v k3
  obtain rfl : w3 = (.int i3) := Option.some.inj ei3
  obtain ⟨i4, ei4⟩ := is_v g4
  obtain rfl : w4 = (.int i4) := Option.some.inj ei4
  obtain ⟨n, o, h1, h2, h3, _, L, rfl, ⟨rfl, N⟩, hq⟩ := rm0 l s _ hw tables_1 i0 i1 i2 i3 i4 u0 s.heap s.heap.size (Nat.le_refl _) S0 p e ha hc hk s m _ below hf ((Spec.applies_iff_loose hf).mp happ).1 ⟨rfl, State.Warmed39.refl s, rfl⟩ trivial
  refine ⟨n, _, h1, h2, h3, hpost _ _ _ _ _ _ ⟨Cond.after_iff.mpr rfl, Cond.after_iff.mpr (eq_i res_at (Term.int_eval (1)) rfl), trivial⟩ ⟨hq.1, hq.2.1, (hq.2.2.sift fun y hy => Or.inr (N y hy)).mono (by decide) (by decide)⟩⟩
theorem main_1_1 : Claimed_1_1 := comes_1 fun _ _ _ _ _ _ h hF => ⟨h.1, hF⟩
theorem main_1_2 : Claimed_1_2 := comes_1 fun _ _ _ _ _ _ h hF => ⟨h.2.1, hF⟩
end Jvm.Pilot.@@N@@
namespace Jvm.Pilot.@@N@@
open Jvm Jvm.ClassFile Sem Op Lib Jvm.Free Jvm.Stand Jvm.Pilot.@@N@@.Jvm.D
/-! MADE BY PROGRAM (witnessworld.py) out of the Statement's table words and the real class files: 18 classes; the members and pool entries that the words name. The judged class is class 1, her method 1. -/
namespace start1
open Jvm.ClassFile
def u (s : String) : CpInfo := .utf8 (stringToUtf16 s)
/-- a pool by its gaps: so many unusable entries, then the entry; so many at the end -/
def gap : Nat → List CpInfo → List CpInfo
  | 0, r => r
  | n + 1, r => .unusable :: gap n r
def poolList (es : List (Nat × CpInfo)) (last : Nat) : List CpInfo := es.foldr (fun e r => gap e.1 (e.2 :: r)) (gap last [])
def pool (es : List (Nat × CpInfo)) (last : Nat) : Array CpInfo := ⟨poolList es last⟩
def fileOf (pool : Array CpInfo) (this : Nat) (attrs : Array Attribute := #[]) (ms : Array MethodInfo := #[]) (fl : Nat := 33) (sup : Nat := 0) (ifs : Array Nat := #[]) (fds : Array FieldInfo := #[]) : ClassFile where
  minorVersion := 0
  majorVersion := 65
  constantPool := pool
  accessFlags := fl
  thisClass := this
  superClass := sup
  interfaces := ifs
  fields := fds
  methods := ms
  attributes := attrs
def plain (name : String) (sup : Option ClassId) : Class where
  name := name
  kind := .ordinary
  loader := none
  accessFlags := 33
  super := sup
  interfaces := #[]
  cf := none
  fields := #[]
  methods := #[]
  instanceTypes := #[]
  staticTypes := #[]
  resolved := #[]
  callSites := []
  init := .initialized
  statics := none
  mirror := none

def pool0 : Array CpInfo := pool [(5, u "<init>"), (0, u "()V"), (1, .class_ 10), (1, u "java/lang/Object")] 113

def k0c0 : Code := { maxStack := 0, maxLocals := 1, code := object_method_1_code, exceptionTable := #[], attributes := #[] }
def k0m0 : Method := { name := "<init>", desc := "()V", sig := { parameters := [], returnType := none }, accessFlags := 1, code := some k0c0 }
/-- java/lang/Object -/
def k0 : Class := { plain "java/lang/Object" none with
  accessFlags := 33
  interfaces := #[]
  cf := some (fileOf pool0 8 #[] #[{ accessFlags := 1, nameIndex := 5, descriptorIndex := 6, attributes := #[] }] 33 0 #[] #[])
  fields := #[]
  methods := #[k0m0]
  instanceTypes := #[]
  staticTypes := #[]
  resolved := Array.replicate 124 none
  statics := none }

def pool1 : Array CpInfo := pool [(2, .class_ 4), (0, .nameAndType 5 6), (0, u "java/lang/Object"), (0, u "<init>"), (0, u "()V"), (0, .integer 2147483647), (0, .methodref 9 10), (0, .class_ 11), (0, .nameAndType 12 13), (0, u "com/example/lugha/lugha/concepts/PageGroupsHasPinLaw"), (0, u "block"), (0, u "([IIIII)I"), (0, .methodref 9 15), (0, .nameAndType 16 17), (0, u "gp"), (0, u "(III)I"), (0, .class_ 19), (0, u "com/example/lugha/lugha/concepts/PageGroups"), (0, .class_ 21), (0, u "java/util/ArrayList"), (0, .methodref 20 3), (0, .methodref 18 24), (0, .nameAndType 5 25), (0, u "(Ljava/util/List;[ILjava/util/List;[I[I[II)V"), (0, .methodref 9 27), (0, .nameAndType 28 29), (0, u "in"), (0, u "(III)Z"), (0, .methodref 18 31), (0, .nameAndType 32 33), (0, u "has"), (0, u "(II)Z"), (0, .methodref 9 35), (0, .nameAndType 36 37), (0, u "put"), (0, u "([IIIIII)I"), (2, u "law"), (0, u "(IIIII)Z")] 5

def k1m0 : Method := { name := "<init>", desc := "()V", sig := { parameters := [], returnType := none }, accessFlags := 1, code := none }
def k1c1 : Code := { maxStack := 9, maxLocals := 23, code := code, exceptionTable := #[], attributes := #[] }
def k1m1 : Method := { name := "law", desc := "(IIIII)Z", sig := { parameters := [.int, .int, .int, .int, .int], returnType := some .boolean }, accessFlags := 9, code := some k1c1 }
def k1c2 : Code := { maxStack := 3, maxLocals := 3, code := method_3_code, exceptionTable := #[], attributes := #[] }
def k1m2 : Method := { name := "in", desc := "(III)Z", sig := { parameters := [.int, .int, .int], returnType := some .boolean }, accessFlags := 10, code := some k1c2 }
def k1c3 : Code := { maxStack := 3, maxLocals := 4, code := method_4_code, exceptionTable := #[], attributes := #[] }
def k1m3 : Method := { name := "gp", desc := "(III)I", sig := { parameters := [.int, .int, .int], returnType := some .int }, accessFlags := 10, code := some k1c3 }
def k1c4 : Code := { maxStack := 3, maxLocals := 6, code := method_5_code, exceptionTable := #[], attributes := #[] }
def k1m4 : Method := { name := "put", desc := "([IIIIII)I", sig := { parameters := [(.array .int), .int, .int, .int, .int, .int], returnType := some .int }, accessFlags := 10, code := some k1c4 }
def k1c5 : Code := { maxStack := 6, maxLocals := 5, code := method_6_code, exceptionTable := #[], attributes := #[] }
def k1m5 : Method := { name := "block", desc := "([IIIII)I", sig := { parameters := [(.array .int), .int, .int, .int, .int], returnType := some .int }, accessFlags := 10, code := some k1c5 }
/-- com/example/lugha/lugha/concepts/PageGroupsHasPinLaw -/
def k1 : Class := { plain "com/example/lugha/lugha/concepts/PageGroupsHasPinLaw" (some 0) with
  accessFlags := 49
  interfaces := #[]
  cf := some (fileOf pool1 9 #[] #[{ accessFlags := 1, nameIndex := 5, descriptorIndex := 6, attributes := #[] }, { accessFlags := 9, nameIndex := 40, descriptorIndex := 41, attributes := #[] }, { accessFlags := 10, nameIndex := 28, descriptorIndex := 29, attributes := #[] }, { accessFlags := 10, nameIndex := 16, descriptorIndex := 17, attributes := #[] }, { accessFlags := 10, nameIndex := 36, descriptorIndex := 37, attributes := #[] }, { accessFlags := 10, nameIndex := 12, descriptorIndex := 13, attributes := #[] }] 49 2 #[] #[])
  fields := #[]
  methods := #[k1m0, k1m1, k1m2, k1m3, k1m4, k1m5]
  instanceTypes := #[]
  staticTypes := #[]
  resolved := Array.replicate 47 none
  statics := none }

def pool2 : Array CpInfo := pool [(1, .methodref 2 3), (0, .class_ 4), (0, .nameAndType 5 6), (0, u "java/lang/Object"), (0, u "<init>"), (0, u "()V"), (0, .fieldref 8 9), (0, .class_ 10), (0, .nameAndType 11 12), (0, u "com/example/lugha/lugha/concepts/PageGroups"), (0, u "tables"), (0, u "Ljava/util/List;"), (0, .fieldref 8 14), (0, .nameAndType 15 16), (0, u "offsets"), (0, u "[I"), (0, .fieldref 8 18), (0, .nameAndType 19 12), (0, u "ids"), (0, .fieldref 8 21), (0, .nameAndType 22 16), (0, u "ranges"), (0, .fieldref 8 24), (0, .nameAndType 25 16), (0, u "members"), (0, .fieldref 8 27), (0, .nameAndType 28 16), (0, u "groupOfPage"), (0, .fieldref 8 30), (0, .nameAndType 31 32), (0, u "fewLanguages"), (0, u "I"), (29, .methodref 8 63), (0, .nameAndType 64 65), (0, u "editionFrom"), (0, u "(II)I"), (26, u "(Ljava/util/List;[ILjava/util/List;[I[I[II)V"), (9, u "has"), (0, u "(II)Z")] 7

def k2c0 : Code := { maxStack := 2, maxLocals := 8, code := prog_4_method_1_code, exceptionTable := #[], attributes := #[] }
def k2m0 : Method := { name := "<init>", desc := "(Ljava/util/List;[ILjava/util/List;[I[I[II)V", sig := { parameters := [(.object "java/util/List"), (.array .int), (.object "java/util/List"), (.array .int), (.array .int), (.array .int), .int], returnType := none }, accessFlags := 0, code := some k2c0 }
def k2c1 : Code := { maxStack := 5, maxLocals := 3, code := prog_4_method_6_code, exceptionTable := #[], attributes := #[] }
def k2m1 : Method := { name := "has", desc := "(II)Z", sig := { parameters := [.int, .int], returnType := some .boolean }, accessFlags := 0, code := some k2c1 }
def k2c2 : Code := { maxStack := 4, maxLocals := 5, code := prog_4_method_8_code, exceptionTable := #[], attributes := #[] }
def k2m2 : Method := { name := "editionFrom", desc := "(II)I", sig := { parameters := [.int, .int], returnType := some .int }, accessFlags := 2, code := some k2c2 }
/-- com/example/lugha/lugha/concepts/PageGroups -/
def k2 : Class := { plain "com/example/lugha/lugha/concepts/PageGroups" (some 0) with
  accessFlags := 48
  interfaces := #[]
  cf := some (fileOf pool2 8 #[] #[{ accessFlags := 0, nameIndex := 5, descriptorIndex := 92, attributes := #[] }, { accessFlags := 0, nameIndex := 102, descriptorIndex := 103, attributes := #[] }, { accessFlags := 2, nameIndex := 64, descriptorIndex := 65, attributes := #[] }] 48 2 #[] #[{ accessFlags := 18, nameIndex := 11, descriptorIndex := 12, attributes := #[] }, { accessFlags := 18, nameIndex := 15, descriptorIndex := 16, attributes := #[] }, { accessFlags := 18, nameIndex := 19, descriptorIndex := 12, attributes := #[] }, { accessFlags := 18, nameIndex := 22, descriptorIndex := 16, attributes := #[] }, { accessFlags := 18, nameIndex := 25, descriptorIndex := 16, attributes := #[] }, { accessFlags := 18, nameIndex := 28, descriptorIndex := 16, attributes := #[] }, { accessFlags := 18, nameIndex := 31, descriptorIndex := 32, attributes := #[] }])
  fields := #[{ name := "tables", type := (.object "java/util/List"), accessFlags := 18, slot := 0, constantValue := 0 }, { name := "offsets", type := (.array .int), accessFlags := 18, slot := 1, constantValue := 0 }, { name := "ids", type := (.object "java/util/List"), accessFlags := 18, slot := 2, constantValue := 0 }, { name := "ranges", type := (.array .int), accessFlags := 18, slot := 3, constantValue := 0 }, { name := "members", type := (.array .int), accessFlags := 18, slot := 4, constantValue := 0 }, { name := "groupOfPage", type := (.array .int), accessFlags := 18, slot := 5, constantValue := 0 }, { name := "fewLanguages", type := .int, accessFlags := 18, slot := 6, constantValue := 0 }]
  methods := #[k2m0, k2m1, k2m2]
  instanceTypes := #[(.object "java/util/List"), (.array .int), (.object "java/util/List"), (.array .int), (.array .int), (.array .int), .int]
  staticTypes := #[]
  resolved := Array.replicate 111 none
  statics := none }

def pool3 : Array CpInfo := pool [(8, .class_ 10), (1, u "java/lang/Iterable"), (24, .class_ 36), (0, u "java/lang/Object")] 25

/-- java/lang/Iterable -/
def k3 : Class := { plain "java/lang/Iterable" (some 0) with
  accessFlags := 1537
  interfaces := #[]
  cf := some (fileOf pool3 8 #[] #[] 1537 35 #[] #[])
  fields := #[]
  methods := #[]
  instanceTypes := #[]
  staticTypes := #[]
  resolved := Array.replicate 62 none
  statics := none }

def pool4 : Array CpInfo := pool [(10, .class_ 12), (1, u "java/util/Collection"), (47, .class_ 61), (0, u "java/lang/Object"), (0, .class_ 63), (0, u "java/lang/Iterable")] 51

/-- java/util/Collection -/
def k4 : Class := { plain "java/util/Collection" (some 0) with
  accessFlags := 1537
  interfaces := #[3]
  cf := some (fileOf pool4 10 #[] #[] 1537 60 #[62] #[])
  fields := #[]
  methods := #[]
  instanceTypes := #[]
  staticTypes := #[]
  resolved := Array.replicate 115 none
  statics := none }

def pool5 : Array CpInfo := pool [(1, .methodref 2 3), (0, .class_ 4), (0, .nameAndType 5 6), (0, u "java/lang/Object"), (0, u "<init>"), (0, u "()V"), (1, .class_ 10), (1, u "java/util/AbstractCollection"), (66, .class_ 78), (0, u "java/util/Collection")] 81

def k5c0 : Code := { maxStack := 1, maxLocals := 1, code := jdk_22_method_1_code, exceptionTable := #[], attributes := #[] }
def k5m0 : Method := { name := "<init>", desc := "()V", sig := { parameters := [], returnType := none }, accessFlags := 4, code := some k5c0 }
/-- java/util/AbstractCollection -/
def k5 : Class := { plain "java/util/AbstractCollection" (some 0) with
  accessFlags := 1057
  interfaces := #[4]
  cf := some (fileOf pool5 8 #[] #[{ accessFlags := 4, nameIndex := 5, descriptorIndex := 6, attributes := #[] }] 1057 2 #[77] #[])
  fields := #[]
  methods := #[k5m0]
  instanceTypes := #[]
  staticTypes := #[]
  resolved := Array.replicate 160 none
  statics := none }

def pool6 : Array CpInfo := pool [(8, .class_ 10), (1, u "java/util/SequencedCollection"), (15, .class_ 27), (0, u "java/lang/Object"), (0, .class_ 29), (0, u "java/util/Collection")] 27

/-- java/util/SequencedCollection -/
def k6 : Class := { plain "java/util/SequencedCollection" (some 0) with
  accessFlags := 1537
  interfaces := #[4]
  cf := some (fileOf pool6 8 #[] #[] 1537 26 #[28] #[])
  fields := #[]
  methods := #[]
  instanceTypes := #[]
  staticTypes := #[]
  resolved := Array.replicate 57 none
  statics := none }

def pool7 : Array CpInfo := pool [(8, .class_ 10), (1, u "java/util/List"), (92, .class_ 104), (0, u "java/lang/Object"), (15, .class_ 121), (0, u "java/util/SequencedCollection")] 129

/-- java/util/List -/
def k7 : Class := { plain "java/util/List" (some 0) with
  accessFlags := 1537
  interfaces := #[6]
  cf := some (fileOf pool7 8 #[] #[] 1537 103 #[120] #[])
  fields := #[]
  methods := #[]
  instanceTypes := #[]
  staticTypes := #[]
  resolved := Array.replicate 251 none
  statics := none }

def pool8 : Array CpInfo := pool [(1, .methodref 2 3), (0, .class_ 4), (0, .nameAndType 5 6), (0, u "java/util/AbstractCollection"), (0, u "<init>"), (0, u "()V"), (0, .fieldref 8 9), (0, .class_ 10), (0, .nameAndType 11 12), (0, u "java/util/AbstractList"), (0, u "modCount"), (0, u "I"), (64, .class_ 78), (0, u "java/util/AbstractList$Itr"), (3, .class_ 83), (0, u "java/util/AbstractList$ListItr"), (9, .class_ 94), (0, u "java/util/AbstractList$RandomAccessSubList"), (3, .class_ 99), (0, u "java/util/AbstractList$SubList"), (33, .class_ 134), (0, u "java/util/List"), (73, .class_ 209), (0, u "java/util/AbstractList$SubList$1"), (0, .class_ 211), (0, u "java/util/AbstractList$RandomAccessSpliterator")] 6

def k8c0 : Code := { maxStack := 2, maxLocals := 1, code := jdk_39_method_1_code, exceptionTable := #[], attributes := #[] }
def k8m0 : Method := { name := "<init>", desc := "()V", sig := { parameters := [], returnType := none }, accessFlags := 4, code := some k8c0 }
/-- java/util/AbstractList -/
def k8 : Class := { plain "java/util/AbstractList" (some 5) with
  accessFlags := 1057
  interfaces := #[7]
  cf := some (fileOf pool8 8 #[.nestMembers #[93, 98, 208, 210, 82, 77]] #[{ accessFlags := 4, nameIndex := 5, descriptorIndex := 6, attributes := #[] }] 1057 2 #[133] #[{ accessFlags := 132, nameIndex := 11, descriptorIndex := 12, attributes := #[] }])
  fields := #[{ name := "modCount", type := .int, accessFlags := 132, slot := 0, constantValue := 0 }]
  methods := #[k8m0]
  instanceTypes := #[.int]
  staticTypes := #[]
  resolved := Array.replicate 218 none
  statics := none }

def pool9 : Array CpInfo := pool [(1, .class_ 2), (0, u "java/util/RandomAccess"), (0, .class_ 4), (0, u "java/lang/Object")] 2

/-- java/util/RandomAccess -/
def k9 : Class := { plain "java/util/RandomAccess" (some 0) with
  accessFlags := 1537
  interfaces := #[]
  cf := some (fileOf pool9 1 #[] #[] 1537 3 #[] #[])
  fields := #[]
  methods := #[]
  instanceTypes := #[]
  staticTypes := #[]
  resolved := Array.replicate 7 none
  statics := none }

def pool10 : Array CpInfo := pool [(1, .class_ 2), (0, u "java/lang/Cloneable"), (0, .class_ 4), (0, u "java/lang/Object")] 2

/-- java/lang/Cloneable -/
def k10 : Class := { plain "java/lang/Cloneable" (some 0) with
  accessFlags := 1537
  interfaces := #[]
  cf := some (fileOf pool10 1 #[] #[] 1537 3 #[] #[])
  fields := #[]
  methods := #[]
  instanceTypes := #[]
  staticTypes := #[]
  resolved := Array.replicate 7 none
  statics := none }

def pool11 : Array CpInfo := pool [(1, .class_ 2), (0, u "java/io/Serializable"), (0, .class_ 4), (0, u "java/lang/Object")] 2

/-- java/io/Serializable -/
def k11 : Class := { plain "java/io/Serializable" (some 0) with
  accessFlags := 1537
  interfaces := #[]
  cf := some (fileOf pool11 1 #[] #[] 1537 3 #[] #[])
  fields := #[]
  methods := #[]
  instanceTypes := #[]
  staticTypes := #[]
  resolved := Array.replicate 7 none
  statics := none }

def pool12 : Array CpInfo := pool [(1, .methodref 2 3), (0, .class_ 4), (0, .nameAndType 5 6), (0, u "java/util/AbstractList"), (0, u "<init>"), (0, u "()V"), (2, .fieldref 10 11), (0, .class_ 12), (0, .nameAndType 13 14), (0, u "java/util/ArrayList"), (0, u "elementData"), (0, u "[Ljava/lang/Object;"), (2, u "EMPTY_ELEMENTDATA"), (21, .fieldref 10 40), (0, .nameAndType 41 14), (0, u "DEFAULTCAPACITY_EMPTY_ELEMENTDATA"), (8, u "size"), (0, u "I"), (96, .class_ 149), (0, u "java/util/List"), (112, .class_ 263), (0, u "java/util/ArrayList$ListItr"), (3, .class_ 268), (0, u "java/util/ArrayList$Itr"), (7, .class_ 277), (0, u "java/util/ArrayList$SubList"), (12, .class_ 291), (0, u "java/util/ArrayList$ArrayListSpliterator"), (37, .class_ 330), (0, u "java/util/RandomAccess"), (0, .class_ 332), (0, u "java/lang/Cloneable"), (0, .class_ 334), (0, u "java/io/Serializable"), (0, u "serialVersionUID"), (0, u "J"), (3, u "DEFAULT_CAPACITY"), (159, .class_ 501), (0, u "java/util/ArrayList$SubList$2"), (0, .class_ 503), (0, u "java/util/ArrayList$SubList$1")] 5

def k12c0 : Code := { maxStack := 2, maxLocals := 1, code := jdk_38_method_2_code, exceptionTable := #[], attributes := #[] }
def k12m0 : Method := { name := "<init>", desc := "()V", sig := { parameters := [], returnType := none }, accessFlags := 1, code := some k12c0 }
/-- java/util/ArrayList -/
def k12 : Class := { plain "java/util/ArrayList" (some 8) with
  accessFlags := 33
  interfaces := #[7, 9, 10, 11]
  cf := some (fileOf pool12 10 #[.nestMembers #[290, 276, 500, 502, 262, 267]] #[{ accessFlags := 1, nameIndex := 5, descriptorIndex := 6, attributes := #[] }] 33 2 #[148, 329, 331, 333] #[{ accessFlags := 26, nameIndex := 335, descriptorIndex := 336, attributes := #[] }, { accessFlags := 26, nameIndex := 340, descriptorIndex := 51, attributes := #[] }, { accessFlags := 26, nameIndex := 17, descriptorIndex := 14, attributes := #[] }, { accessFlags := 26, nameIndex := 41, descriptorIndex := 14, attributes := #[] }, { accessFlags := 128, nameIndex := 13, descriptorIndex := 14, attributes := #[] }, { accessFlags := 2, nameIndex := 50, descriptorIndex := 51, attributes := #[] }])
  fields := #[{ name := "serialVersionUID", type := .long, accessFlags := 26, slot := 0, constantValue := 0 }, { name := "DEFAULT_CAPACITY", type := .int, accessFlags := 26, slot := 1, constantValue := 0 }, { name := "EMPTY_ELEMENTDATA", type := (.array (.object "java/lang/Object")), accessFlags := 26, slot := 2, constantValue := 0 }, { name := "DEFAULTCAPACITY_EMPTY_ELEMENTDATA", type := (.array (.object "java/lang/Object")), accessFlags := 26, slot := 3, constantValue := 0 }, { name := "elementData", type := (.array (.object "java/lang/Object")), accessFlags := 128, slot := 1, constantValue := 0 }, { name := "size", type := .int, accessFlags := 2, slot := 2, constantValue := 0 }]
  methods := #[k12m0]
  instanceTypes := #[.int, (.array (.object "java/lang/Object")), .int]
  staticTypes := #[.long, .int, (.array (.object "java/lang/Object")), (.array (.object "java/lang/Object"))]
  resolved := Array.replicate 509 none
  statics := some 0 }

/-- the primitive byte -/
def k13 : Class := { plain "byte" none with kind := .primitive 'B', accessFlags := 0x411 }
/-- [B -/
def k14 : Class := { plain "[B" (some 0) with kind := .array 13 .byte, interfaces := #[10, 11], accessFlags := 1041 }

/-- the primitive int -/
def k15 : Class := { plain "int" none with kind := .primitive 'I', accessFlags := 0x411 }
/-- [I -/
def k16 : Class := { plain "[I" (some 0) with kind := .array 15 .int, interfaces := #[10, 11], accessFlags := 1041 }

/-- [Ljava/lang/Object; -/
def k17 : Class := { plain "[Ljava/lang/Object;" (some 0) with kind := .array 0 (.object "java/lang/Object"), interfaces := #[10, 11], accessFlags := 1041 }

def heap : Heap := #[{ cls := 12, slots := #[.long 0, .int 0, .ref 1, .ref 2], vm := .statics 12 },
  { cls := 17, slots := #[], vm := .none },
  { cls := 17, slots := #[], vm := .none }]
def classes : Array Class := #[k0, k1, k2, k3, k4, k5, k6, k7, k8, k9, k10, k11, k12, k13, k14, k15, k16, k17]
def interned : List (Array UInt16 × Addr) := []
def slotsUsed : Nat := 4
def theMethod : MethodId := ⟨1, 1⟩
def args0 : Array Value := #[.int 27, .int 1, .int 2, .int 3, .int 4]
def aboutOver (below : List Frame) : State where
  vm := { classes := classes, interned := interned.toArray }
  heap := heap
  slotsUsed := slotsUsed
  threads := #[{ frames := .invoking theMethod args0 :: below }]
def below0 : List Frame := [.native { method := ⟨0, 0⟩, args := #[] }]
def about1 : State := aboutOver below0
def p0 : Program := .bare "" "" ""
def e0 : Env := launch0.env 0 0 0
theorem w_frames : about1.frames = Frame.invoking theMethod args0 :: below0 := rfl
set_option maxRecDepth 65536 in
theorem w_args : argsFit about1.vm theMethod args0 = true := by decide +kernel
set_option maxRecDepth 65536 in
theorem w_heap : heapFits about1 = true := by decide +kernel
set_option maxRecDepth 65536 in
theorem w_runnable : about1.curStatus? = some .runnable := by decide +kernel
set_option maxRecDepth 65536 in
theorem w_alone : about1.alone = true := by decide +kernel
set_option maxRecDepth 65536 in
theorem w_named : about1.methodNamed? x = some theMethod := by decide +kernel
set_option maxRecDepth 65536 in
theorem w_hears : about1.hears theMethod below0 = true := by decide +kernel
set_option maxRecDepth 65536 in
theorem w_ripe : about1.ripe theMethod args0 below0 = true := by decide +kernel
theorem w_running : about1.status = .running := rfl
set_option maxRecDepth 65536 in
theorem w_room : about1.hasRoom e0.platform room_1 = true :=
  launch0.hasRoom_least _ room_1 (by decide +kernel) (by decide +kernel) (by decide +kernel) (by decide +kernel) (by decide +kernel) (by decide +kernel)
theorem allAtoms_all (ts : List Jvm.Cond) (a : Array Jvm.Value) (st : Jvm.State) : (allAtoms ts).before a st = ts.all (fun c => c.before a st) := by
  induction ts with
  | nil => rfl
  | cons c t ih =>
    show (Jvm.Cond.and c (allAtoms t)).before a st = _
    rw [Jvm.Cond.before_and, ih, List.all_cons]
def words1 : List Jvm.Cond := Jvm.Cond.code x code maxLocals ret :: tables_1
/-- a 'code' word, met by the world's own term for the bytes: nothing is compared byte by byte -/
theorem code_word {y : MethodName} {bytes : ByteArray} {mx : Nat} {rt : Option FieldType} {a : Array Value} {s : State} {m : MethodId} {meth : Method} {c : Code} (h1 : s.methodNamed? y = some m) (h2 : s.vm.method? m = some meth) (h3 : meth.code = some c) (h4 : c.code = bytes)
    (h5 : (c.maxLocals == mx && c.exceptionTable.isEmpty && decide (c.maxStack ≤ mostOperands) && decide (meth.sig.returnType = rt) && !meth.locks && decide (parseMethodDescriptor y.desc = some meth.sig)) = true) : (Jvm.Cond.code y bytes mx rt).before a s = true := by
  simp only [Bool.and_eq_true, beq_iff_eq, Bool.not_eq_true', decide_eq_true_eq] at h5
  obtain ⟨⟨⟨⟨⟨g1, g2⟩, g3⟩, g4⟩, g5⟩, g6⟩ := h5
  simp [Cond.before, Cond.holds, Cond.value, h1, h2, h3, h4, g1, g2, g3, g4, g5, g6]
def isCode : Jvm.Cond → Bool
  | .code _ _ _ _ => true
  | _ => false
theorem all_split {L : List Jvm.Cond} {P : Jvm.Cond → Bool} (h1 : L.all (fun c => isCode c || P c) = true) (h2 : ∀ c ∈ L.filter isCode, P c = true) : L.all P = true := by
  refine List.all_eq_true.mpr fun c hc => ?_
  have h := List.all_eq_true.mp h1 c hc
  rcases Bool.eq_false_or_eq_true (isCode c) with hi | hi
  · exact h2 c (List.mem_filter.mpr ⟨hc, hi⟩)
  · simpa [hi] using h
set_option maxRecDepth 65536 in
theorem w_c0 : (Jvm.Cond.code x code maxLocals ret).before args0 about1 = true := code_word (m := ⟨1, 1⟩) (meth := k1m1) (c := k1c1) (by decide +kernel) rfl rfl rfl (by decide +kernel)
set_option maxRecDepth 65536 in
theorem w_c1 : (Jvm.Cond.code ({ cls := "com/example/lugha/lugha/concepts/PageGroupsHasPinLaw", name := "block", desc := "([IIIII)I" } : Jvm.MethodName) method_6_code (5 : Nat) (Option.some Jvm.ClassFile.FieldType.int)).before args0 about1 = true := code_word (m := ⟨1, 5⟩) (meth := k1m5) (c := k1c5) (by decide +kernel) rfl rfl rfl (by decide +kernel)
set_option maxRecDepth 65536 in
theorem w_c2 : (Jvm.Cond.code ({ cls := "com/example/lugha/lugha/concepts/PageGroupsHasPinLaw", name := "put", desc := "([IIIIII)I" } : Jvm.MethodName) method_5_code (6 : Nat) (Option.some Jvm.ClassFile.FieldType.int)).before args0 about1 = true := code_word (m := ⟨1, 4⟩) (meth := k1m4) (c := k1c4) (by decide +kernel) rfl rfl rfl (by decide +kernel)
set_option maxRecDepth 65536 in
theorem w_c3 : (Jvm.Cond.code ({ cls := "com/example/lugha/lugha/concepts/PageGroupsHasPinLaw", name := "gp", desc := "(III)I" } : Jvm.MethodName) method_4_code (4 : Nat) (Option.some Jvm.ClassFile.FieldType.int)).before args0 about1 = true := code_word (m := ⟨1, 3⟩) (meth := k1m3) (c := k1c3) (by decide +kernel) rfl rfl rfl (by decide +kernel)
set_option maxRecDepth 65536 in
theorem w_c4 : (Jvm.Cond.code ({ cls := "java/util/ArrayList", name := "<init>", desc := "()V" } : Jvm.MethodName) jdk_38_method_2_code (1 : Nat) (Option.none : Option Jvm.ClassFile.FieldType)).before args0 about1 = true := code_word (m := ⟨12, 0⟩) (meth := k12m0) (c := k12c0) (by decide +kernel) rfl rfl rfl (by decide +kernel)
set_option maxRecDepth 65536 in
theorem w_c5 : (Jvm.Cond.code ({ cls := "java/util/AbstractList", name := "<init>", desc := "()V" } : Jvm.MethodName) jdk_39_method_1_code (1 : Nat) (Option.none : Option Jvm.ClassFile.FieldType)).before args0 about1 = true := code_word (m := ⟨8, 0⟩) (meth := k8m0) (c := k8c0) (by decide +kernel) rfl rfl rfl (by decide +kernel)
set_option maxRecDepth 65536 in
theorem w_c6 : (Jvm.Cond.code ({ cls := "java/util/AbstractCollection", name := "<init>", desc := "()V" } : Jvm.MethodName) jdk_22_method_1_code (1 : Nat) (Option.none : Option Jvm.ClassFile.FieldType)).before args0 about1 = true := code_word (m := ⟨5, 0⟩) (meth := k5m0) (c := k5c0) (by decide +kernel) rfl rfl rfl (by decide +kernel)
set_option maxRecDepth 65536 in
theorem w_c7 : (Jvm.Cond.code ({ cls := "java/lang/Object", name := "<init>", desc := "()V" } : Jvm.MethodName) object_method_1_code (1 : Nat) (Option.none : Option Jvm.ClassFile.FieldType)).before args0 about1 = true := code_word (m := ⟨0, 0⟩) (meth := k0m0) (c := k0c0) (by decide +kernel) rfl rfl rfl (by decide +kernel)
set_option maxRecDepth 65536 in
theorem w_c8 : (Jvm.Cond.code ({ cls := "com/example/lugha/lugha/concepts/PageGroups", name := "<init>", desc := "(Ljava/util/List;[ILjava/util/List;[I[I[II)V" } : Jvm.MethodName) prog_4_method_1_code (8 : Nat) (Option.none : Option Jvm.ClassFile.FieldType)).before args0 about1 = true := code_word (m := ⟨2, 0⟩) (meth := k2m0) (c := k2c0) (by decide +kernel) rfl rfl rfl (by decide +kernel)
set_option maxRecDepth 65536 in
theorem w_c9 : (Jvm.Cond.code ({ cls := "com/example/lugha/lugha/concepts/PageGroups", name := "has", desc := "(II)Z" } : Jvm.MethodName) prog_4_method_6_code (3 : Nat) (Option.some Jvm.ClassFile.FieldType.boolean)).before args0 about1 = true := code_word (m := ⟨2, 1⟩) (meth := k2m1) (c := k2c1) (by decide +kernel) rfl rfl rfl (by decide +kernel)
set_option maxRecDepth 65536 in
theorem w_c10 : (Jvm.Cond.code ({ cls := "com/example/lugha/lugha/concepts/PageGroups", name := "editionFrom", desc := "(II)I" } : Jvm.MethodName) prog_4_method_8_code (5 : Nat) (Option.some Jvm.ClassFile.FieldType.int)).before args0 about1 = true := code_word (m := ⟨2, 2⟩) (meth := k2m2) (c := k2c2) (by decide +kernel) rfl rfl rfl (by decide +kernel)
set_option maxRecDepth 65536 in
theorem w_c11 : (Jvm.Cond.code ({ cls := "com/example/lugha/lugha/concepts/PageGroupsHasPinLaw", name := "in", desc := "(III)Z" } : Jvm.MethodName) method_3_code (3 : Nat) (Option.some Jvm.ClassFile.FieldType.boolean)).before args0 about1 = true := code_word (m := ⟨1, 2⟩) (meth := k1m2) (c := k1c2) (by decide +kernel) rfl rfl rfl (by decide +kernel)
def codes1 : List Jvm.Cond := [Jvm.Cond.code x code maxLocals ret, Jvm.Cond.code ({ cls := "com/example/lugha/lugha/concepts/PageGroupsHasPinLaw", name := "block", desc := "([IIIII)I" } : Jvm.MethodName) method_6_code (5 : Nat) (Option.some Jvm.ClassFile.FieldType.int), Jvm.Cond.code ({ cls := "com/example/lugha/lugha/concepts/PageGroupsHasPinLaw", name := "put", desc := "([IIIIII)I" } : Jvm.MethodName) method_5_code (6 : Nat) (Option.some Jvm.ClassFile.FieldType.int), Jvm.Cond.code ({ cls := "com/example/lugha/lugha/concepts/PageGroupsHasPinLaw", name := "gp", desc := "(III)I" } : Jvm.MethodName) method_4_code (4 : Nat) (Option.some Jvm.ClassFile.FieldType.int), Jvm.Cond.code ({ cls := "java/util/ArrayList", name := "<init>", desc := "()V" } : Jvm.MethodName) jdk_38_method_2_code (1 : Nat) (Option.none : Option Jvm.ClassFile.FieldType), Jvm.Cond.code ({ cls := "java/util/AbstractList", name := "<init>", desc := "()V" } : Jvm.MethodName) jdk_39_method_1_code (1 : Nat) (Option.none : Option Jvm.ClassFile.FieldType), Jvm.Cond.code ({ cls := "java/util/AbstractCollection", name := "<init>", desc := "()V" } : Jvm.MethodName) jdk_22_method_1_code (1 : Nat) (Option.none : Option Jvm.ClassFile.FieldType), Jvm.Cond.code ({ cls := "java/lang/Object", name := "<init>", desc := "()V" } : Jvm.MethodName) object_method_1_code (1 : Nat) (Option.none : Option Jvm.ClassFile.FieldType), Jvm.Cond.code ({ cls := "com/example/lugha/lugha/concepts/PageGroups", name := "<init>", desc := "(Ljava/util/List;[ILjava/util/List;[I[I[II)V" } : Jvm.MethodName) prog_4_method_1_code (8 : Nat) (Option.none : Option Jvm.ClassFile.FieldType), Jvm.Cond.code ({ cls := "com/example/lugha/lugha/concepts/PageGroups", name := "has", desc := "(II)Z" } : Jvm.MethodName) prog_4_method_6_code (3 : Nat) (Option.some Jvm.ClassFile.FieldType.boolean), Jvm.Cond.code ({ cls := "com/example/lugha/lugha/concepts/PageGroups", name := "editionFrom", desc := "(II)I" } : Jvm.MethodName) prog_4_method_8_code (5 : Nat) (Option.some Jvm.ClassFile.FieldType.int), Jvm.Cond.code ({ cls := "com/example/lugha/lugha/concepts/PageGroupsHasPinLaw", name := "in", desc := "(III)Z" } : Jvm.MethodName) method_3_code (3 : Nat) (Option.some Jvm.ClassFile.FieldType.boolean)]
set_option maxRecDepth 65536 in
theorem codes_eq : words1.filter isCode = codes1 := rfl
theorem w_codes : ∀ c ∈ words1.filter isCode, c.before args0 about1 = true := by
  rw [codes_eq]
  intro c hc
  simp only [codes1, List.mem_cons, List.not_mem_nil, or_false] at hc
  rcases hc with rfl | rfl | rfl | rfl | rfl | rfl | rfl | rfl | rfl | rfl | rfl | rfl
  · exact w_c0
  · exact w_c1
  · exact w_c2
  · exact w_c3
  · exact w_c4
  · exact w_c5
  · exact w_c6
  · exact w_c7
  · exact w_c8
  · exact w_c9
  · exact w_c10
  · exact w_c11
set_option maxRecDepth 65536 in
theorem w_t1 : (words1.take 24).all (fun c => isCode c || c.before args0 about1) = true := by decide +kernel
set_option maxRecDepth 65536 in
theorem w_t2 : ((words1.drop 24).take 24).all (fun c => isCode c || c.before args0 about1) = true := by decide +kernel
set_option maxRecDepth 65536 in
theorem w_t3 : ((words1.drop 24).drop 24).all (fun c => isCode c || c.before args0 about1) = true := by decide +kernel
theorem w_tables : (allAtoms (Jvm.Cond.code x code maxLocals ret :: tables_1)).before args0 about1 = true := by
  rw [allAtoms_all]
  show words1.all (fun c => c.before args0 about1) = true
  refine all_split ?_ w_codes
  rw [← List.take_append_drop 24 words1, List.all_append, w_t1, ← List.take_append_drop 24 (words1.drop 24), List.all_append, w_t2, w_t3]
  rfl
set_option maxRecDepth 65536 in
theorem w_rest : rest_1_c.before args0 about1 = true := by decide +kernel
set_option maxRecDepth 65536 in
theorem w_case : (Jvm.Cond.and given_1 narrow_1).before args0 about1 = true := by decide +kernel
theorem w_applies : (headSpec (Jvm.Cond.code x code maxLocals ret :: tables_1) room_1).applies x e0.platform about1 = true :=
  (Spec.applies_iff w_frames).mpr ⟨w_running, w_runnable, w_alone, w_named, w_hears, w_ripe, w_room, w_tables⟩
theorem atStart : AtStart classFile x code maxLocals ret World_1 tables_1 room_1 Calls_1 rest_1 Pre_1 launch0 p0 e0 about1 theMethod args0 below0 :=
  ⟨lists_1, trivial, launch0.admits_env _ _ _, launch0.least_env, fairChoices_fair.cas, fairChoices_fair.clock, w_frames, w_args, w_heap, w_applies, trivial, w_rest, w_case⟩
end start1
theorem witness_1 : WitnessClaimed_1 := ⟨start1.p0, start1.e0, start1.about1, start1.theMethod, start1.args0, start1.below0, start1.atStart⟩
end Jvm.Pilot.@@N@@
