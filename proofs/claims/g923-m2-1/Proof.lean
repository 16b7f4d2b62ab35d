import JvmDerived
import JvmDerived.Pilot.@@N@@Statement
import JvmDerived.Pilot.@@N@@Code
set_option linter.unusedVariables false
set_option linter.unusedSimpArgs false
namespace Jvm.Pilot.@@N@@
open Jvm Jvm.ClassFile Sem Op Lib Jvm.Free Jvm.Stand Jvm.LawKit Jvm.RoadKit Bundle Jvm.Pilot.@@N@@.Jvm.D
abbrev Cx : Type := Program × Launch × Env × Room × State × MethodId × Array Value × List Frame × Method × Code
abbrev Cx.p (K : Cx) : Program := K.1
abbrev Cx.l (K : Cx) : Launch := K.2.1
abbrev Cx.e (K : Cx) : Env := K.2.2.1
abbrev Cx.R (K : Cx) : Room := K.2.2.2.1
abbrev Cx.s (K : Cx) : State := K.2.2.2.2.1
abbrev Cx.m (K : Cx) : MethodId := K.2.2.2.2.2.1
abbrev Cx.args (K : Cx) : Array Value := K.2.2.2.2.2.2.1
abbrev Cx.below (K : Cx) : List Frame := K.2.2.2.2.2.2.2.1
abbrev Cx.meth (K : Cx) : Method := K.2.2.2.2.2.2.2.2.1
abbrev Cx.c (K : Cx) : Code := K.2.2.2.2.2.2.2.2.2
/-- from T at this frame the body ends within the room, and what it leaves is Q's -/
def Go (K : Cx) (n0 kc kj : Nat) (Q : Option Value → Heap → Prop) (T : State) (pc : Nat) (Ls : Array Slot) (st : List Value) : Prop :=
  ∃ t o, Steps K.p.tables K.e K.below (T.setTop (mkF K.m pc Ls st)) t ∧ t.status = .running ∧ Ended t K.below o ∧ ∃ v L, o = .returned v ∧ (Q v t.heap ∧ Fr n0 L) ∧ FrameEnd K.s o t L kc kj
/-- where the walk stands: the body's own facts, the heap, how many cells and slots have been made -/
def St (K : Cx) (Z : State) (own : String) (b : ByteArray) (mx : Nat) (ret : Option FieldType) (rm : Room) (n0 k j : Nat) (T : State) (h : Heap) : Prop :=
  K.p.tables.exec = Jvm.exec ∧ Z.Warmed39 K.s.vm ∧ K.s.vm.findClass own = some K.m.cls ∧ K.c.code = b ∧ K.c.maxLocals = mx ∧ K.meth.sig.returnType = ret ∧ K.meth.locks = false ∧ K.R = rm ∧ T.heap = h ∧
    ∃ locs, Stand K.p K.l K.e K.R K.s K.m K.args K.below K.meth K.c T locs k j ∧ Fr n0 locs
def Isn (b : ByteArray) (pc : Nat) (i : Instr) (n pc' : Nat) : Prop := decode b pc = .ok (i, n) ∧ pc + n = pc'
def Brn (b : ByteArray) (pc : Nat) (i : Instr) (o : Int) (pc' tg : Nat) : Prop := decode b pc = .ok (i, 3) ∧ pc + 3 = pc' ∧ 0 ≤ (pc : Int) + o ∧ ((pc : Int) + o).toNat = tg
/-- a body's contract, at its arguments and heap -/
def CtrW (l : Launch) (Z : State) (y : MethodName) (b : ByteArray) (mx : Nat) (ret : Option FieldType) (ws : List Jvm.Cond) (rm : Room) (kc kj : Nat) (as' : List Value) (h : Heap) (n0 : Nat) (Q : Option Value → Heap → Prop) : Prop :=
  MetFree l y (head1 (Jvm.Cond.code y b mx ret :: ws) rm) (fun a U => a = as'.toArray ∧ Z.Warmed39 U.vm ∧ U.heap = h) (fun _ _ _ _ _ => True) (fun _ U o U' => ∃ v L, o = .returned v ∧ (Q v U'.heap ∧ Fr n0 L) ∧ FrameEnd U o U' L kc kj)
abbrev Ctr (l : Launch) (Z : State) (y : MethodName) (b : ByteArray) (mx : Nat) (ret : Option FieldType) (rm : Room) (as' : List Value) (h : Heap) (n0 : Nat) (Q : Option Value → Heap → Prop) : Prop :=
  CtrW l Z y b mx ret [] rm rm.cells rm.slots as' h n0 Q
section OwnKit
variable {K : Cx} {Z : State} {own : String} {b : ByteArray} {mx : Nat} {ret : Option FieldType} {rm : Room} {n0 k j kc kj : Nat} {T : State} {h : Heap} {Q : Option Value → Heap → Prop} {pc pc' tg : Nat} {Ls Ls' : Array Slot} {st rest : List Value} {a0 : Array Value}
theorem St.ex (X : St K Z own b mx ret rm n0 k j T h) : K.p.tables.exec = Jvm.exec := X.1
theorem St.wZ (X : St K Z own b mx ret rm n0 k j T h) : Z.Warmed39 K.s.vm := X.2.1
theorem St.ow (X : St K Z own b mx ret rm n0 k j T h) : K.s.vm.findClass own = some K.m.cls := X.2.2.1
theorem St.dec (X : St K Z own b mx ret rm n0 k j T h) {r : Except DecodeError (Instr × Nat)} (d : decode b pc = r) : decode K.c.code pc = r := hb X.2.2.2.1 d
theorem St.ml (X : St K Z own b mx ret rm n0 k j T h) : K.c.maxLocals = mx := X.2.2.2.2.1
theorem St.rt (X : St K Z own b mx ret rm n0 k j T h) : K.meth.sig.returnType = ret := X.2.2.2.2.2.1
theorem St.nl (X : St K Z own b mx ret rm n0 k j T h) : K.meth.locks = false := X.2.2.2.2.2.2.1
theorem St.rmE (X : St K Z own b mx ret rm n0 k j T h) : K.R = rm := X.2.2.2.2.2.2.2.1
theorem St.hp (X : St K Z own b mx ret rm n0 k j T h) : T.heap = h := X.2.2.2.2.2.2.2.2.1
theorem St.sd (X : St K Z own b mx ret rm n0 k j T h) : ∃ locs, Stand K.p K.l K.e K.R K.s K.m K.args K.below K.meth K.c T locs k j ∧ Fr n0 locs := X.2.2.2.2.2.2.2.2.2
theorem St.here (X : St K Z own b mx ret rm n0 k j T h) : At T K.m K.c K.below := by obtain ⟨_, S, _⟩ := X.sd; exact S.here
theorem St.mk' (X : St K Z own b mx ret rm n0 k j T h) {T' : State} {h' : Heap} {k' j' : Nat} {locs : List Loc} (S : Stand K.p K.l K.e K.R K.s K.m K.args K.below K.meth K.c T' locs k' j') (N : Fr n0 locs) (q : T'.heap = h') : St K Z own b mx ret rm n0 k' j' T' h' :=
  ⟨X.1, X.2.1, X.2.2.1, X.2.2.2.1, X.2.2.2.2.1, X.2.2.2.2.2.1, X.2.2.2.2.2.2.1, X.2.2.2.2.2.2.2.1, q, _, S, N⟩
theorem St.more (X : St K Z own b mx ret rm n0 k j T h) {k' j' : Nat} (hk : k ≤ k') (hj : j ≤ j') : St K Z own b mx ret rm n0 k' j' T h := by
  obtain ⟨_, S, N⟩ := X.sd; exact X.mk' (S.more hk hj) N X.hp
theorem St.eqh (X : St K Z own b mx ret rm n0 k j T h) {h' : Heap} (q : h = h') : St K Z own b mx ret rm n0 k j T h' := q ▸ X
theorem o_go {T' : State} {st' : List Value} (f : ∀ t, Steps K.p.tables K.e K.below (T'.setTop (mkF K.m pc' Ls' st')) t → Steps K.p.tables K.e K.below (T.setTop (mkF K.m pc Ls st)) t) (g : Go K n0 kc kj Q T' pc' Ls' st') : Go K n0 kc kj Q T pc Ls st := by
  obtain ⟨t, o, h1, h2⟩ := g; exact ⟨t, o, f t h1, h2⟩
theorem Go.imp {Q' : Option Value → Heap → Prop} (g : Go K n0 kc kj Q T pc Ls st) (f : ∀ v h, Q v h → Q' v h) : Go K n0 kc kj Q' T pc Ls st := by
  obtain ⟨t, o, h1, h2, h3, v, L, h4, ⟨h5, h6⟩, h7⟩ := g; exact ⟨t, o, h1, h2, h3, v, L, h4, ⟨f _ _ h5, h6⟩, h7⟩
theorem o_v1 {v : Value} (g : Go K n0 kc kj Q T pc Ls (v :: rest)) : Go K n0 kc kj Q T pc Ls ((some v).toList ++ rest) := g
theorem o_v0 (g : Go K n0 kc kj Q T pc Ls rest) : Go K n0 kc kj Q T pc Ls ((none : Option Value).toList ++ rest) := g
theorem o_st {st' : List Value} (q : st = st') (g : Go K n0 kc kj Q T pc Ls st') : Go K n0 kc kj Q T pc Ls st := q ▸ g
theorem o_gen {x : Int32} (g : ∀ z, z = x → Go K n0 kc kj Q T pc Ls (.int z :: rest)) : Go K n0 kc kj Q T pc Ls (.int x :: rest) := g x rfl
theorem o_genL {x : Int64} (g : ∀ z, z = x → Go K n0 kc kj Q T pc Ls (.long z :: rest)) : Go K n0 kc kj Q T pc Ls (.long x :: rest) := g x rfl
theorem o_cutL (pj : Nat) (z : Int64) {x : Int32} (B : Go K n0 kc kj Q T pj Ls (.long z :: rest) → Go K n0 kc kj Q T pc Ls (.int x :: rest)) (J : Go K n0 kc kj Q T pj Ls (.long z :: rest)) : Go K n0 kc kj Q T pc Ls (.int x :: rest) := B J
theorem o_cutI (pj : Nat) (z : Int32) {x : Int32} (B : Go K n0 kc kj Q T pj Ls (.int z :: rest) → Go K n0 kc kj Q T pc Ls (.int x :: rest)) (J : Go K n0 kc kj Q T pj Ls (.int z :: rest)) : Go K n0 kc kj Q T pc Ls (.int x :: rest) := B J
theorem o_cutI2 (pj : Nat) (z : Int32) {x y : Int32} (B : Go K n0 kc kj Q T pj Ls (.int z :: rest) → Go K n0 kc kj Q T pc Ls (.int y :: .int x :: rest)) (J : Go K n0 kc kj Q T pj Ls (.int z :: rest)) : Go K n0 kc kj Q T pc Ls (.int y :: .int x :: rest) := B J
theorem o_cutS (pj : Nat) {x : Int32} (X : St K Z own b mx ret rm n0 k j T h) (B : (∀ T' z, St K Z own b mx ret rm n0 k j T' h → Go K n0 kc kj Q T' pj Ls (.int z :: rest)) → Go K n0 kc kj Q T pc Ls (.int x :: rest)) (J : ∀ T' z, St K Z own b mx ret rm n0 k j T' h → Go K n0 kc kj Q T' pj Ls (.int z :: rest)) : Go K n0 kc kj Q T pc Ls (.int x :: rest) := B J
theorem o_cutI2L (pj : Nat) (z : Int64) {x y : Int32} (B : Go K n0 kc kj Q T pj Ls (.long z :: rest) → Go K n0 kc kj Q T pc Ls (.int y :: .int x :: rest)) (J : Go K n0 kc kj Q T pj Ls (.long z :: rest)) : Go K n0 kc kj Q T pc Ls (.int y :: .int x :: rest) := B J
theorem o_ls (q : Ls = Ls') (g : Go K n0 kc kj Q T pc Ls' st) : Go K n0 kc kj Q T pc Ls st := q ▸ g
theorem o_iadd (X : St K Z own b mx ret rm n0 k j T h) {x y : Int32} (d : Isn b pc (.iadd) 1 pc') (g : Go K n0 kc kj Q T pc' Ls (.int (x + y) :: rest)) : Go K n0 kc kj Q T pc Ls (.int y :: .int x :: rest) := by
  obtain ⟨d, rfl⟩ := d; exact o_go (fun t k => XS.iadd X.here X.ex rfl (X.dec d) rfl k) g
theorem o_isub (X : St K Z own b mx ret rm n0 k j T h) {x y : Int32} (d : Isn b pc (.isub) 1 pc') (g : Go K n0 kc kj Q T pc' Ls (.int (x - y) :: rest)) : Go K n0 kc kj Q T pc Ls (.int y :: .int x :: rest) := by
  obtain ⟨d, rfl⟩ := d; exact o_go (fun t k => XS.isub X.here X.ex rfl (X.dec d) rfl k) g
theorem o_imul (X : St K Z own b mx ret rm n0 k j T h) {x y : Int32} (d : Isn b pc (.imul) 1 pc') (g : Go K n0 kc kj Q T pc' Ls (.int (x * y) :: rest)) : Go K n0 kc kj Q T pc Ls (.int y :: .int x :: rest) := by
  obtain ⟨d, rfl⟩ := d; exact o_go (fun t k => XS.imul X.here X.ex rfl (X.dec d) rfl k) g
theorem o_iand (X : St K Z own b mx ret rm n0 k j T h) {x y : Int32} (d : Isn b pc (.iand) 1 pc') (g : Go K n0 kc kj Q T pc' Ls (.int (x &&& y) :: rest)) : Go K n0 kc kj Q T pc Ls (.int y :: .int x :: rest) := by
  obtain ⟨d, rfl⟩ := d; exact o_go (fun t k => XS.iand X.here X.ex rfl (X.dec d) rfl k) g
theorem o_ixor (X : St K Z own b mx ret rm n0 k j T h) {x y : Int32} (d : Isn b pc (.ixor) 1 pc') (g : Go K n0 kc kj Q T pc' Ls (.int (x ^^^ y) :: rest)) : Go K n0 kc kj Q T pc Ls (.int y :: .int x :: rest) := by
  obtain ⟨d, rfl⟩ := d; exact o_go (fun t k => XT.ixor X.here X.ex rfl (X.dec d) rfl k) g
theorem o_ior (X : St K Z own b mx ret rm n0 k j T h) {x y : Int32} (d : Isn b pc (.ior) 1 pc') (g : Go K n0 kc kj Q T pc' Ls (.int (x ||| y) :: rest)) : Go K n0 kc kj Q T pc Ls (.int y :: .int x :: rest) := by
  obtain ⟨d, rfl⟩ := d; exact o_go (fun t k => XT.ior X.here X.ex rfl (X.dec d) rfl k) g
theorem o_ishl (X : St K Z own b mx ret rm n0 k j T h) {x y : Int32} (d : Isn b pc (.ishl) 1 pc') (g : Go K n0 kc kj Q T pc' Ls (.int (x <<< (y &&& 31)) :: rest)) : Go K n0 kc kj Q T pc Ls (.int y :: .int x :: rest) := by
  obtain ⟨d, rfl⟩ := d; exact o_go (fun t k => XT.ishl X.here X.ex rfl (X.dec d) rfl k) g
theorem o_ishr (X : St K Z own b mx ret rm n0 k j T h) {x y : Int32} (d : Isn b pc (.ishr) 1 pc') (g : Go K n0 kc kj Q T pc' Ls (.int (x >>> (y &&& 31)) :: rest)) : Go K n0 kc kj Q T pc Ls (.int y :: .int x :: rest) := by
  obtain ⟨d, rfl⟩ := d; exact o_go (fun t k => XT.ishr X.here X.ex rfl (X.dec d) rfl k) g
theorem o_iushr (X : St K Z own b mx ret rm n0 k j T h) {x y : Int32} (d : Isn b pc (.iushr) 1 pc') (g : Go K n0 kc kj Q T pc' Ls (.int (XT.ushr x y) :: rest)) : Go K n0 kc kj Q T pc Ls (.int y :: .int x :: rest) := by
  obtain ⟨d, rfl⟩ := d; exact o_go (fun t k => XT.iushr X.here X.ex rfl (X.dec d) rfl k) g
theorem o_ladd (X : St K Z own b mx ret rm n0 k j T h) {x y : Int64} (d : Isn b pc (.ladd) 1 pc') (g : Go K n0 kc kj Q T pc' Ls (.long (x + y) :: rest)) : Go K n0 kc kj Q T pc Ls (.long y :: .long x :: rest) := by
  obtain ⟨d, rfl⟩ := d; exact o_go (fun t k => XT.ladd X.here X.ex rfl (X.dec d) rfl k) g
theorem o_lsub (X : St K Z own b mx ret rm n0 k j T h) {x y : Int64} (d : Isn b pc (.lsub) 1 pc') (g : Go K n0 kc kj Q T pc' Ls (.long (x - y) :: rest)) : Go K n0 kc kj Q T pc Ls (.long y :: .long x :: rest) := by
  obtain ⟨d, rfl⟩ := d; exact o_go (fun t k => XT.lsub X.here X.ex rfl (X.dec d) rfl k) g
theorem o_lmul (X : St K Z own b mx ret rm n0 k j T h) {x y : Int64} (d : Isn b pc (.lmul) 1 pc') (g : Go K n0 kc kj Q T pc' Ls (.long (x * y) :: rest)) : Go K n0 kc kj Q T pc Ls (.long y :: .long x :: rest) := by
  obtain ⟨d, rfl⟩ := d; exact o_go (fun t k => XT.lmul X.here X.ex rfl (X.dec d) rfl k) g
theorem o_land (X : St K Z own b mx ret rm n0 k j T h) {x y : Int64} (d : Isn b pc (.land) 1 pc') (g : Go K n0 kc kj Q T pc' Ls (.long (x &&& y) :: rest)) : Go K n0 kc kj Q T pc Ls (.long y :: .long x :: rest) := by
  obtain ⟨d, rfl⟩ := d; exact o_go (fun t k => XT.land X.here X.ex rfl (X.dec d) rfl k) g
theorem o_lor (X : St K Z own b mx ret rm n0 k j T h) {x y : Int64} (d : Isn b pc (.lor) 1 pc') (g : Go K n0 kc kj Q T pc' Ls (.long (x ||| y) :: rest)) : Go K n0 kc kj Q T pc Ls (.long y :: .long x :: rest) := by
  obtain ⟨d, rfl⟩ := d; exact o_go (fun t k => XT.lor X.here X.ex rfl (X.dec d) rfl k) g
theorem o_lxor (X : St K Z own b mx ret rm n0 k j T h) {x y : Int64} (d : Isn b pc (.lxor) 1 pc') (g : Go K n0 kc kj Q T pc' Ls (.long (x ^^^ y) :: rest)) : Go K n0 kc kj Q T pc Ls (.long y :: .long x :: rest) := by
  obtain ⟨d, rfl⟩ := d; exact o_go (fun t k => XT.lxor X.here X.ex rfl (X.dec d) rfl k) g
theorem o_lshl (X : St K Z own b mx ret rm n0 k j T h) {x : Int64} {y : Int32} (d : Isn b pc (.lshl) 1 pc') (g : Go K n0 kc kj Q T pc' Ls (.long (x <<< (y.toInt64 &&& 63)) :: rest)) : Go K n0 kc kj Q T pc Ls (.int y :: .long x :: rest) := by
  obtain ⟨d, rfl⟩ := d; exact o_go (fun t k => XT.lshl X.here X.ex rfl (X.dec d) rfl k) g
theorem o_lshr (X : St K Z own b mx ret rm n0 k j T h) {x : Int64} {y : Int32} (d : Isn b pc (.lshr) 1 pc') (g : Go K n0 kc kj Q T pc' Ls (.long (x >>> (y.toInt64 &&& 63)) :: rest)) : Go K n0 kc kj Q T pc Ls (.int y :: .long x :: rest) := by
  obtain ⟨d, rfl⟩ := d; exact o_go (fun t k => XT.lshr X.here X.ex rfl (X.dec d) rfl k) g
theorem o_lushr (X : St K Z own b mx ret rm n0 k j T h) {x : Int64} {y : Int32} (d : Isn b pc (.lushr) 1 pc') (g : Go K n0 kc kj Q T pc' Ls (.long (XT.ushrL x y) :: rest)) : Go K n0 kc kj Q T pc Ls (.int y :: .long x :: rest) := by
  obtain ⟨d, rfl⟩ := d; exact o_go (fun t k => XT.lushr X.here X.ex rfl (X.dec d) rfl k) g
theorem o_lcmp (X : St K Z own b mx ret rm n0 k j T h) {x y : Int64} (d : Isn b pc (.lcmp) 1 pc') (g : Go K n0 kc kj Q T pc' Ls (.int (XT.cmpL x y) :: rest)) : Go K n0 kc kj Q T pc Ls (.long y :: .long x :: rest) := by
  obtain ⟨d, rfl⟩ := d; exact o_go (fun t k => XT.lcmp X.here X.ex rfl (X.dec d) rfl k) g
theorem o_idiv (X : St K Z own b mx ret rm n0 k j T h) {x y : Int32} (d : Isn b pc (.idiv) 1 pc') (hy : y ≠ 0) (g : Go K n0 kc kj Q T pc' Ls (.int (x / y) :: rest)) : Go K n0 kc kj Q T pc Ls (.int y :: .int x :: rest) := by
  obtain ⟨d, rfl⟩ := d; exact o_go (fun t k => XS.idiv X.here X.ex rfl (X.dec d) rfl hy k) g
theorem o_ldiv (X : St K Z own b mx ret rm n0 k j T h) {x y : Int64} (d : Isn b pc (.ldiv) 1 pc') (hy : y ≠ 0) (g : Go K n0 kc kj Q T pc' Ls (.long (x / y) :: rest)) : Go K n0 kc kj Q T pc Ls (.long y :: .long x :: rest) := by
  obtain ⟨d, rfl⟩ := d; exact o_go (fun t k => XT.ldiv X.here X.ex rfl (X.dec d) rfl hy k) g
theorem o_irem (X : St K Z own b mx ret rm n0 k j T h) {x y : Int32} (d : Isn b pc .irem 1 pc') (hy : y ≠ 0) (g : Go K n0 kc kj Q T pc' Ls (.int (x % y) :: rest)) : Go K n0 kc kj Q T pc Ls (.int y :: .int x :: rest) := by
  obtain ⟨d, rfl⟩ := d; obtain ⟨_, S, _⟩ := X.sd; exact o_go (fun t k => iremM S X.ex rfl (X.dec d) rfl hy k) g
theorem o_lrem (X : St K Z own b mx ret rm n0 k j T h) {x y : Int64} (d : Isn b pc .lrem 1 pc') (hy : y ≠ 0) (g : Go K n0 kc kj Q T pc' Ls (.long (x % y) :: rest)) : Go K n0 kc kj Q T pc Ls (.long y :: .long x :: rest) := by
  obtain ⟨d, rfl⟩ := d; rw [← lrem_mod] at g; exact o_go (fun t k => XT.lrem X.here X.ex rfl (X.dec d) rfl hy k) g
theorem o_i2l (X : St K Z own b mx ret rm n0 k j T h) {x : Int32} (d : Isn b pc (.i2l) 1 pc') (g : Go K n0 kc kj Q T pc' Ls (.long (x.toInt64) :: rest)) : Go K n0 kc kj Q T pc Ls (.int x :: rest) := by
  obtain ⟨d, rfl⟩ := d; exact o_go (fun t k => XT.i2l X.here X.ex rfl (X.dec d) rfl k) g
theorem o_l2i (X : St K Z own b mx ret rm n0 k j T h) {x : Int64} (d : Isn b pc (.l2i) 1 pc') (g : Go K n0 kc kj Q T pc' Ls (.int (x.toInt32) :: rest)) : Go K n0 kc kj Q T pc Ls (.long x :: rest) := by
  obtain ⟨d, rfl⟩ := d; exact o_go (fun t k => XT.l2i X.here X.ex rfl (X.dec d) rfl k) g
theorem o_i2b (X : St K Z own b mx ret rm n0 k j T h) {x : Int32} (d : Isn b pc (.i2b) 1 pc') (g : Go K n0 kc kj Q T pc' Ls (.int (x.toInt8.toInt32) :: rest)) : Go K n0 kc kj Q T pc Ls (.int x :: rest) := by
  obtain ⟨d, rfl⟩ := d; exact o_go (fun t k => XT.i2b X.here X.ex rfl (X.dec d) rfl k) g
theorem o_i2c (X : St K Z own b mx ret rm n0 k j T h) {x : Int32} (d : Isn b pc (.i2c) 1 pc') (g : Go K n0 kc kj Q T pc' Ls (.int (x.toUInt32.toUInt16.toUInt32.toInt32) :: rest)) : Go K n0 kc kj Q T pc Ls (.int x :: rest) := by
  obtain ⟨d, rfl⟩ := d; exact o_go (fun t k => XT.i2c X.here X.ex rfl (X.dec d) rfl k) g
theorem o_i2s (X : St K Z own b mx ret rm n0 k j T h) {x : Int32} (d : Isn b pc (.i2s) 1 pc') (g : Go K n0 kc kj Q T pc' Ls (.int (x.toInt16.toInt32) :: rest)) : Go K n0 kc kj Q T pc Ls (.int x :: rest) := by
  obtain ⟨d, rfl⟩ := d; exact o_go (fun t k => XT.i2s X.here X.ex rfl (X.dec d) rfl k) g
theorem o_ineg (X : St K Z own b mx ret rm n0 k j T h) {x : Int32} (d : Isn b pc (.ineg) 1 pc') (g : Go K n0 kc kj Q T pc' Ls (.int (-x) :: rest)) : Go K n0 kc kj Q T pc Ls (.int x :: rest) := by
  obtain ⟨d, rfl⟩ := d; exact o_go (fun t k => XS.ineg X.here X.ex rfl (X.dec d) rfl k) g
theorem o_lneg (X : St K Z own b mx ret rm n0 k j T h) {x : Int64} (d : Isn b pc (.lneg) 1 pc') (g : Go K n0 kc kj Q T pc' Ls (.long (-x) :: rest)) : Go K n0 kc kj Q T pc Ls (.long x :: rest) := by
  obtain ⟨d, rfl⟩ := d; exact o_go (fun t k => XT.lneg X.here X.ex rfl (X.dec d) rfl k) g
theorem o_iload_n (X : St K Z own b mx ret rm n0 k j T h) {i : Fin 4} {v : Int32} (d : Isn b pc (.iload_n i) 1 pc') (hl : Ls[i.val]? = some (.val (.int v))) (g : Go K n0 kc kj Q T pc' Ls (.int v :: st)) : Go K n0 kc kj Q T pc Ls (st) := by
  obtain ⟨d, rfl⟩ := d; exact o_go (fun t k => XS.iloadN X.here X.ex rfl (X.dec d) hl k) g
theorem o_iload (X : St K Z own b mx ret rm n0 k j T h) {i : Nat} {v : Int32} (d : Isn b pc (.iload i) 2 pc') (hl : Ls[i]? = some (.val (.int v))) (g : Go K n0 kc kj Q T pc' Ls (.int v :: st)) : Go K n0 kc kj Q T pc Ls (st) := by
  obtain ⟨d, rfl⟩ := d; exact o_go (fun t k => XS.iload X.here X.ex rfl (X.dec d) hl k) g
theorem o_lload_n (X : St K Z own b mx ret rm n0 k j T h) {i : Fin 4} {v : Int64} (d : Isn b pc (.lload_n i) 1 pc') (hl : Ls[i.val]? = some (.val (.long v))) (g : Go K n0 kc kj Q T pc' Ls (.long v :: st)) : Go K n0 kc kj Q T pc Ls (st) := by
  obtain ⟨d, rfl⟩ := d; exact o_go (fun t k => XT.lloadN X.here X.ex rfl (X.dec d) hl k) g
theorem o_lload (X : St K Z own b mx ret rm n0 k j T h) {i : Nat} {v : Int64} (d : Isn b pc (.lload i) 2 pc') (hl : Ls[i]? = some (.val (.long v))) (g : Go K n0 kc kj Q T pc' Ls (.long v :: st)) : Go K n0 kc kj Q T pc Ls (st) := by
  obtain ⟨d, rfl⟩ := d; exact o_go (fun t k => XT.lload X.here X.ex rfl (X.dec d) hl k) g
theorem o_aload_n (X : St K Z own b mx ret rm n0 k j T h) {i : Fin 4} {v : Value} (d : Isn b pc (.aload_n i) 1 pc') (hl : Ls[i.val]? = some (.val v)) (hv : v.isRef = true) (g : Go K n0 kc kj Q T pc' Ls (v :: st)) : Go K n0 kc kj Q T pc Ls (st) := by
  obtain ⟨d, rfl⟩ := d; exact o_go (fun t k => XS.aloadN X.here X.ex rfl (X.dec d) hl hv k) g
theorem o_aload (X : St K Z own b mx ret rm n0 k j T h) {i : Nat} {v : Value} (d : Isn b pc (.aload i) 2 pc') (hl : Ls[i]? = some (.val v)) (hv : v.isRef = true) (g : Go K n0 kc kj Q T pc' Ls (v :: st)) : Go K n0 kc kj Q T pc Ls (st) := by
  obtain ⟨d, rfl⟩ := d; exact o_go (fun t k => XS.aload X.here X.ex rfl (X.dec d) hl hv k) g
theorem o_istore_n (X : St K Z own b mx ret rm n0 k j T h) {i : Fin 4} {x : Int32} (d : Isn b pc (.istore_n i) 1 pc') (hl : storeLocals Ls i.val (.int x) = some Ls') (g : Go K n0 kc kj Q T pc' Ls' (rest)) : Go K n0 kc kj Q T pc Ls (.int x :: rest) := by
  obtain ⟨d, rfl⟩ := d; exact o_go (fun t k => XS.istoreN X.here X.ex rfl (X.dec d) rfl hl k) g
theorem o_istore (X : St K Z own b mx ret rm n0 k j T h) {i : Nat} {x : Int32} (d : Isn b pc (.istore i) 2 pc') (hl : storeLocals Ls i (.int x) = some Ls') (g : Go K n0 kc kj Q T pc' Ls' (rest)) : Go K n0 kc kj Q T pc Ls (.int x :: rest) := by
  obtain ⟨d, rfl⟩ := d; exact o_go (fun t k => XS.istore X.here X.ex rfl (X.dec d) rfl hl k) g
theorem o_lstore_n (X : St K Z own b mx ret rm n0 k j T h) {i : Fin 4} {x : Int64} (d : Isn b pc (.lstore_n i) 1 pc') (hl : storeLocals Ls i.val (.long x) = some Ls') (g : Go K n0 kc kj Q T pc' Ls' (rest)) : Go K n0 kc kj Q T pc Ls (.long x :: rest) := by
  obtain ⟨d, rfl⟩ := d; exact o_go (fun t k => XT.lstoreN X.here X.ex rfl (X.dec d) rfl hl k) g
theorem o_lstore (X : St K Z own b mx ret rm n0 k j T h) {i : Nat} {x : Int64} (d : Isn b pc (.lstore i) 2 pc') (hl : storeLocals Ls i (.long x) = some Ls') (g : Go K n0 kc kj Q T pc' Ls' (rest)) : Go K n0 kc kj Q T pc Ls (.long x :: rest) := by
  obtain ⟨d, rfl⟩ := d; exact o_go (fun t k => XT.lstore X.here X.ex rfl (X.dec d) rfl hl k) g
theorem o_istoreO (X : St K Z own b mx ret rm n0 k j T h) {i : Nat} {x : Int32} {o : Slot} (d : Isn b pc (.istore i) 2 pc') (hold : Ls[i]? = some o) (ho : o = .unset ∨ ∃ w, o = .val w ∧ w.category = 1) (hl : Ls.setIfInBounds i (.val (.int x)) = Ls') (g : Go K n0 kc kj Q T pc' Ls' (rest)) : Go K n0 kc kj Q T pc Ls (.int x :: rest) := by
  obtain ⟨d, rfl⟩ := d; subst hl; exact o_go (fun t k => XS.istoreS X.here X.ex rfl (X.dec d) rfl hold ho k) g
theorem o_astore_n (X : St K Z own b mx ret rm n0 k j T h) {i : Fin 4} {x : Value} (d : Isn b pc (.astore_n i) 1 pc') (hv : x.isRef = true) (hl : storeLocals Ls i.val x = some Ls') (g : Go K n0 kc kj Q T pc' Ls' (rest)) : Go K n0 kc kj Q T pc Ls (x :: rest) := by
  obtain ⟨d, rfl⟩ := d; exact o_go (fun t k => XS.astoreN X.here X.ex rfl (X.dec d) rfl hv hl k) g
theorem o_astore (X : St K Z own b mx ret rm n0 k j T h) {i : Nat} {x : Value} (d : Isn b pc (.astore i) 2 pc') (hv : x.isRef = true) (hl : storeLocals Ls i x = some Ls') (g : Go K n0 kc kj Q T pc' Ls' (rest)) : Go K n0 kc kj Q T pc Ls (x :: rest) := by
  obtain ⟨d, rfl⟩ := d; exact o_go (fun t k => XS.astore X.here X.ex rfl (X.dec d) rfl hv hl k) g
theorem o_iconst (v : Int32) (X : St K Z own b mx ret rm n0 k j T h) {i : Int} (d : Isn b pc (.iconst i) 1 pc') (hv : Int32.ofInt i = v) (g : Go K n0 kc kj Q T pc' Ls (.int v :: st)) : Go K n0 kc kj Q T pc Ls (st) := by
  obtain ⟨d, rfl⟩ := d; exact o_go (fun t k => XT.iconstV X.here X.ex rfl v (X.dec d) hv k) g
theorem o_bipush (v : Int32) (X : St K Z own b mx ret rm n0 k j T h) {i : Int} (d : Isn b pc (.bipush i) 2 pc') (hv : (Int8.ofInt i).toInt32 = v) (g : Go K n0 kc kj Q T pc' Ls (.int v :: st)) : Go K n0 kc kj Q T pc Ls (st) := by
  obtain ⟨d, rfl⟩ := d; exact o_go (fun t k => XT.bipushV X.here X.ex rfl v (X.dec d) hv k) g
theorem o_sipush (v : Int32) (X : St K Z own b mx ret rm n0 k j T h) {i : Int} (d : Isn b pc (.sipush i) 3 pc') (hv : (Int16.ofInt i).toInt32 = v) (g : Go K n0 kc kj Q T pc' Ls (.int v :: st)) : Go K n0 kc kj Q T pc Ls (st) := by
  obtain ⟨d, rfl⟩ := d; exact o_go (fun t k => XT.sipushV X.here X.ex rfl v (X.dec d) hv k) g
theorem o_lconst (v : Int64) (X : St K Z own b mx ret rm n0 k j T h) {i : Fin 2} (d : Isn b pc (.lconst i) 1 pc') (hv : Int64.ofNat i = v) (g : Go K n0 kc kj Q T pc' Ls (.long v :: st)) : Go K n0 kc kj Q T pc Ls (st) := by
  obtain ⟨d, rfl⟩ := d; exact o_go (fun t k => XT.lconstV X.here X.ex rfl v (X.dec d) hv k) g
theorem o_aconst_null (X : St K Z own b mx ret rm n0 k j T h)  (d : Isn b pc (.aconst_null) 1 pc') (g : Go K n0 kc kj Q T pc' Ls (.null :: st)) : Go K n0 kc kj Q T pc Ls (st) := by
  obtain ⟨d, rfl⟩ := d; exact o_go (fun t k => XS.aconstNull X.here X.ex rfl (X.dec d)  k) g
theorem o_iinc (v : Int32) (X : St K Z own b mx ret rm n0 k j T h) {i : Nat} {cst : Int} {x : Int32} (d : Isn b pc (.iinc i cst) 3 pc') (hv : Int32.ofInt cst = v) (hl : Ls[i]? = some (.val (.int x))) (hl' : storeLocals Ls i (.int (x + v)) = some Ls') (g : Go K n0 kc kj Q T pc' Ls' (st)) : Go K n0 kc kj Q T pc Ls (st) := by
  obtain ⟨d, rfl⟩ := d; exact o_go (fun t k => XT.iincV X.here X.ex rfl v (X.dec d) hv hl hl' k) g
theorem o_ldc (X : St K Z own b mx ret rm n0 k j T h) {i : Nat} {v : Int32} (d : Isn b pc (.ldc i) 2 pc') (wd : (Jvm.Cond.constant own i v).before a0 Z = true) (g : Go K n0 kc kj Q T pc' Ls (.int v :: st)) : Go K n0 kc kj Q T pc Ls (st) := by
  obtain ⟨d, rfl⟩ := d; obtain ⟨_, S, _⟩ := X.sd; exact o_go (fun t k => S.ldcI X.ex X.ow (mvT X.wZ wd) rfl (X.dec d) k) g
theorem o_ldc2 (X : St K Z own b mx ret rm n0 k j T h) {i : Nat} {v : Int64} (d : Isn b pc (.ldc2_w i) 3 pc') (wd : (Jvm.Cond.constantLong own i v).before a0 Z = true) (g : Go K n0 kc kj Q T pc' Ls (.long v :: st)) : Go K n0 kc kj Q T pc Ls (st) := by
  obtain ⟨d, rfl⟩ := d; obtain ⟨_, S, _⟩ := X.sd; exact o_go (fun t k => S.ldc2J X.ex X.ow (mvT X.wZ wd) rfl (X.dec d) k) g
theorem o_dup (X : St K Z own b mx ret rm n0 k j T h) {x : Value} (d : Isn b pc (.dup) 1 pc') (hc : x.category = 1) (g : Go K n0 kc kj Q T pc' Ls (x :: x :: rest)) : Go K n0 kc kj Q T pc Ls (x :: rest) := by
  obtain ⟨d, rfl⟩ := d; exact o_go (fun t k => XS.dup X.here X.ex rfl (X.dec d) rfl hc k) g
theorem o_pop (X : St K Z own b mx ret rm n0 k j T h) {x : Value} (d : Isn b pc (.pop) 1 pc') (hc : x.category = 1) (g : Go K n0 kc kj Q T pc' Ls (rest)) : Go K n0 kc kj Q T pc Ls (x :: rest) := by
  obtain ⟨d, rfl⟩ := d; exact o_go (fun t k => XT.pop X.here X.ex rfl (X.dec d) rfl hc k) g
theorem o_dup2 (X : St K Z own b mx ret rm n0 k j T h) {x y : Value} (d : Isn b pc (.dup2) 1 pc') (hc : x.category = 1) (hc' : y.category = 1) (g : Go K n0 kc kj Q T pc' Ls (x :: y :: x :: y :: rest)) : Go K n0 kc kj Q T pc Ls (x :: y :: rest) := by
  obtain ⟨d, rfl⟩ := d; exact o_go (fun t k => XT.dup2 X.here X.ex rfl (X.dec d) rfl hc hc' k) g
theorem o_dup_x1 (X : St K Z own b mx ret rm n0 k j T h) {x y : Value} (d : Isn b pc (.dup_x1) 1 pc') (hc : x.category = 1) (hc' : y.category = 1) (g : Go K n0 kc kj Q T pc' Ls (x :: y :: x :: rest)) : Go K n0 kc kj Q T pc Ls (x :: y :: rest) := by
  obtain ⟨d, rfl⟩ := d; exact o_go (fun t k => XT.dupX1 X.here X.ex rfl (X.dec d) rfl hc hc' k) g
theorem o_dup2L (X : St K Z own b mx ret rm n0 k j T h) {x : Int64} (d : Isn b pc (.dup2) 1 pc') (g : Go K n0 kc kj Q T pc' Ls (.long x :: .long x :: rest)) : Go K n0 kc kj Q T pc Ls (.long x :: rest) := by
  obtain ⟨d, rfl⟩ := d; exact o_go (fun t k => XT.dup2L X.here X.ex rfl (X.dec d) rfl k) g
theorem o_goto (X : St K Z own b mx ret rm n0 k j T h) {o : Int} (d : Brn b pc (.goto o) o pc' tg) (g : Go K n0 kc kj Q T tg Ls (st)) : Go K n0 kc kj Q T pc Ls (st) := by
  obtain ⟨d, rfl, h1, h2⟩ := d; exact o_go (fun t k => XS.goto X.here X.ex rfl rfl (X.dec d) h1 h2 k) g
theorem o_icmp_eq_t (X : St K Z own b mx ret rm n0 k j T h) {x y : Int32} {o : Int} (d : Brn b pc (.if_icmp .eq o) o pc' tg) (q : x = y) (g : Go K n0 kc kj Q T tg Ls (rest)) : Go K n0 kc kj Q T pc Ls (.int y :: .int x :: rest) := by
  obtain ⟨d, rfl, h1, h2⟩ := d; exact o_go (fun t k => XS.icmpYes X.here X.ex rfl rfl (X.dec d) rfl (XT.ii_eq_t q) h1 h2 k) g
theorem o_icmp_eq_f (X : St K Z own b mx ret rm n0 k j T h) {x y : Int32} {o : Int} (d : Brn b pc (.if_icmp .eq o) o pc' tg) (q : ¬ x = y) (g : Go K n0 kc kj Q T pc' Ls (rest)) : Go K n0 kc kj Q T pc Ls (.int y :: .int x :: rest) := by
  obtain ⟨d, rfl, h1, h2⟩ := d; exact o_go (fun t k => XS.icmpNo X.here X.ex rfl (X.dec d) rfl (XT.ii_eq_f q) k) g
theorem o_icmp_eq (X : St K Z own b mx ret rm n0 k j T h) {x y : Int32} {o : Int} (d : Brn b pc (.if_icmp .eq o) o pc' tg) (gt : x = y → Go K n0 kc kj Q T tg Ls (rest)) (gf : ¬ x = y → Go K n0 kc kj Q T pc' Ls (rest)) : Go K n0 kc kj Q T pc Ls (.int y :: .int x :: rest) := by
  by_cases q : x = y
  · exact o_icmp_eq_t X d q (gt q)
  · exact o_icmp_eq_f X d q (gf q)
theorem o_if_eq_t (X : St K Z own b mx ret rm n0 k j T h) {x : Int32} {o : Int} (d : Brn b pc (.ifCond .eq o) o pc' tg) (q : x = 0) (g : Go K n0 kc kj Q T tg Ls (rest)) : Go K n0 kc kj Q T pc Ls (.int x :: rest) := by
  obtain ⟨d, rfl, h1, h2⟩ := d; exact o_go (fun t k => XS.ifYes X.here X.ex rfl rfl (X.dec d) rfl (XT.i0_eq_t q) h1 h2 k) g
theorem o_if_eq_f (X : St K Z own b mx ret rm n0 k j T h) {x : Int32} {o : Int} (d : Brn b pc (.ifCond .eq o) o pc' tg) (q : ¬ x = 0) (g : Go K n0 kc kj Q T pc' Ls (rest)) : Go K n0 kc kj Q T pc Ls (.int x :: rest) := by
  obtain ⟨d, rfl, h1, h2⟩ := d; exact o_go (fun t k => XS.ifNo X.here X.ex rfl (X.dec d) rfl (XT.i0_eq_f q) k) g
theorem o_if_eq (X : St K Z own b mx ret rm n0 k j T h) {x : Int32} {o : Int} (d : Brn b pc (.ifCond .eq o) o pc' tg) (gt : x = 0 → Go K n0 kc kj Q T tg Ls (rest)) (gf : ¬ x = 0 → Go K n0 kc kj Q T pc' Ls (rest)) : Go K n0 kc kj Q T pc Ls (.int x :: rest) := by
  by_cases q : x = 0
  · exact o_if_eq_t X d q (gt q)
  · exact o_if_eq_f X d q (gf q)
theorem o_lif_eq_t (X : St K Z own b mx ret rm n0 k j T h) {x y : Int64} {o : Int} (d : Brn b pc (.ifCond .eq o) o pc' tg) (q : x = y) (g : Go K n0 kc kj Q T tg Ls (rest)) : Go K n0 kc kj Q T pc Ls (.int (XT.cmpL x y) :: rest) := by
  obtain ⟨d, rfl, h1, h2⟩ := d; exact o_go (fun t k => XS.ifYes X.here X.ex rfl rfl (X.dec d) rfl (XT.ll_eq_t q) h1 h2 k) g
theorem o_lif_eq_f (X : St K Z own b mx ret rm n0 k j T h) {x y : Int64} {o : Int} (d : Brn b pc (.ifCond .eq o) o pc' tg) (q : ¬ x = y) (g : Go K n0 kc kj Q T pc' Ls (rest)) : Go K n0 kc kj Q T pc Ls (.int (XT.cmpL x y) :: rest) := by
  obtain ⟨d, rfl, h1, h2⟩ := d; exact o_go (fun t k => XS.ifNo X.here X.ex rfl (X.dec d) rfl (XT.ll_eq_f q) k) g
theorem o_lif_eq (X : St K Z own b mx ret rm n0 k j T h) {x y : Int64} {o : Int} (d : Brn b pc (.ifCond .eq o) o pc' tg) (gt : x = y → Go K n0 kc kj Q T tg Ls (rest)) (gf : ¬ x = y → Go K n0 kc kj Q T pc' Ls (rest)) : Go K n0 kc kj Q T pc Ls (.int (XT.cmpL x y) :: rest) := by
  by_cases q : x = y
  · exact o_lif_eq_t X d q (gt q)
  · exact o_lif_eq_f X d q (gf q)
theorem o_icmp_ne_t (X : St K Z own b mx ret rm n0 k j T h) {x y : Int32} {o : Int} (d : Brn b pc (.if_icmp .ne o) o pc' tg) (q : ¬ x = y) (g : Go K n0 kc kj Q T tg Ls (rest)) : Go K n0 kc kj Q T pc Ls (.int y :: .int x :: rest) := by
  obtain ⟨d, rfl, h1, h2⟩ := d; exact o_go (fun t k => XS.icmpYes X.here X.ex rfl rfl (X.dec d) rfl (XT.ii_ne_t q) h1 h2 k) g
theorem o_icmp_ne_f (X : St K Z own b mx ret rm n0 k j T h) {x y : Int32} {o : Int} (d : Brn b pc (.if_icmp .ne o) o pc' tg) (q : x = y) (g : Go K n0 kc kj Q T pc' Ls (rest)) : Go K n0 kc kj Q T pc Ls (.int y :: .int x :: rest) := by
  obtain ⟨d, rfl, h1, h2⟩ := d; exact o_go (fun t k => XS.icmpNo X.here X.ex rfl (X.dec d) rfl (XT.ii_ne_f q) k) g
theorem o_icmp_ne (X : St K Z own b mx ret rm n0 k j T h) {x y : Int32} {o : Int} (d : Brn b pc (.if_icmp .ne o) o pc' tg) (gt : ¬ x = y → Go K n0 kc kj Q T tg Ls (rest)) (gf : x = y → Go K n0 kc kj Q T pc' Ls (rest)) : Go K n0 kc kj Q T pc Ls (.int y :: .int x :: rest) := by
  by_cases q : x = y
  · exact o_icmp_ne_f X d q (gf q)
  · exact o_icmp_ne_t X d q (gt q)
theorem o_if_ne_t (X : St K Z own b mx ret rm n0 k j T h) {x : Int32} {o : Int} (d : Brn b pc (.ifCond .ne o) o pc' tg) (q : ¬ x = 0) (g : Go K n0 kc kj Q T tg Ls (rest)) : Go K n0 kc kj Q T pc Ls (.int x :: rest) := by
  obtain ⟨d, rfl, h1, h2⟩ := d; exact o_go (fun t k => XS.ifYes X.here X.ex rfl rfl (X.dec d) rfl (XT.i0_ne_t q) h1 h2 k) g
theorem o_if_ne_f (X : St K Z own b mx ret rm n0 k j T h) {x : Int32} {o : Int} (d : Brn b pc (.ifCond .ne o) o pc' tg) (q : x = 0) (g : Go K n0 kc kj Q T pc' Ls (rest)) : Go K n0 kc kj Q T pc Ls (.int x :: rest) := by
  obtain ⟨d, rfl, h1, h2⟩ := d; exact o_go (fun t k => XS.ifNo X.here X.ex rfl (X.dec d) rfl (XT.i0_ne_f q) k) g
theorem o_if_ne (X : St K Z own b mx ret rm n0 k j T h) {x : Int32} {o : Int} (d : Brn b pc (.ifCond .ne o) o pc' tg) (gt : ¬ x = 0 → Go K n0 kc kj Q T tg Ls (rest)) (gf : x = 0 → Go K n0 kc kj Q T pc' Ls (rest)) : Go K n0 kc kj Q T pc Ls (.int x :: rest) := by
  by_cases q : x = 0
  · exact o_if_ne_f X d q (gf q)
  · exact o_if_ne_t X d q (gt q)
theorem o_lif_ne_t (X : St K Z own b mx ret rm n0 k j T h) {x y : Int64} {o : Int} (d : Brn b pc (.ifCond .ne o) o pc' tg) (q : ¬ x = y) (g : Go K n0 kc kj Q T tg Ls (rest)) : Go K n0 kc kj Q T pc Ls (.int (XT.cmpL x y) :: rest) := by
  obtain ⟨d, rfl, h1, h2⟩ := d; exact o_go (fun t k => XS.ifYes X.here X.ex rfl rfl (X.dec d) rfl (XT.ll_ne_t q) h1 h2 k) g
theorem o_lif_ne_f (X : St K Z own b mx ret rm n0 k j T h) {x y : Int64} {o : Int} (d : Brn b pc (.ifCond .ne o) o pc' tg) (q : x = y) (g : Go K n0 kc kj Q T pc' Ls (rest)) : Go K n0 kc kj Q T pc Ls (.int (XT.cmpL x y) :: rest) := by
  obtain ⟨d, rfl, h1, h2⟩ := d; exact o_go (fun t k => XS.ifNo X.here X.ex rfl (X.dec d) rfl (XT.ll_ne_f q) k) g
theorem o_lif_ne (X : St K Z own b mx ret rm n0 k j T h) {x y : Int64} {o : Int} (d : Brn b pc (.ifCond .ne o) o pc' tg) (gt : ¬ x = y → Go K n0 kc kj Q T tg Ls (rest)) (gf : x = y → Go K n0 kc kj Q T pc' Ls (rest)) : Go K n0 kc kj Q T pc Ls (.int (XT.cmpL x y) :: rest) := by
  by_cases q : x = y
  · exact o_lif_ne_f X d q (gf q)
  · exact o_lif_ne_t X d q (gt q)
theorem o_icmp_lt_t (X : St K Z own b mx ret rm n0 k j T h) {x y : Int32} {o : Int} (d : Brn b pc (.if_icmp .lt o) o pc' tg) (q : x < y) (g : Go K n0 kc kj Q T tg Ls (rest)) : Go K n0 kc kj Q T pc Ls (.int y :: .int x :: rest) := by
  obtain ⟨d, rfl, h1, h2⟩ := d; exact o_go (fun t k => XS.icmpYes X.here X.ex rfl rfl (X.dec d) rfl (XT.ii_lt_t q) h1 h2 k) g
theorem o_icmp_lt_f (X : St K Z own b mx ret rm n0 k j T h) {x y : Int32} {o : Int} (d : Brn b pc (.if_icmp .lt o) o pc' tg) (q : ¬ x < y) (g : Go K n0 kc kj Q T pc' Ls (rest)) : Go K n0 kc kj Q T pc Ls (.int y :: .int x :: rest) := by
  obtain ⟨d, rfl, h1, h2⟩ := d; exact o_go (fun t k => XS.icmpNo X.here X.ex rfl (X.dec d) rfl (XT.ii_lt_f q) k) g
theorem o_icmp_lt (X : St K Z own b mx ret rm n0 k j T h) {x y : Int32} {o : Int} (d : Brn b pc (.if_icmp .lt o) o pc' tg) (gt : x < y → Go K n0 kc kj Q T tg Ls (rest)) (gf : ¬ x < y → Go K n0 kc kj Q T pc' Ls (rest)) : Go K n0 kc kj Q T pc Ls (.int y :: .int x :: rest) := by
  by_cases q : x < y
  · exact o_icmp_lt_t X d q (gt q)
  · exact o_icmp_lt_f X d q (gf q)
theorem o_if_lt_t (X : St K Z own b mx ret rm n0 k j T h) {x : Int32} {o : Int} (d : Brn b pc (.ifCond .lt o) o pc' tg) (q : x < 0) (g : Go K n0 kc kj Q T tg Ls (rest)) : Go K n0 kc kj Q T pc Ls (.int x :: rest) := by
  obtain ⟨d, rfl, h1, h2⟩ := d; exact o_go (fun t k => XS.ifYes X.here X.ex rfl rfl (X.dec d) rfl (XT.i0_lt_t q) h1 h2 k) g
theorem o_if_lt_f (X : St K Z own b mx ret rm n0 k j T h) {x : Int32} {o : Int} (d : Brn b pc (.ifCond .lt o) o pc' tg) (q : ¬ x < 0) (g : Go K n0 kc kj Q T pc' Ls (rest)) : Go K n0 kc kj Q T pc Ls (.int x :: rest) := by
  obtain ⟨d, rfl, h1, h2⟩ := d; exact o_go (fun t k => XS.ifNo X.here X.ex rfl (X.dec d) rfl (XT.i0_lt_f q) k) g
theorem o_if_lt (X : St K Z own b mx ret rm n0 k j T h) {x : Int32} {o : Int} (d : Brn b pc (.ifCond .lt o) o pc' tg) (gt : x < 0 → Go K n0 kc kj Q T tg Ls (rest)) (gf : ¬ x < 0 → Go K n0 kc kj Q T pc' Ls (rest)) : Go K n0 kc kj Q T pc Ls (.int x :: rest) := by
  by_cases q : x < 0
  · exact o_if_lt_t X d q (gt q)
  · exact o_if_lt_f X d q (gf q)
theorem o_lif_lt_t (X : St K Z own b mx ret rm n0 k j T h) {x y : Int64} {o : Int} (d : Brn b pc (.ifCond .lt o) o pc' tg) (q : x < y) (g : Go K n0 kc kj Q T tg Ls (rest)) : Go K n0 kc kj Q T pc Ls (.int (XT.cmpL x y) :: rest) := by
  obtain ⟨d, rfl, h1, h2⟩ := d; exact o_go (fun t k => XS.ifYes X.here X.ex rfl rfl (X.dec d) rfl (XT.ll_lt_t q) h1 h2 k) g
theorem o_lif_lt_f (X : St K Z own b mx ret rm n0 k j T h) {x y : Int64} {o : Int} (d : Brn b pc (.ifCond .lt o) o pc' tg) (q : ¬ x < y) (g : Go K n0 kc kj Q T pc' Ls (rest)) : Go K n0 kc kj Q T pc Ls (.int (XT.cmpL x y) :: rest) := by
  obtain ⟨d, rfl, h1, h2⟩ := d; exact o_go (fun t k => XS.ifNo X.here X.ex rfl (X.dec d) rfl (XT.ll_lt_f q) k) g
theorem o_lif_lt (X : St K Z own b mx ret rm n0 k j T h) {x y : Int64} {o : Int} (d : Brn b pc (.ifCond .lt o) o pc' tg) (gt : x < y → Go K n0 kc kj Q T tg Ls (rest)) (gf : ¬ x < y → Go K n0 kc kj Q T pc' Ls (rest)) : Go K n0 kc kj Q T pc Ls (.int (XT.cmpL x y) :: rest) := by
  by_cases q : x < y
  · exact o_lif_lt_t X d q (gt q)
  · exact o_lif_lt_f X d q (gf q)
theorem o_icmp_ge_t (X : St K Z own b mx ret rm n0 k j T h) {x y : Int32} {o : Int} (d : Brn b pc (.if_icmp .ge o) o pc' tg) (q : ¬ x < y) (g : Go K n0 kc kj Q T tg Ls (rest)) : Go K n0 kc kj Q T pc Ls (.int y :: .int x :: rest) := by
  obtain ⟨d, rfl, h1, h2⟩ := d; exact o_go (fun t k => XS.icmpYes X.here X.ex rfl rfl (X.dec d) rfl (XT.ii_ge_t q) h1 h2 k) g
theorem o_icmp_ge_f (X : St K Z own b mx ret rm n0 k j T h) {x y : Int32} {o : Int} (d : Brn b pc (.if_icmp .ge o) o pc' tg) (q : x < y) (g : Go K n0 kc kj Q T pc' Ls (rest)) : Go K n0 kc kj Q T pc Ls (.int y :: .int x :: rest) := by
  obtain ⟨d, rfl, h1, h2⟩ := d; exact o_go (fun t k => XS.icmpNo X.here X.ex rfl (X.dec d) rfl (XT.ii_ge_f q) k) g
theorem o_icmp_ge (X : St K Z own b mx ret rm n0 k j T h) {x y : Int32} {o : Int} (d : Brn b pc (.if_icmp .ge o) o pc' tg) (gt : ¬ x < y → Go K n0 kc kj Q T tg Ls (rest)) (gf : x < y → Go K n0 kc kj Q T pc' Ls (rest)) : Go K n0 kc kj Q T pc Ls (.int y :: .int x :: rest) := by
  by_cases q : x < y
  · exact o_icmp_ge_f X d q (gf q)
  · exact o_icmp_ge_t X d q (gt q)
theorem o_if_ge_t (X : St K Z own b mx ret rm n0 k j T h) {x : Int32} {o : Int} (d : Brn b pc (.ifCond .ge o) o pc' tg) (q : ¬ x < 0) (g : Go K n0 kc kj Q T tg Ls (rest)) : Go K n0 kc kj Q T pc Ls (.int x :: rest) := by
  obtain ⟨d, rfl, h1, h2⟩ := d; exact o_go (fun t k => XS.ifYes X.here X.ex rfl rfl (X.dec d) rfl (XT.i0_ge_t q) h1 h2 k) g
theorem o_if_ge_f (X : St K Z own b mx ret rm n0 k j T h) {x : Int32} {o : Int} (d : Brn b pc (.ifCond .ge o) o pc' tg) (q : x < 0) (g : Go K n0 kc kj Q T pc' Ls (rest)) : Go K n0 kc kj Q T pc Ls (.int x :: rest) := by
  obtain ⟨d, rfl, h1, h2⟩ := d; exact o_go (fun t k => XS.ifNo X.here X.ex rfl (X.dec d) rfl (XT.i0_ge_f q) k) g
theorem o_if_ge (X : St K Z own b mx ret rm n0 k j T h) {x : Int32} {o : Int} (d : Brn b pc (.ifCond .ge o) o pc' tg) (gt : ¬ x < 0 → Go K n0 kc kj Q T tg Ls (rest)) (gf : x < 0 → Go K n0 kc kj Q T pc' Ls (rest)) : Go K n0 kc kj Q T pc Ls (.int x :: rest) := by
  by_cases q : x < 0
  · exact o_if_ge_f X d q (gf q)
  · exact o_if_ge_t X d q (gt q)
theorem o_lif_ge_t (X : St K Z own b mx ret rm n0 k j T h) {x y : Int64} {o : Int} (d : Brn b pc (.ifCond .ge o) o pc' tg) (q : ¬ x < y) (g : Go K n0 kc kj Q T tg Ls (rest)) : Go K n0 kc kj Q T pc Ls (.int (XT.cmpL x y) :: rest) := by
  obtain ⟨d, rfl, h1, h2⟩ := d; exact o_go (fun t k => XS.ifYes X.here X.ex rfl rfl (X.dec d) rfl (XT.ll_ge_t q) h1 h2 k) g
theorem o_lif_ge_f (X : St K Z own b mx ret rm n0 k j T h) {x y : Int64} {o : Int} (d : Brn b pc (.ifCond .ge o) o pc' tg) (q : x < y) (g : Go K n0 kc kj Q T pc' Ls (rest)) : Go K n0 kc kj Q T pc Ls (.int (XT.cmpL x y) :: rest) := by
  obtain ⟨d, rfl, h1, h2⟩ := d; exact o_go (fun t k => XS.ifNo X.here X.ex rfl (X.dec d) rfl (XT.ll_ge_f q) k) g
theorem o_lif_ge (X : St K Z own b mx ret rm n0 k j T h) {x y : Int64} {o : Int} (d : Brn b pc (.ifCond .ge o) o pc' tg) (gt : ¬ x < y → Go K n0 kc kj Q T tg Ls (rest)) (gf : x < y → Go K n0 kc kj Q T pc' Ls (rest)) : Go K n0 kc kj Q T pc Ls (.int (XT.cmpL x y) :: rest) := by
  by_cases q : x < y
  · exact o_lif_ge_f X d q (gf q)
  · exact o_lif_ge_t X d q (gt q)
theorem o_icmp_gt_t (X : St K Z own b mx ret rm n0 k j T h) {x y : Int32} {o : Int} (d : Brn b pc (.if_icmp .gt o) o pc' tg) (q : y < x) (g : Go K n0 kc kj Q T tg Ls (rest)) : Go K n0 kc kj Q T pc Ls (.int y :: .int x :: rest) := by
  obtain ⟨d, rfl, h1, h2⟩ := d; exact o_go (fun t k => XS.icmpYes X.here X.ex rfl rfl (X.dec d) rfl (XT.ii_gt_t q) h1 h2 k) g
theorem o_icmp_gt_f (X : St K Z own b mx ret rm n0 k j T h) {x y : Int32} {o : Int} (d : Brn b pc (.if_icmp .gt o) o pc' tg) (q : ¬ y < x) (g : Go K n0 kc kj Q T pc' Ls (rest)) : Go K n0 kc kj Q T pc Ls (.int y :: .int x :: rest) := by
  obtain ⟨d, rfl, h1, h2⟩ := d; exact o_go (fun t k => XS.icmpNo X.here X.ex rfl (X.dec d) rfl (XT.ii_gt_f q) k) g
theorem o_icmp_gt (X : St K Z own b mx ret rm n0 k j T h) {x y : Int32} {o : Int} (d : Brn b pc (.if_icmp .gt o) o pc' tg) (gt : y < x → Go K n0 kc kj Q T tg Ls (rest)) (gf : ¬ y < x → Go K n0 kc kj Q T pc' Ls (rest)) : Go K n0 kc kj Q T pc Ls (.int y :: .int x :: rest) := by
  by_cases q : y < x
  · exact o_icmp_gt_t X d q (gt q)
  · exact o_icmp_gt_f X d q (gf q)
theorem o_if_gt_t (X : St K Z own b mx ret rm n0 k j T h) {x : Int32} {o : Int} (d : Brn b pc (.ifCond .gt o) o pc' tg) (q : 0 < x) (g : Go K n0 kc kj Q T tg Ls (rest)) : Go K n0 kc kj Q T pc Ls (.int x :: rest) := by
  obtain ⟨d, rfl, h1, h2⟩ := d; exact o_go (fun t k => XS.ifYes X.here X.ex rfl rfl (X.dec d) rfl (XT.i0_gt_t q) h1 h2 k) g
theorem o_if_gt_f (X : St K Z own b mx ret rm n0 k j T h) {x : Int32} {o : Int} (d : Brn b pc (.ifCond .gt o) o pc' tg) (q : ¬ 0 < x) (g : Go K n0 kc kj Q T pc' Ls (rest)) : Go K n0 kc kj Q T pc Ls (.int x :: rest) := by
  obtain ⟨d, rfl, h1, h2⟩ := d; exact o_go (fun t k => XS.ifNo X.here X.ex rfl (X.dec d) rfl (XT.i0_gt_f q) k) g
theorem o_if_gt (X : St K Z own b mx ret rm n0 k j T h) {x : Int32} {o : Int} (d : Brn b pc (.ifCond .gt o) o pc' tg) (gt : 0 < x → Go K n0 kc kj Q T tg Ls (rest)) (gf : ¬ 0 < x → Go K n0 kc kj Q T pc' Ls (rest)) : Go K n0 kc kj Q T pc Ls (.int x :: rest) := by
  by_cases q : 0 < x
  · exact o_if_gt_t X d q (gt q)
  · exact o_if_gt_f X d q (gf q)
theorem o_lif_gt_t (X : St K Z own b mx ret rm n0 k j T h) {x y : Int64} {o : Int} (d : Brn b pc (.ifCond .gt o) o pc' tg) (q : y < x) (g : Go K n0 kc kj Q T tg Ls (rest)) : Go K n0 kc kj Q T pc Ls (.int (XT.cmpL x y) :: rest) := by
  obtain ⟨d, rfl, h1, h2⟩ := d; exact o_go (fun t k => XS.ifYes X.here X.ex rfl rfl (X.dec d) rfl (XT.ll_gt_t q) h1 h2 k) g
theorem o_lif_gt_f (X : St K Z own b mx ret rm n0 k j T h) {x y : Int64} {o : Int} (d : Brn b pc (.ifCond .gt o) o pc' tg) (q : ¬ y < x) (g : Go K n0 kc kj Q T pc' Ls (rest)) : Go K n0 kc kj Q T pc Ls (.int (XT.cmpL x y) :: rest) := by
  obtain ⟨d, rfl, h1, h2⟩ := d; exact o_go (fun t k => XS.ifNo X.here X.ex rfl (X.dec d) rfl (XT.ll_gt_f q) k) g
theorem o_lif_gt (X : St K Z own b mx ret rm n0 k j T h) {x y : Int64} {o : Int} (d : Brn b pc (.ifCond .gt o) o pc' tg) (gt : y < x → Go K n0 kc kj Q T tg Ls (rest)) (gf : ¬ y < x → Go K n0 kc kj Q T pc' Ls (rest)) : Go K n0 kc kj Q T pc Ls (.int (XT.cmpL x y) :: rest) := by
  by_cases q : y < x
  · exact o_lif_gt_t X d q (gt q)
  · exact o_lif_gt_f X d q (gf q)
theorem o_icmp_le_t (X : St K Z own b mx ret rm n0 k j T h) {x y : Int32} {o : Int} (d : Brn b pc (.if_icmp .le o) o pc' tg) (q : ¬ y < x) (g : Go K n0 kc kj Q T tg Ls (rest)) : Go K n0 kc kj Q T pc Ls (.int y :: .int x :: rest) := by
  obtain ⟨d, rfl, h1, h2⟩ := d; exact o_go (fun t k => XS.icmpYes X.here X.ex rfl rfl (X.dec d) rfl (XT.ii_le_t q) h1 h2 k) g
theorem o_icmp_le_f (X : St K Z own b mx ret rm n0 k j T h) {x y : Int32} {o : Int} (d : Brn b pc (.if_icmp .le o) o pc' tg) (q : y < x) (g : Go K n0 kc kj Q T pc' Ls (rest)) : Go K n0 kc kj Q T pc Ls (.int y :: .int x :: rest) := by
  obtain ⟨d, rfl, h1, h2⟩ := d; exact o_go (fun t k => XS.icmpNo X.here X.ex rfl (X.dec d) rfl (XT.ii_le_f q) k) g
theorem o_icmp_le (X : St K Z own b mx ret rm n0 k j T h) {x y : Int32} {o : Int} (d : Brn b pc (.if_icmp .le o) o pc' tg) (gt : ¬ y < x → Go K n0 kc kj Q T tg Ls (rest)) (gf : y < x → Go K n0 kc kj Q T pc' Ls (rest)) : Go K n0 kc kj Q T pc Ls (.int y :: .int x :: rest) := by
  by_cases q : y < x
  · exact o_icmp_le_f X d q (gf q)
  · exact o_icmp_le_t X d q (gt q)
theorem o_if_le_t (X : St K Z own b mx ret rm n0 k j T h) {x : Int32} {o : Int} (d : Brn b pc (.ifCond .le o) o pc' tg) (q : ¬ 0 < x) (g : Go K n0 kc kj Q T tg Ls (rest)) : Go K n0 kc kj Q T pc Ls (.int x :: rest) := by
  obtain ⟨d, rfl, h1, h2⟩ := d; exact o_go (fun t k => XS.ifYes X.here X.ex rfl rfl (X.dec d) rfl (XT.i0_le_t q) h1 h2 k) g
theorem o_if_le_f (X : St K Z own b mx ret rm n0 k j T h) {x : Int32} {o : Int} (d : Brn b pc (.ifCond .le o) o pc' tg) (q : 0 < x) (g : Go K n0 kc kj Q T pc' Ls (rest)) : Go K n0 kc kj Q T pc Ls (.int x :: rest) := by
  obtain ⟨d, rfl, h1, h2⟩ := d; exact o_go (fun t k => XS.ifNo X.here X.ex rfl (X.dec d) rfl (XT.i0_le_f q) k) g
theorem o_if_le (X : St K Z own b mx ret rm n0 k j T h) {x : Int32} {o : Int} (d : Brn b pc (.ifCond .le o) o pc' tg) (gt : ¬ 0 < x → Go K n0 kc kj Q T tg Ls (rest)) (gf : 0 < x → Go K n0 kc kj Q T pc' Ls (rest)) : Go K n0 kc kj Q T pc Ls (.int x :: rest) := by
  by_cases q : 0 < x
  · exact o_if_le_f X d q (gf q)
  · exact o_if_le_t X d q (gt q)
theorem o_lif_le_t (X : St K Z own b mx ret rm n0 k j T h) {x y : Int64} {o : Int} (d : Brn b pc (.ifCond .le o) o pc' tg) (q : ¬ y < x) (g : Go K n0 kc kj Q T tg Ls (rest)) : Go K n0 kc kj Q T pc Ls (.int (XT.cmpL x y) :: rest) := by
  obtain ⟨d, rfl, h1, h2⟩ := d; exact o_go (fun t k => XS.ifYes X.here X.ex rfl rfl (X.dec d) rfl (XT.ll_le_t q) h1 h2 k) g
theorem o_lif_le_f (X : St K Z own b mx ret rm n0 k j T h) {x y : Int64} {o : Int} (d : Brn b pc (.ifCond .le o) o pc' tg) (q : y < x) (g : Go K n0 kc kj Q T pc' Ls (rest)) : Go K n0 kc kj Q T pc Ls (.int (XT.cmpL x y) :: rest) := by
  obtain ⟨d, rfl, h1, h2⟩ := d; exact o_go (fun t k => XS.ifNo X.here X.ex rfl (X.dec d) rfl (XT.ll_le_f q) k) g
theorem o_lif_le (X : St K Z own b mx ret rm n0 k j T h) {x y : Int64} {o : Int} (d : Brn b pc (.ifCond .le o) o pc' tg) (gt : ¬ y < x → Go K n0 kc kj Q T tg Ls (rest)) (gf : y < x → Go K n0 kc kj Q T pc' Ls (rest)) : Go K n0 kc kj Q T pc Ls (.int (XT.cmpL x y) :: rest) := by
  by_cases q : y < x
  · exact o_lif_le_f X d q (gf q)
  · exact o_lif_le_t X d q (gt q)
theorem o_bool_icmp_eq (X : St K Z own b mx ret rm n0 k j T h) {x y : Int32} {o o2 : Int} {pc2 pc3 pj : Nat} (d : Brn b pc (.if_icmp .eq o) o pc' tg) (d1 : Isn b pc' (.iconst 1) 1 pc2) (d2 : Brn b pc2 (.goto o2) o2 pc3 pj) (d3 : Isn b tg (.iconst 0) 1 pj) (g : Go K n0 kc kj Q T pj Ls (.int (if x = y then 0 else 1) :: rest)) : Go K n0 kc kj Q T pc Ls (.int y :: .int x :: rest) := by
  refine o_icmp_eq X d (fun q => o_iconst 0 X d3 rfl ?_) (fun q => o_iconst 1 X d1 rfl (o_goto X d2 ?_))
  · simpa only [q, if_true, if_false] using g
  · simpa only [q, if_true, if_false] using g
theorem o_bool_if_eq (X : St K Z own b mx ret rm n0 k j T h) {x : Int32} {o o2 : Int} {pc2 pc3 pj : Nat} (d : Brn b pc (.ifCond .eq o) o pc' tg) (d1 : Isn b pc' (.iconst 1) 1 pc2) (d2 : Brn b pc2 (.goto o2) o2 pc3 pj) (d3 : Isn b tg (.iconst 0) 1 pj) (g : Go K n0 kc kj Q T pj Ls (.int (if x = 0 then 0 else 1) :: rest)) : Go K n0 kc kj Q T pc Ls (.int x :: rest) := by
  refine o_if_eq X d (fun q => o_iconst 0 X d3 rfl ?_) (fun q => o_iconst 1 X d1 rfl (o_goto X d2 ?_))
  · simpa only [q, if_true, if_false] using g
  · simpa only [q, if_true, if_false] using g
theorem o_bool_lif_eq (X : St K Z own b mx ret rm n0 k j T h) {x y : Int64} {o o2 : Int} {pc2 pc3 pj : Nat} (d : Brn b pc (.ifCond .eq o) o pc' tg) (d1 : Isn b pc' (.iconst 1) 1 pc2) (d2 : Brn b pc2 (.goto o2) o2 pc3 pj) (d3 : Isn b tg (.iconst 0) 1 pj) (g : Go K n0 kc kj Q T pj Ls (.int (if x = y then 0 else 1) :: rest)) : Go K n0 kc kj Q T pc Ls (.int (XT.cmpL x y) :: rest) := by
  refine o_lif_eq X d (fun q => o_iconst 0 X d3 rfl ?_) (fun q => o_iconst 1 X d1 rfl (o_goto X d2 ?_))
  · simpa only [q, if_true, if_false] using g
  · simpa only [q, if_true, if_false] using g
theorem o_bool_icmp_ne (X : St K Z own b mx ret rm n0 k j T h) {x y : Int32} {o o2 : Int} {pc2 pc3 pj : Nat} (d : Brn b pc (.if_icmp .ne o) o pc' tg) (d1 : Isn b pc' (.iconst 1) 1 pc2) (d2 : Brn b pc2 (.goto o2) o2 pc3 pj) (d3 : Isn b tg (.iconst 0) 1 pj) (g : Go K n0 kc kj Q T pj Ls (.int (if x = y then 1 else 0) :: rest)) : Go K n0 kc kj Q T pc Ls (.int y :: .int x :: rest) := by
  refine o_icmp_ne X d (fun q => o_iconst 0 X d3 rfl ?_) (fun q => o_iconst 1 X d1 rfl (o_goto X d2 ?_))
  · simpa only [q, if_true, if_false] using g
  · simpa only [q, if_true, if_false] using g
theorem o_bool_if_ne (X : St K Z own b mx ret rm n0 k j T h) {x : Int32} {o o2 : Int} {pc2 pc3 pj : Nat} (d : Brn b pc (.ifCond .ne o) o pc' tg) (d1 : Isn b pc' (.iconst 1) 1 pc2) (d2 : Brn b pc2 (.goto o2) o2 pc3 pj) (d3 : Isn b tg (.iconst 0) 1 pj) (g : Go K n0 kc kj Q T pj Ls (.int (if x = 0 then 1 else 0) :: rest)) : Go K n0 kc kj Q T pc Ls (.int x :: rest) := by
  refine o_if_ne X d (fun q => o_iconst 0 X d3 rfl ?_) (fun q => o_iconst 1 X d1 rfl (o_goto X d2 ?_))
  · simpa only [q, if_true, if_false] using g
  · simpa only [q, if_true, if_false] using g
theorem o_bool_lif_ne (X : St K Z own b mx ret rm n0 k j T h) {x y : Int64} {o o2 : Int} {pc2 pc3 pj : Nat} (d : Brn b pc (.ifCond .ne o) o pc' tg) (d1 : Isn b pc' (.iconst 1) 1 pc2) (d2 : Brn b pc2 (.goto o2) o2 pc3 pj) (d3 : Isn b tg (.iconst 0) 1 pj) (g : Go K n0 kc kj Q T pj Ls (.int (if x = y then 1 else 0) :: rest)) : Go K n0 kc kj Q T pc Ls (.int (XT.cmpL x y) :: rest) := by
  refine o_lif_ne X d (fun q => o_iconst 0 X d3 rfl ?_) (fun q => o_iconst 1 X d1 rfl (o_goto X d2 ?_))
  · simpa only [q, if_true, if_false] using g
  · simpa only [q, if_true, if_false] using g
theorem o_bool_icmp_lt (X : St K Z own b mx ret rm n0 k j T h) {x y : Int32} {o o2 : Int} {pc2 pc3 pj : Nat} (d : Brn b pc (.if_icmp .lt o) o pc' tg) (d1 : Isn b pc' (.iconst 1) 1 pc2) (d2 : Brn b pc2 (.goto o2) o2 pc3 pj) (d3 : Isn b tg (.iconst 0) 1 pj) (g : Go K n0 kc kj Q T pj Ls (.int (if x < y then 0 else 1) :: rest)) : Go K n0 kc kj Q T pc Ls (.int y :: .int x :: rest) := by
  refine o_icmp_lt X d (fun q => o_iconst 0 X d3 rfl ?_) (fun q => o_iconst 1 X d1 rfl (o_goto X d2 ?_))
  · simpa only [q, if_true, if_false] using g
  · simpa only [q, if_true, if_false] using g
theorem o_bool_if_lt (X : St K Z own b mx ret rm n0 k j T h) {x : Int32} {o o2 : Int} {pc2 pc3 pj : Nat} (d : Brn b pc (.ifCond .lt o) o pc' tg) (d1 : Isn b pc' (.iconst 1) 1 pc2) (d2 : Brn b pc2 (.goto o2) o2 pc3 pj) (d3 : Isn b tg (.iconst 0) 1 pj) (g : Go K n0 kc kj Q T pj Ls (.int (if x < 0 then 0 else 1) :: rest)) : Go K n0 kc kj Q T pc Ls (.int x :: rest) := by
  refine o_if_lt X d (fun q => o_iconst 0 X d3 rfl ?_) (fun q => o_iconst 1 X d1 rfl (o_goto X d2 ?_))
  · simpa only [q, if_true, if_false] using g
  · simpa only [q, if_true, if_false] using g
theorem o_bool_lif_lt (X : St K Z own b mx ret rm n0 k j T h) {x y : Int64} {o o2 : Int} {pc2 pc3 pj : Nat} (d : Brn b pc (.ifCond .lt o) o pc' tg) (d1 : Isn b pc' (.iconst 1) 1 pc2) (d2 : Brn b pc2 (.goto o2) o2 pc3 pj) (d3 : Isn b tg (.iconst 0) 1 pj) (g : Go K n0 kc kj Q T pj Ls (.int (if x < y then 0 else 1) :: rest)) : Go K n0 kc kj Q T pc Ls (.int (XT.cmpL x y) :: rest) := by
  refine o_lif_lt X d (fun q => o_iconst 0 X d3 rfl ?_) (fun q => o_iconst 1 X d1 rfl (o_goto X d2 ?_))
  · simpa only [q, if_true, if_false] using g
  · simpa only [q, if_true, if_false] using g
theorem o_bool_icmp_ge (X : St K Z own b mx ret rm n0 k j T h) {x y : Int32} {o o2 : Int} {pc2 pc3 pj : Nat} (d : Brn b pc (.if_icmp .ge o) o pc' tg) (d1 : Isn b pc' (.iconst 1) 1 pc2) (d2 : Brn b pc2 (.goto o2) o2 pc3 pj) (d3 : Isn b tg (.iconst 0) 1 pj) (g : Go K n0 kc kj Q T pj Ls (.int (if x < y then 1 else 0) :: rest)) : Go K n0 kc kj Q T pc Ls (.int y :: .int x :: rest) := by
  refine o_icmp_ge X d (fun q => o_iconst 0 X d3 rfl ?_) (fun q => o_iconst 1 X d1 rfl (o_goto X d2 ?_))
  · simpa only [q, if_true, if_false] using g
  · simpa only [q, if_true, if_false] using g
theorem o_bool_if_ge (X : St K Z own b mx ret rm n0 k j T h) {x : Int32} {o o2 : Int} {pc2 pc3 pj : Nat} (d : Brn b pc (.ifCond .ge o) o pc' tg) (d1 : Isn b pc' (.iconst 1) 1 pc2) (d2 : Brn b pc2 (.goto o2) o2 pc3 pj) (d3 : Isn b tg (.iconst 0) 1 pj) (g : Go K n0 kc kj Q T pj Ls (.int (if x < 0 then 1 else 0) :: rest)) : Go K n0 kc kj Q T pc Ls (.int x :: rest) := by
  refine o_if_ge X d (fun q => o_iconst 0 X d3 rfl ?_) (fun q => o_iconst 1 X d1 rfl (o_goto X d2 ?_))
  · simpa only [q, if_true, if_false] using g
  · simpa only [q, if_true, if_false] using g
theorem o_bool_lif_ge (X : St K Z own b mx ret rm n0 k j T h) {x y : Int64} {o o2 : Int} {pc2 pc3 pj : Nat} (d : Brn b pc (.ifCond .ge o) o pc' tg) (d1 : Isn b pc' (.iconst 1) 1 pc2) (d2 : Brn b pc2 (.goto o2) o2 pc3 pj) (d3 : Isn b tg (.iconst 0) 1 pj) (g : Go K n0 kc kj Q T pj Ls (.int (if x < y then 1 else 0) :: rest)) : Go K n0 kc kj Q T pc Ls (.int (XT.cmpL x y) :: rest) := by
  refine o_lif_ge X d (fun q => o_iconst 0 X d3 rfl ?_) (fun q => o_iconst 1 X d1 rfl (o_goto X d2 ?_))
  · simpa only [q, if_true, if_false] using g
  · simpa only [q, if_true, if_false] using g
theorem o_bool_icmp_gt (X : St K Z own b mx ret rm n0 k j T h) {x y : Int32} {o o2 : Int} {pc2 pc3 pj : Nat} (d : Brn b pc (.if_icmp .gt o) o pc' tg) (d1 : Isn b pc' (.iconst 1) 1 pc2) (d2 : Brn b pc2 (.goto o2) o2 pc3 pj) (d3 : Isn b tg (.iconst 0) 1 pj) (g : Go K n0 kc kj Q T pj Ls (.int (if y < x then 0 else 1) :: rest)) : Go K n0 kc kj Q T pc Ls (.int y :: .int x :: rest) := by
  refine o_icmp_gt X d (fun q => o_iconst 0 X d3 rfl ?_) (fun q => o_iconst 1 X d1 rfl (o_goto X d2 ?_))
  · simpa only [q, if_true, if_false] using g
  · simpa only [q, if_true, if_false] using g
theorem o_bool_if_gt (X : St K Z own b mx ret rm n0 k j T h) {x : Int32} {o o2 : Int} {pc2 pc3 pj : Nat} (d : Brn b pc (.ifCond .gt o) o pc' tg) (d1 : Isn b pc' (.iconst 1) 1 pc2) (d2 : Brn b pc2 (.goto o2) o2 pc3 pj) (d3 : Isn b tg (.iconst 0) 1 pj) (g : Go K n0 kc kj Q T pj Ls (.int (if 0 < x then 0 else 1) :: rest)) : Go K n0 kc kj Q T pc Ls (.int x :: rest) := by
  refine o_if_gt X d (fun q => o_iconst 0 X d3 rfl ?_) (fun q => o_iconst 1 X d1 rfl (o_goto X d2 ?_))
  · simpa only [q, if_true, if_false] using g
  · simpa only [q, if_true, if_false] using g
theorem o_bool_lif_gt (X : St K Z own b mx ret rm n0 k j T h) {x y : Int64} {o o2 : Int} {pc2 pc3 pj : Nat} (d : Brn b pc (.ifCond .gt o) o pc' tg) (d1 : Isn b pc' (.iconst 1) 1 pc2) (d2 : Brn b pc2 (.goto o2) o2 pc3 pj) (d3 : Isn b tg (.iconst 0) 1 pj) (g : Go K n0 kc kj Q T pj Ls (.int (if y < x then 0 else 1) :: rest)) : Go K n0 kc kj Q T pc Ls (.int (XT.cmpL x y) :: rest) := by
  refine o_lif_gt X d (fun q => o_iconst 0 X d3 rfl ?_) (fun q => o_iconst 1 X d1 rfl (o_goto X d2 ?_))
  · simpa only [q, if_true, if_false] using g
  · simpa only [q, if_true, if_false] using g
theorem o_bool_icmp_le (X : St K Z own b mx ret rm n0 k j T h) {x y : Int32} {o o2 : Int} {pc2 pc3 pj : Nat} (d : Brn b pc (.if_icmp .le o) o pc' tg) (d1 : Isn b pc' (.iconst 1) 1 pc2) (d2 : Brn b pc2 (.goto o2) o2 pc3 pj) (d3 : Isn b tg (.iconst 0) 1 pj) (g : Go K n0 kc kj Q T pj Ls (.int (if y < x then 1 else 0) :: rest)) : Go K n0 kc kj Q T pc Ls (.int y :: .int x :: rest) := by
  refine o_icmp_le X d (fun q => o_iconst 0 X d3 rfl ?_) (fun q => o_iconst 1 X d1 rfl (o_goto X d2 ?_))
  · simpa only [q, if_true, if_false] using g
  · simpa only [q, if_true, if_false] using g
theorem o_bool_if_le (X : St K Z own b mx ret rm n0 k j T h) {x : Int32} {o o2 : Int} {pc2 pc3 pj : Nat} (d : Brn b pc (.ifCond .le o) o pc' tg) (d1 : Isn b pc' (.iconst 1) 1 pc2) (d2 : Brn b pc2 (.goto o2) o2 pc3 pj) (d3 : Isn b tg (.iconst 0) 1 pj) (g : Go K n0 kc kj Q T pj Ls (.int (if 0 < x then 1 else 0) :: rest)) : Go K n0 kc kj Q T pc Ls (.int x :: rest) := by
  refine o_if_le X d (fun q => o_iconst 0 X d3 rfl ?_) (fun q => o_iconst 1 X d1 rfl (o_goto X d2 ?_))
  · simpa only [q, if_true, if_false] using g
  · simpa only [q, if_true, if_false] using g
theorem o_bool_lif_le (X : St K Z own b mx ret rm n0 k j T h) {x y : Int64} {o o2 : Int} {pc2 pc3 pj : Nat} (d : Brn b pc (.ifCond .le o) o pc' tg) (d1 : Isn b pc' (.iconst 1) 1 pc2) (d2 : Brn b pc2 (.goto o2) o2 pc3 pj) (d3 : Isn b tg (.iconst 0) 1 pj) (g : Go K n0 kc kj Q T pj Ls (.int (if y < x then 1 else 0) :: rest)) : Go K n0 kc kj Q T pc Ls (.int (XT.cmpL x y) :: rest) := by
  refine o_lif_le X d (fun q => o_iconst 0 X d3 rfl ?_) (fun q => o_iconst 1 X d1 rfl (o_goto X d2 ?_))
  · simpa only [q, if_true, if_false] using g
  · simpa only [q, if_true, if_false] using g
theorem o_ifnonnull_r (X : St K Z own b mx ret rm n0 k j T h) {a : Addr} {o : Int} (d : Brn b pc (.ifnonnull o) o pc' tg) (g : Go K n0 kc kj Q T tg Ls (rest)) : Go K n0 kc kj Q T pc Ls (.ref a :: rest) := by
  obtain ⟨d, rfl, h1, h2⟩ := d; exact o_go (fun t k => XT.ifnonnullYes X.here X.ex rfl rfl (X.dec d) rfl h1 h2 k) g
theorem o_ifnonnull_0 (X : St K Z own b mx ret rm n0 k j T h) {o : Int} (d : Brn b pc (.ifnonnull o) o pc' tg) (g : Go K n0 kc kj Q T pc' Ls (rest)) : Go K n0 kc kj Q T pc Ls (.null :: rest) := by
  obtain ⟨d, rfl, h1, h2⟩ := d; exact o_go (fun t k => XT.ifnonnullNo X.here X.ex rfl (X.dec d) rfl k) g
theorem o_ifnull_r (X : St K Z own b mx ret rm n0 k j T h) {a : Addr} {o : Int} (d : Brn b pc (.ifnull o) o pc' tg) (g : Go K n0 kc kj Q T pc' Ls (rest)) : Go K n0 kc kj Q T pc Ls (.ref a :: rest) := by
  obtain ⟨d, rfl, h1, h2⟩ := d; exact o_go (fun t k => XS.ifnullNo X.here X.ex rfl (X.dec d) rfl k) g
theorem o_ifnull_0 (X : St K Z own b mx ret rm n0 k j T h) {o : Int} (d : Brn b pc (.ifnull o) o pc' tg) (g : Go K n0 kc kj Q T tg Ls (rest)) : Go K n0 kc kj Q T pc Ls (.null :: rest) := by
  obtain ⟨d, rfl, h1, h2⟩ := d; exact o_go (fun t k => XS.ifnullYes X.here X.ex rfl rfl (X.dec d) rfl h1 h2 k) g
theorem o_leave (X : St K Z own b mx ret rm n0 k j T h) {v : Option Value} (hv : ret = none → v = none) (hk : k ≤ kc) (hj : j ≤ kj) (q : Q v h)
    (f : ∀ fs, (∀ (f : JFrame) (acts : List Action), f.method = K.m → f.locked = none → f.entered = [] → (doReturn K.e (T.setTop f) acts v).1 = T.setFrames fs) → Steps K.p.tables K.e K.below (T.setTop (mkF K.m pc Ls st)) (T.setFrames fs)) : Go K n0 kc kj Q T pc Ls (st) := by
  obtain ⟨locs, S, N⟩ := X.sd
  obtain ⟨fs, hr, hrun, hended, hW, hsame⟩ := S.leave (v := v) (fun q => hv (X.rt.symm.trans q)) X.nl
  have e : (T.setFrames fs).heap = h := X.hp
  exact ⟨_, _, f fs hr, hrun, hended, v, locs, rfl, ⟨e ▸ q, N⟩, ⟨v, rfl⟩, hW, hsame.mono hk hj⟩
theorem o_retI (X : St K Z own b mx (some .int) rm n0 k j T h) {z : Int32} (d : Isn b pc .ireturn 1 pc') (hk : k ≤ kc) (hj : j ≤ kj) (q : Q (some (.int z)) h) : Go K n0 kc kj Q T pc Ls (.int z :: rest) := by
  obtain ⟨_, S, _⟩ := X.sd
  exact o_leave X (fun q => nomatch q) hk hj q fun fs hr => retOut S X.ex X.rt rfl (Or.inl ⟨rfl, Or.inl rfl, z, rfl⟩) (X.dec d.1) hr
theorem o_retL (X : St K Z own b mx (some .long) rm n0 k j T h) {z : Int64} (d : Isn b pc .lreturn 1 pc') (hk : k ≤ kc) (hj : j ≤ kj) (q : Q (some (.long z)) h) : Go K n0 kc kj Q T pc Ls (.long z :: rest) := by
  obtain ⟨_, S, _⟩ := X.sd
  exact o_leave X (fun q => nomatch q) hk hj q fun fs hr => retOut S X.ex X.rt rfl (Or.inr (Or.inl ⟨rfl, rfl, z, rfl⟩)) (X.dec d.1) hr
theorem o_retA {t : FieldType} (X : St K Z own b mx (some t) rm n0 k j T h) {z : Value} (ht : t.isReference = true) (hn : narrow t z = z) (hz : z.isRef = true) (d : Isn b pc .areturn 1 pc') (hk : k ≤ kc) (hj : j ≤ kj) (q : Q (some z) h) : Go K n0 kc kj Q T pc Ls (z :: rest) := by
  obtain ⟨_, S, _⟩ := X.sd
  exact o_leave X (fun q => nomatch q) hk hj q fun fs hr => retOut S X.ex X.rt hn (Or.inr (Or.inr (Or.inr (Or.inr ⟨rfl, ht, hz⟩)))) (X.dec d.1) hr
theorem o_retN {t : FieldType} (X : St K Z own b mx (some t) rm n0 k j T h) {z : Int32} (ht : t = .boolean ∨ t = .byte ∨ t = .char ∨ t = .short) (d : Isn b pc .ireturn 1 pc') (hk : k ≤ kc) (hj : j ≤ kj) (q : Q (some (.int (nar t z))) h) : Go K n0 kc kj Q T pc Ls (.int z :: rest) := by
  obtain ⟨_, S, _⟩ := X.sd
  exact o_leave X (fun q => nomatch q) hk hj q fun fs hr => retN S X.ex X.rt ht (X.dec d.1) hr
theorem o_retZ (X : St K Z own b mx (some .boolean) rm n0 k j T h) {z : Int32} (d : Isn b pc .ireturn 1 pc') (hk : k ≤ kc) (hj : j ≤ kj) (q : Q (some (.int (z &&& 1))) h) : Go K n0 kc kj Q T pc Ls (.int z :: rest) := o_retN X (Or.inl rfl) d hk hj q
theorem o_ret0 (X : St K Z own b mx none rm n0 k j T h) (d : Isn b pc .return_ 1 pc') (hk : k ≤ kc) (hj : j ≤ kj) (q : Q none h) : Go K n0 kc kj Q T pc Ls ([]) := by
  obtain ⟨_, S, _⟩ := X.sd
  exact o_leave X (fun _ => rfl) hk hj q fun fs hr => S.returnOut X.ex X.rt (X.dec d.1) hr
theorem CtrW.intro {l : Launch} {y : MethodName} {ws : List Jvm.Cond} {as' : List Value} (pn : plainFor y = true) (ho : y.cls = own) (Ls : Array Slot) (hE : Jvm.Sym.laidSlots as' ++ List.replicate (mx - (Jvm.Sym.laidSlots as').length) .unset = Ls.toList)
    (body : ∀ (K : Cx) (T : State), K.meth.name = y.name → K.l = l → St K Z own b mx ret rm n0 0 0 T h → Go K n0 kc kj Q T 0 Ls []) : CtrW l Z y b mx ret ws rm kc kj as' h n0 Q := by
  refine MetFree.of_bodySF pn hisR ?_
  intro p e s m args below meth c s₁ Bd hml0 hP hK
  obtain ⟨rfl, hZ, hh⟩ := hP
  subst ho
  have X0 : Stand p l e rm s m as'.toArray below meth c s₁ [] 0 0 := Stand.of_body Bd
  have e0 : s₁.heap = h := by rw [← hh, Bd.state]; rfl
  obtain ⟨t, o, h1, h2, h3, h4⟩ := body (p, l, e, rm, s, m, as'.toArray, below, meth, c) s₁ (name_of_methodNamed Bd.named Bd.method).1 rfl ⟨Bd.exec, hZ, findClass_of_methodNamed Bd.named, Bd.bytes, hml0, Bd.returns, Bd.notSynchronized, rfl, e0, [], X0, Fr.nil n0⟩
  exact ⟨t, o, (XT.entry hE).trans h1, h2, h3, h4⟩
theorem o_callS (X : St K Z own b mx ret rm n0 k j T h) (W : Nat) {i : Nat} {y : MethodName} {by' : ByteArray} {my : Nat} {ry : Option FieldType} {rmy : Room} {as' : List Value} {Qy : Option Value → Heap → Prop} (d : Isn b pc (.invokestatic i) 3 pc')
    (w1 : (Jvm.Cond.methodLink own i y).before a0 Z = true) (w2 : (Jvm.Cond.static y).before a0 Z = true) (w3 : (Jvm.Cond.initialized y.cls).before a0 Z = true) (w4 : (Jvm.Cond.code y by' my ry).before a0 Z = true)
    (hy : y.cls ≠ "java/lang/invoke/MethodHandle" ∧ y.cls ≠ "java/lang/invoke/VarHandle") (C : Ctr K.l Z y by' my ry rmy as' h n0 Qy) (hn : ∀ sig, parseMethodDescriptor y.desc = some sig → as'.length = sig.parameters.length)
    (hs : st = as'.reverse ++ rest) (hsz : Ls.size = mx) (hW : (rest.map fun v => v.category).sum ≤ W) (hr : rmy.frames + 1 ≤ rm.frames ∧ W + (my + 11) + rmy.locals ≤ rm.locals ∧ k + rmy.cells ≤ rm.cells ∧ j + rmy.slots ≤ rm.slots)
    (g : ∀ T' h' v, Qy v h' → St K Z own b mx ret rm n0 (k + rmy.cells) (j + rmy.slots) T' h' → Go K n0 kc kj Q T' pc' Ls (v.toList ++ rest)) : Go K n0 kc kj Q T pc Ls (st) := by
  obtain ⟨d, rfl⟩ := d; obtain ⟨locs, S, N⟩ := X.sd; have hR := X.rmE
  obtain ⟨v, _, ⟨T', L', k', j'⟩, -, S', ⟨Lc, ⟨hQ, NL⟩, l1, l2, l3⟩, st'⟩ := Jvm.LawKit.callS S X.ex (y := y) X.ow (mvT X.wZ w1) (mvT X.wZ w2) (mvT X.wZ w3) (mvT X.wZ w4) hy (backOf (W := W) (Q := fun v h L => Qy v h ∧ Fr n0 L) C X.wZ w4 w3 (by rw [hR]; exact hr.1) (by rw [hR]; exact hr.2.1)) (g := mkF K.m pc Ls st) rfl (hsz.trans X.ml.symm) (argsL := as') (rest := rest) hn hs (by show 2 * 0 + _ ≤ _; omega) (X.dec d) (fun _ _ => ⟨rfl, X.hp, by rw [hR]; exact hr.2.2.1, by rw [hR]; exact hr.2.2.2⟩)
  dsimp only [Pt.U, Pt.locs, Pt.cells, Pt.slots] at S' l1 l2 l3 st' hQ
  subst l1 l2 l3
  exact o_go (fun t k => st' t k) (g T' T'.heap v hQ (X.mk' S' (Fr.app N NL) rfl))
theorem o_callV (X : St K Z own b mx ret rm n0 k j T h) (W : Nat) {i : Nat} {y z : MethodName} {C' : String} {by' : ByteArray} {my : Nat} {ry : Option FieldType} {rmy : Room} {a : Addr} {as' : List Value} {Qy : Option Value → Heap → Prop} (d : Isn b pc (.invokevirtual i) 3 pc')
    (w1 : (Jvm.Cond.methodLink own i y).before a0 Z = true) (w2 : (Jvm.Cond.declares y).before a0 Z = true) (w3 : (Jvm.Cond.selects y.cls y y).before a0 Z = true) (w5 : (Jvm.Cond.selects C' y z).before a0 Z = true) (w6 : (Jvm.Cond.instanceMethod z).before a0 Z = true)
    (hy : y.cls ≠ "java/lang/invoke/MethodHandle" ∧ y.cls ≠ "java/lang/invoke/VarHandle") (w4 : (Jvm.Cond.code z by' my ry).before a0 Z = true) (w7 : (Jvm.Cond.initialized z.cls).before a0 Z = true) (C : Ctr K.l Z z by' my ry rmy (.ref a :: as') h n0 Qy) (E : Exa Z h a C') (hn : ∀ sig, parseMethodDescriptor y.desc = some sig → as'.length = sig.parameters.length)
    (hs : st = as'.reverse ++ .ref a :: rest) (hsz : Ls.size = mx) (hW : (rest.map fun v => v.category).sum ≤ W) (hr : rmy.frames + 1 ≤ rm.frames ∧ W + (my + 11) + rmy.locals ≤ rm.locals ∧ k + rmy.cells ≤ rm.cells ∧ j + rmy.slots ≤ rm.slots)
    (g : ∀ T' h' v, Qy v h' → St K Z own b mx ret rm n0 (k + rmy.cells) (j + rmy.slots) T' h' → Go K n0 kc kj Q T' pc' Ls (v.toList ++ rest)) : Go K n0 kc kj Q T pc Ls (st) := by
  obtain ⟨d, rfl⟩ := d; obtain ⟨locs, S, N⟩ := X.sd; have hR := X.rmE
  obtain ⟨cq, kq, q1, q2, q3⟩ := isOf (s := K.s) X.wZ X.hp E
  obtain ⟨v, _, ⟨T', L', k', j'⟩, -, S', ⟨Lc, ⟨hQ, NL⟩, l1, l2, l3⟩, st'⟩ := S.virtualBack X.ex (y := y) (z := z) X.ow (mvT X.wZ w1) (mvT X.wZ w2) (notFace_of_selects (args := #[]) (mvT X.wZ w3)) (mvT X.wZ w5) (mvT X.wZ w6) hy (backOf (W := W) (Q := fun v h L => Qy v h ∧ Fr n0 L) C X.wZ w4 w7 (by rw [hR]; exact hr.1) (by rw [hR]; exact hr.2.1)) q1 q3 (g := mkF K.m pc Ls st) rfl (hsz.trans X.ml.symm) (Steps.refl _) (argsL := as') (rest := rest) hn hs (by show 2 * 0 + _ ≤ _; omega) (X.dec d) (fun _ _ => ⟨rfl, X.hp, by rw [hR]; exact hr.2.2.1, by rw [hR]; exact hr.2.2.2⟩)
  dsimp only [Pt.U, Pt.locs, Pt.cells, Pt.slots] at S' l1 l2 l3 st' hQ
  subst l1 l2 l3
  exact o_go (fun t k => st'.trans k) (g T' T'.heap v hQ (X.mk' S' (Fr.app N NL) rfl))
theorem o_callN (X : St K Z own b mx ret rm n0 k j T h) (W : Nat) {i : Nat} {y : MethodName} {by' : ByteArray} {my : Nat} {rmy : Room} {a : Addr} {as' : List Value} {Qy : Option Value → Heap → Prop} (d : Isn b pc (.invokespecial i) 3 pc') (hy1 : y.name = "<init>")
    (w1 : (Jvm.Cond.methodLink own i y).before a0 Z = true) (w2 : (Jvm.Cond.instanceMethod y).before a0 Z = true) (w4 : (Jvm.Cond.code y by' my none).before a0 Z = true) (w3 : (Jvm.Cond.initialized y.cls).before a0 Z = true)
    (hy : y.cls ≠ "java/lang/invoke/MethodHandle" ∧ y.cls ≠ "java/lang/invoke/VarHandle") (C : Ctr K.l Z y by' my none rmy (.ref a :: as') h n0 Qy) (hn : ∀ sig, parseMethodDescriptor y.desc = some sig → as'.length = sig.parameters.length)
    (hs : st = as'.reverse ++ .ref a :: rest) (hsz : Ls.size = mx) (hW : (rest.map fun v => v.category).sum ≤ W) (hr : rmy.frames + 1 ≤ rm.frames ∧ W + (my + 11) + rmy.locals ≤ rm.locals ∧ k + rmy.cells ≤ rm.cells ∧ j + rmy.slots ≤ rm.slots)
    (g : ∀ T' h' v, Qy v h' → St K Z own b mx ret rm n0 (k + rmy.cells) (j + rmy.slots) T' h' → Go K n0 kc kj Q T' pc' Ls (v.toList ++ rest)) : Go K n0 kc kj Q T pc Ls (st) := by
  obtain ⟨d, rfl⟩ := d; obtain ⟨locs, S, N⟩ := X.sd; have hR := X.rmE
  obtain ⟨v, _, ⟨T', L', k', j'⟩, -, S', ⟨Lc, ⟨hQ, NL⟩, l1, l2, l3⟩, st'⟩ := S.specialBack X.ex (y := y) hy1 X.ow (mvT X.wZ w1) (mvT X.wZ w2) (mvT X.wZ w4) hy (backOf (W := W) (Q := fun v h L => Qy v h ∧ Fr n0 L) C X.wZ w4 w3 (by rw [hR]; exact hr.1) (by rw [hR]; exact hr.2.1)) (g := mkF K.m pc Ls st) rfl (hsz.trans X.ml.symm) (Steps.refl _) (a := a) (argsL := as') (rest := rest) hn hs (by show 2 * 0 + _ ≤ _; omega) (X.dec d) (fun _ _ => ⟨rfl, X.hp, by rw [hR]; exact hr.2.2.1, by rw [hR]; exact hr.2.2.2⟩)
  dsimp only [Pt.U, Pt.locs, Pt.cells, Pt.slots] at S' l1 l2 l3 st' hQ
  subst l1 l2 l3
  exact o_go (fun t k => st'.trans k) (g T' T'.heap v hQ (X.mk' S' (Fr.app N NL) rfl))
theorem o_initO (X : St K Z own b mx ret rm n0 k j T h) (W : Nat) {i : Nat} {a : Addr} (d : Isn b pc (.invokespecial i) 3 pc') (w1 : (Jvm.Cond.methodLink own i Lib.objectInit).before a0 Z = true) (w2 : (Jvm.Cond.instanceMethod Lib.objectInit).before a0 Z = true) (w3 : (Jvm.Cond.code Lib.objectInit ⟨#[0xb1]⟩ 1 none).before a0 Z = true)
    (hsz : Ls.size = mx) (hW : (rest.map fun v => v.category).sum ≤ W) (hr : 1 ≤ rm.frames ∧ W + 12 ≤ rm.locals) (g : ∀ T', St K Z own b mx ret rm n0 k j T' h → Go K n0 kc kj Q T' pc' Ls (rest)) : Go K n0 kc kj Q T pc Ls (.ref a :: rest) := by
  obtain ⟨d, rfl⟩ := d; obtain ⟨locs, S, N⟩ := X.sd; have hR := X.rmE
  obtain ⟨T', S', e', st'⟩ := initO S X.ex X.wZ X.ow w1 w2 w3 X.hp (g := mkF K.m pc Ls (.ref a :: rest)) rfl (hsz.trans X.ml.symm) rfl (X.dec d) (by rw [hR]; exact hr.1) (W := W) (by show 2 * 0 + _ ≤ _; omega) (by rw [hR]; exact hr.2)
  exact o_go (fun t k => st' t k) (g T' (X.mk' S' N e'))
theorem o_getF (X : St K Z own b mx ret rm n0 k j T h) {i : Nat} {O n dd : String} {a : Addr} {v : Value} (d : Isn b pc (.getfield i) 3 pc') (wd : (Jvm.Cond.fieldLink own i O n dd).before a0 Z = true) (F : Fld Z h a O n dd v)
    (g : ∀ T', St K Z own b mx ret rm n0 k j T' h → Go K n0 kc kj Q T' pc' Ls (v :: rest)) : Go K n0 kc kj Q T pc Ls (.ref a :: rest) := by
  obtain ⟨d, rfl⟩ := d; obtain ⟨locs, S, N⟩ := X.sd
  obtain ⟨T', S', e', st'⟩ := getF S X.ex X.wZ X.ow (host := "") (Or.inl wd) Via.refl X.hp F (g := mkF K.m pc Ls (.ref a :: rest)) rfl rfl (X.dec d)
  exact o_go (fun t k => st' t k) (g T' (X.mk' S' N e'))
theorem o_putF (X : St K Z own b mx ret rm n0 k j T h) {i kk : Nat} {O n dd C' : String} {ty : FieldType} {a : Addr} {v ov : Value} (d : Isn b pc (.putfield i) 3 pc') (wd : (Jvm.Cond.fieldLink own i O n dd).before a0 Z = true) (F : Fld Z h a O n dd ov) (E : Exa Z h a C')
    (Lf : (Jvm.Cond.lays C' O n dd).before a0 Z = true ∨ ((Jvm.Cond.laysFinal C' O n dd).before a0 Z = true ∧ own = O ∧ K.meth.name = "<init>")) (wi : (Jvm.Cond.instantiable C' kk).before a0 Z = true) (hty : parseFieldDescriptor dd = some ty) (hn : narrow ty v = v) (hf : fits ty v = true) (ha : n0 ≤ a)
    (g : ∀ T' h', St K Z own b mx ret rm n0 k j T' h' → Wr h h' a (Jvm.RoadKit.slotOf Z O n dd) v → Go K n0 kc kj Q T' pc' Ls (rest)) : Go K n0 kc kj Q T pc Ls (v :: .ref a :: rest) := by
  obtain ⟨d, rfl⟩ := d; obtain ⟨locs, S, N⟩ := X.sd
  obtain ⟨T', h', S', e', W', st'⟩ := putF S X.ex X.wZ X.ow (host := "") (Or.inl wd) Via.refl X.hp F E Lf wi hty hn hf (g := mkF K.m pc Ls (v :: .ref a :: rest)) rfl rfl (X.dec d)
  exact o_go (fun t k => st' t k) (g T' h' (X.mk' S' (Fr.snoc S' N ha) e') W')
theorem o_new (X : St K Z own b mx ret rm n0 k j T h) {i nn : Nat} {C' : String} (d : Isn b pc (.new i) 3 pc') (w1 : (Jvm.Cond.classLink own i C').before a0 Z = true) (w2 : (Jvm.Cond.instantiable C' nn).before a0 Z = true) (w3 : (Jvm.Cond.initialized C').before a0 Z = true) (hr : k + 1 ≤ rm.cells ∧ j + nn ≤ rm.slots)
    (g : ∀ T' h' a, a = h.size → St K Z own b mx ret rm n0 (k + 1) (j + nn) T' h' → Ext h h' → Exa Z h' a C' → (∀ {O nm dd : String} {ty : FieldType}, Laid Z a0 C' O nm dd → parseFieldDescriptor dd = some ty → Fld Z h' a O nm dd (defaultValue ty)) → Go K n0 kc kj Q T' pc' Ls (.ref a :: st)) : Go K n0 kc kj Q T pc Ls (st) := by
  obtain ⟨d, rfl⟩ := d; obtain ⟨locs, S, N⟩ := X.sd; have hR := X.rmE
  obtain ⟨T', h', S', e', E', A', D', -, st'⟩ := newO S X.ex X.wZ X.ow w1 w2 w3 X.hp (g := mkF K.m pc Ls st) rfl (X.dec d) (by rw [hR]; exact hr.1) (by rw [hR]; exact hr.2)
  exact o_go (fun t k => st' t k) (g T' h' h.size rfl (X.mk' S' N e') E' A' D')
/-- an array, by all its values -/
def AL (Z : State) (h : Heap) (a : Addr) (ty : FieldType) (vs : List Value) : Prop := ∃ c : Cell, Arr Z h a c ty ∧ c.slots = vs.toArray ∧ vs.length < 2 ^ 31
theorem AL.lt {a : Addr} {ty : FieldType} {vs : List Value} (A : AL Z h a ty vs) : a < h.size := by obtain ⟨c, q, -⟩ := A; exact q.lt
theorem AL.ext {h' : Heap} {a : Addr} {ty : FieldType} {vs : List Value} (A : AL Z h a ty vs) (E : Ext h h') : AL Z h' a ty vs := by obtain ⟨c, q, r⟩ := A; exact ⟨c, q.ext E, r⟩
theorem AL.other {h' : Heap} {a a' : Addr} {sl : Nat} {v : Value} {ty : FieldType} {vs : List Value} (A : AL Z h a ty vs) (W : Wr h h' a' sl v) (ne : a ≠ a') : AL Z h' a ty vs := by obtain ⟨c, q, r⟩ := A; exact ⟨c, q.other W ne, r⟩
theorem AL.keep {h' : Heap} {a : Addr} {ws : List Addr} {ty : FieldType} {vs : List Value} (A : AL Z h a ty vs) (Kp : Keep h h' ws) (q : a ∉ ws) : AL Z h' a ty vs := by obtain ⟨c, A1, r⟩ := A; exact ⟨c, ⟨Kp.2.1 a c A1.1 q, A1.2⟩, r⟩
theorem AL.set {h' : Heap} {a : Addr} {sl : Nat} {v : Value} {ty : FieldType} {vs : List Value} (A : AL Z h a ty vs) (W : Wr h h' a sl v) : AL Z h' a ty (vs.set sl v) := by
  obtain ⟨c, q, r, s⟩ := A
  exact ⟨_, q.same W, by simp [Cell.setSlot, r], by simpa using s⟩
theorem AL.inb {a : Addr} {ty : FieldType} {vs : List Value} {i : Int32} {c : Cell} (r : c.slots = vs.toArray) (hi : ¬ i < 0) (hl : i.toNatClampNeg < vs.length) : ¬ (i < 0 ∨ c.slots.size ≤ i.toNatClampNeg) := by
  rw [r]; rintro (q | q)
  · exact hi q
  · simp at q; omega
theorem o_arraylength (X : St K Z own b mx ret rm n0 k j T h) {a : Addr} {ty : FieldType} {vs : List Value} (n : Int32) (d : Isn b pc .arraylength 1 pc') (A : AL Z h a ty vs) (hn : vs.length.toInt32 = n) (g : Go K n0 kc kj Q T pc' Ls (.int n :: rest)) : Go K n0 kc kj Q T pc Ls (.ref a :: rest) := by
  obtain ⟨d, rfl⟩ := d; obtain ⟨locs, S, N⟩ := X.sd; obtain ⟨c, q, r, s⟩ := A
  have e : c.slots.size.toInt32 = n := by rw [r, ← hn]; simp
  exact o_go (fun t k => S.arraylength X.ex (cell := c) (by rw [X.hp]; exact q.1) (State.isArrayOf_alike X.wZ.alike q.2.1) (g := mkF K.m pc Ls (.ref a :: rest)) rfl (rest := rest) rfl (X.dec d) t (by rw [e]; exact k)) g
theorem o_iaload (X : St K Z own b mx ret rm n0 k j T h) {a : Addr} {vs : List Value} {i : Int32} {v : Int32} (d : Isn b pc .iaload 1 pc') (A : AL Z h a .int vs) (hi : ¬ i < 0) (hv : vs[i.toNatClampNeg]? = some (.int v)) (g : Go K n0 kc kj Q T pc' Ls (.int v :: rest)) : Go K n0 kc kj Q T pc Ls (.int i :: .ref a :: rest) := by
  obtain ⟨d, rfl⟩ := d; obtain ⟨locs, S, N⟩ := X.sd; obtain ⟨c, q, r, s⟩ := A
  have hl : i.toNatClampNeg < vs.length := (List.getElem?_eq_some_iff.mp hv).1
  exact o_go (fun t k => S.iaload X.ex (j := i) (v := .int v) (by rw [X.hp]; exact q.1) (State.isArrayOf_alike X.wZ.alike q.2.1) q.2.2 (AL.inb (a := a) (ty := .int) r hi hl) (by rw [r]; simpa using hv) (g := mkF K.m pc Ls (.int i :: .ref a :: rest)) rfl rfl (X.dec d) t k) g
theorem o_laload (X : St K Z own b mx ret rm n0 k j T h) {a : Addr} {vs : List Value} {i : Int32} {v : Int64} (d : Isn b pc .laload 1 pc') (A : AL Z h a .long vs) (hi : ¬ i < 0) (hv : vs[i.toNatClampNeg]? = some (.long v)) (g : Go K n0 kc kj Q T pc' Ls (.long v :: rest)) : Go K n0 kc kj Q T pc Ls (.int i :: .ref a :: rest) := by
  obtain ⟨d, rfl⟩ := d; obtain ⟨locs, S, N⟩ := X.sd; obtain ⟨c, q, r, s⟩ := A
  have hl : i.toNatClampNeg < vs.length := (List.getElem?_eq_some_iff.mp hv).1
  exact o_go (fun t k => S.laload X.ex (j := i) (v := .long v) (by rw [X.hp]; exact q.1) (State.isArrayOf_alike X.wZ.alike q.2.1) q.2.2 (AL.inb (a := a) (ty := .long) r hi hl) (by rw [r]; simpa using hv) (g := mkF K.m pc Ls (.int i :: .ref a :: rest)) rfl rfl (X.dec d) t k) g
theorem o_caload (X : St K Z own b mx ret rm n0 k j T h) {a : Addr} {vs : List Value} {i : Int32} {v : Int32} (d : Isn b pc .caload 1 pc') (A : AL Z h a .char vs) (hi : ¬ i < 0) (hv : vs[i.toNatClampNeg]? = some (.int v)) (g : Go K n0 kc kj Q T pc' Ls (.int v :: rest)) : Go K n0 kc kj Q T pc Ls (.int i :: .ref a :: rest) := by
  obtain ⟨d, rfl⟩ := d; obtain ⟨locs, S, N⟩ := X.sd; obtain ⟨c, q, r, s⟩ := A
  have hl : i.toNatClampNeg < vs.length := (List.getElem?_eq_some_iff.mp hv).1
  exact o_go (fun t k => S.caload X.ex (j := i) (v := .int v) (by rw [X.hp]; exact q.1) (State.isArrayOf_alike X.wZ.alike q.2.1) q.2.2 (AL.inb (a := a) (ty := .char) r hi hl) (by rw [r]; simpa using hv) (g := mkF K.m pc Ls (.int i :: .ref a :: rest)) rfl rfl (X.dec d) t k) g
theorem o_baload (X : St K Z own b mx ret rm n0 k j T h) {a : Addr} {vs : List Value} {i : Int32} {v : Int32} (d : Isn b pc .baload 1 pc') (A : AL Z h a .byte vs) (hi : ¬ i < 0) (hv : vs[i.toNatClampNeg]? = some (.int v)) (g : Go K n0 kc kj Q T pc' Ls (.int v :: rest)) : Go K n0 kc kj Q T pc Ls (.int i :: .ref a :: rest) := by
  obtain ⟨d, rfl⟩ := d; obtain ⟨locs, S, N⟩ := X.sd; obtain ⟨c, q, r, s⟩ := A
  have hl : i.toNatClampNeg < vs.length := (List.getElem?_eq_some_iff.mp hv).1
  exact o_go (fun t k => S.baloadBytes X.ex (j := i) (v := .int v) (by rw [X.hp]; exact q.1) (State.isArrayOf_alike X.wZ.alike q.2.1) q.2.2 (AL.inb (a := a) (ty := .byte) r hi hl) (by rw [r]; simpa using hv) (g := mkF K.m pc Ls (.int i :: .ref a :: rest)) rfl rfl (X.dec d) t k) g
theorem o_iastore (X : St K Z own b mx ret rm n0 k j T h) {a : Addr} {vs vs' : List Value} {i : Int32} {v : Int32} (d : Isn b pc .iastore 1 pc') (A : AL Z h a .int vs) (hi : ¬ i < 0) (hl : i.toNatClampNeg < vs.length) (ha : n0 ≤ a) (hv : vs.set i.toNatClampNeg (.int v) = vs')
    (g : ∀ T' h', St K Z own b mx ret rm n0 k j T' h' → Wr h h' a i.toNatClampNeg (.int v) → AL Z h' a .int vs' → Go K n0 kc kj Q T' pc' Ls (rest)) : Go K n0 kc kj Q T pc Ls (.int v :: .int i :: .ref a :: rest) := by
  obtain ⟨d, rfl⟩ := d; obtain ⟨locs, S, N⟩ := X.sd; obtain ⟨c, q, r, s⟩ := A
  obtain ⟨T', h', S', e', W', st'⟩ := stI S X.ex X.wZ X.hp q (j := i) (x := v) (AL.inb (a := a) (ty := .int) r hi hl) (g := mkF K.m pc Ls (.int v :: .int i :: .ref a :: rest)) rfl rfl (X.dec d)
  exact o_go (fun t k => st' t k) (g T' h' (X.mk' S' (Fr.snoc S' N ha) e') W' (hv ▸ AL.set ⟨c, q, r, s⟩ W'))
theorem o_lastore (X : St K Z own b mx ret rm n0 k j T h) {a : Addr} {vs vs' : List Value} {i : Int32} {v : Int64} (d : Isn b pc .lastore 1 pc') (A : AL Z h a .long vs) (hi : ¬ i < 0) (hl : i.toNatClampNeg < vs.length) (ha : n0 ≤ a) (hv : vs.set i.toNatClampNeg (.long v) = vs')
    (g : ∀ T' h', St K Z own b mx ret rm n0 k j T' h' → Wr h h' a i.toNatClampNeg (.long v) → AL Z h' a .long vs' → Go K n0 kc kj Q T' pc' Ls (rest)) : Go K n0 kc kj Q T pc Ls (.long v :: .int i :: .ref a :: rest) := by
  obtain ⟨d, rfl⟩ := d; obtain ⟨locs, S, N⟩ := X.sd; obtain ⟨c, q, r, s⟩ := A
  obtain ⟨T', h', S', e', W', st'⟩ := stJ S X.ex X.wZ X.hp q (j := i) (x := v) (AL.inb (a := a) (ty := .long) r hi hl) (g := mkF K.m pc Ls (.long v :: .int i :: .ref a :: rest)) rfl rfl (X.dec d)
  exact o_go (fun t k => st' t k) (g T' h' (X.mk' S' (Fr.snoc S' N ha) e') W' (hv ▸ AL.set ⟨c, q, r, s⟩ W'))
theorem o_castore (X : St K Z own b mx ret rm n0 k j T h) {a : Addr} {vs vs' : List Value} {i : Int32} {v : Int32} (d : Isn b pc .castore 1 pc') (A : AL Z h a .char vs) (hi : ¬ i < 0) (hl : i.toNatClampNeg < vs.length) (ha : n0 ≤ a) (hv : vs.set i.toNatClampNeg (.int (nar .char v)) = vs')
    (g : ∀ T' h', St K Z own b mx ret rm n0 k j T' h' → Wr h h' a i.toNatClampNeg (.int (nar .char v)) → AL Z h' a .char vs' → Go K n0 kc kj Q T' pc' Ls (rest)) : Go K n0 kc kj Q T pc Ls (.int v :: .int i :: .ref a :: rest) := by
  obtain ⟨d, rfl⟩ := d; obtain ⟨locs, S, N⟩ := X.sd; obtain ⟨c, q, r, s⟩ := A
  obtain ⟨T', h', S', e', W', st'⟩ := stC S X.ex X.wZ X.hp q (j := i) (x := v) (AL.inb (a := a) (ty := .char) r hi hl) (g := mkF K.m pc Ls (.int v :: .int i :: .ref a :: rest)) rfl rfl (X.dec d)
  exact o_go (fun t k => st' t k) (g T' h' (X.mk' S' (Fr.snoc S' N ha) e') W' (hv ▸ AL.set ⟨c, q, r, s⟩ W'))
theorem o_bastore (X : St K Z own b mx ret rm n0 k j T h) {a : Addr} {vs vs' : List Value} {i : Int32} {v : Int32} (d : Isn b pc .bastore 1 pc') (A : AL Z h a .byte vs) (hi : ¬ i < 0) (hl : i.toNatClampNeg < vs.length) (ha : n0 ≤ a) (hv : vs.set i.toNatClampNeg (.int (nar .byte v)) = vs')
    (g : ∀ T' h', St K Z own b mx ret rm n0 k j T' h' → Wr h h' a i.toNatClampNeg (.int (nar .byte v)) → AL Z h' a .byte vs' → Go K n0 kc kj Q T' pc' Ls (rest)) : Go K n0 kc kj Q T pc Ls (.int v :: .int i :: .ref a :: rest) := by
  obtain ⟨d, rfl⟩ := d; obtain ⟨locs, S, N⟩ := X.sd; obtain ⟨c, q, r, s⟩ := A
  obtain ⟨T', h', S', e', W', st'⟩ := stB S X.ex X.wZ X.hp q (j := i) (x := v) (AL.inb (a := a) (ty := .byte) r hi hl) (g := mkF K.m pc Ls (.int v :: .int i :: .ref a :: rest)) rfl rfl (X.dec d)
  exact o_go (fun t k => st' t k) (g T' h' (X.mk' S' (Fr.snoc S' N ha) e') W' (hv ▸ AL.set ⟨c, q, r, s⟩ W'))
theorem o_newarray (X : St K Z own b mx ret rm n0 k j T h) (cap : Nat) {aty : ArrayType} {n : Int32} {vs : List Value} (d : Isn b pc (.newarray aty) 2 pc') (wd : (Jvm.Cond.arrayClass (newarray.typeOf aty)).before a0 Z = true) (hn : ¬ n < 0) (hcap : n.toNatClampNeg ≤ cap) (hvs : List.replicate n.toNatClampNeg (defaultValue (newarray.typeOf aty)) = vs) (hr : cap * 8 ≤ 536870912 ∧ k + 1 ≤ rm.cells ∧ j + cap ≤ rm.slots)
    (g : ∀ T' h' a, a = h.size → St K Z own b mx ret rm n0 (k + 1) (j + cap) T' h' → Ext h h' → AL Z h' a (newarray.typeOf aty) vs → Go K n0 kc kj Q T' pc' Ls (.ref a :: rest)) : Go K n0 kc kj Q T pc Ls (.int n :: rest) := by
  obtain ⟨d, rfl⟩ := d; obtain ⟨locs, S, N⟩ := X.sd; have hR := X.rmE
  obtain ⟨T', h', cA, S', e', E', A', st'⟩ := newP S X.ex X.wZ wd X.hp (g := mkF K.m pc Ls (.int n :: rest)) rfl (X.dec d) rfl hn hcap hr.1 (by rw [hR]; exact hr.2.1) (by rw [hR]; exact hr.2.2)
  refine o_go (fun t k => st' t k) (g T' h' h.size rfl (X.mk' S' N e') E' ⟨_, A', ?_, ?_⟩)
  · rw [← hvs]; simp [newA]
  · rw [← hvs]; simp; have := (back32 hn).2; omega
/-- the array at a takes objects of class C -/
def AO (Z : State) (h : Heap) (a : Addr) (C : String) : Prop := ∃ c : Cell, h[a]? = some c ∧ Ovr Z c.cls C
theorem AO.ext {h' : Heap} {a : Addr} {C : String} (A : AO Z h a C) (E : Ext h h') : AO Z h' a C := by obtain ⟨c, q, r⟩ := A; exact ⟨c, E.2 _ _ q, r⟩
theorem AO.wr {h' : Heap} {a a' : Addr} {C : String} {sl : Nat} {v : Value} (A : AO Z h a C) (W : Wr h h' a' sl v) : AO Z h' a C := by
  obtain ⟨c, q, r⟩ := A; obtain ⟨c', q1, q2, -⟩ := wr_at W q; exact ⟨c', q1, by rw [q2]; exact r⟩
theorem o_anewarray (X : St K Z own b mx ret rm n0 k j T h) (cap : Nat) {i : Nat} {C' : String} {n : Int32} {vs : List Value} (d : Isn b pc (.anewarray i) 3 pc') (w1 : (Jvm.Cond.classLink own i C').before a0 Z = true) (w2 : (Jvm.Cond.arrayOver (.object C')).before a0 Z = true) (hn : ¬ n < 0) (hcap : n.toNatClampNeg ≤ cap) (hvs : List.replicate n.toNatClampNeg Value.null = vs) (hr : cap * 8 ≤ 536870912 ∧ k + 1 ≤ rm.cells ∧ j + cap ≤ rm.slots)
    (g : ∀ T' h' a, a = h.size → St K Z own b mx ret rm n0 (k + 1) (j + cap) T' h' → Ext h h' → AL Z h' a (.object C') vs → AO Z h' a C' → Go K n0 kc kj Q T' pc' Ls (.ref a :: rest)) : Go K n0 kc kj Q T pc Ls (.int n :: rest) := by
  obtain ⟨d, rfl⟩ := d; obtain ⟨locs, S, N⟩ := X.sd; have hR := X.rmE
  obtain ⟨T', h', cA, S', e', E', A', O', st'⟩ := newR S X.ex X.wZ X.ow w1 w2 X.hp (g := mkF K.m pc Ls (.int n :: rest)) rfl (X.dec d) rfl hn hcap hr.1 (by rw [hR]; exact hr.2.1) (by rw [hR]; exact hr.2.2)
  refine o_go (fun t k => st' t k) (g T' h' h.size rfl (X.mk' S' N e') E' ⟨_, A', ?_, ?_⟩ ⟨_, A'.1, O'⟩)
  · rw [← hvs]; simp [newA, defaultValue]
  · rw [← hvs]; simp; have := (back32 hn).2; omega
theorem o_aaload (X : St K Z own b mx ret rm n0 k j T h) {a : Addr} {ty : FieldType} {vs : List Value} {i : Int32} {v : Value} (hty : ty.isReference = true) (d : Isn b pc .aaload 1 pc') (A : AL Z h a ty vs) (hi : ¬ i < 0) (hv : vs[i.toNatClampNeg]? = some v) (g : Go K n0 kc kj Q T pc' Ls (v :: rest)) : Go K n0 kc kj Q T pc Ls (.int i :: .ref a :: rest) := by
  obtain ⟨d, rfl⟩ := d; obtain ⟨locs, S, N⟩ := X.sd; obtain ⟨c, q, r, s⟩ := A
  have hl : i.toNatClampNeg < vs.length := (List.getElem?_eq_some_iff.mp hv).1
  exact o_go (fun t k => S.aaload X.ex (j := i) (v := v) (by rw [X.hp]; exact q.1) (State.isArrayOf_alike X.wZ.alike q.2.1) hty q.2.2 (AL.inb (a := a) (ty := ty) r hi hl) (by rw [r]; simpa using hv) (g := mkF K.m pc Ls (.int i :: .ref a :: rest)) rfl rfl (X.dec d) t k) g
theorem o_aastore (X : St K Z own b mx ret rm n0 k j T h) {a y : Addr} {C' : String} {vs vs' : List Value} {i : Int32} (d : Isn b pc .aastore 1 pc') (A : AL Z h a (.object C') vs) (O : AO Z h a C') (I : Jvm.RoadKit.Ins Z h y C' true) (hi : ¬ i < 0) (hl : i.toNatClampNeg < vs.length) (ha : n0 ≤ a) (hv : vs.set i.toNatClampNeg (.ref y) = vs')
    (g : ∀ T' h', St K Z own b mx ret rm n0 k j T' h' → Wr h h' a i.toNatClampNeg (.ref y) → AL Z h' a (.object C') vs' → Go K n0 kc kj Q T' pc' Ls (rest)) : Go K n0 kc kj Q T pc Ls (.ref y :: .int i :: .ref a :: rest) := by
  obtain ⟨d, rfl⟩ := d; obtain ⟨locs, S, N⟩ := X.sd; obtain ⟨c, q, r, s⟩ := A
  obtain ⟨c2, q2, r2⟩ := O
  have hO : Ovr Z c.cls C' := by cases q.1.symm.trans q2; exact r2
  obtain ⟨T', h', S', e', W', st'⟩ := stR S X.ex X.wZ X.hp q (j := i) (v := .ref y) (AL.inb (a := a) (ty := .object C') r hi hl) rfl (Sto.of q hO I) (g := mkF K.m pc Ls (.ref y :: .int i :: .ref a :: rest)) rfl rfl (X.dec d)
  exact o_go (fun t k => st' t k) (g T' h' (X.mk' S' (Fr.snoc S' N ha) e') W' (hv ▸ AL.set ⟨c, q, r, s⟩ W'))
/-- an array of ints, booleans, bytes or chars, by a function of the place -/
def AN (Z : State) (h : Heap) (a : Addr) (ty : FieldType) (n : Nat) (f : Nat → Int32) : Prop := ∃ c : Cell, Arr Z h a c ty ∧ c.slots.size = n ∧ n < 2 ^ 31 ∧ ∀ i, i < n → c.slots[i]? = some (.int (f i))
theorem AN.lt {a : Addr} {ty : FieldType} {n : Nat} {f : Nat → Int32} (A : AN Z h a ty n f) : a < h.size := by obtain ⟨c, q, -⟩ := A; exact q.lt
theorem AN.ext {h' : Heap} {a : Addr} {ty : FieldType} {n : Nat} {f : Nat → Int32} (A : AN Z h a ty n f) (E : Ext h h') : AN Z h' a ty n f := by obtain ⟨c, q, r⟩ := A; exact ⟨c, q.ext E, r⟩
theorem AN.other {h' : Heap} {a a' : Addr} {sl : Nat} {v : Value} {ty : FieldType} {n : Nat} {f : Nat → Int32} (A : AN Z h a ty n f) (W : Wr h h' a' sl v) (ne : a ≠ a') : AN Z h' a ty n f := by obtain ⟨c, q, r⟩ := A; exact ⟨c, q.other W ne, r⟩
theorem AN.keep {h' : Heap} {a : Addr} {ws : List Addr} {ty : FieldType} {n : Nat} {f : Nat → Int32} (A : AN Z h a ty n f) (Kp : Keep h h' ws) (q : a ∉ ws) : AN Z h' a ty n f := by obtain ⟨c, A1, r⟩ := A; exact ⟨c, ⟨Kp.2.1 a c A1.1 q, A1.2⟩, r⟩
theorem AN.set {h' : Heap} {a : Addr} {sl : Nat} {v : Int32} {ty : FieldType} {n : Nat} {f : Nat → Int32} (A : AN Z h a ty n f) (W : Wr h h' a sl (.int v)) : AN Z h' a ty n (fun i => if i = sl then v else f i) := by
  obtain ⟨c, q, r, s, t⟩ := A
  refine ⟨_, q.same W, by simpa [Cell.setSlot] using r, s, fun i hi => ?_⟩
  have e := t i hi
  by_cases p : i = sl
  · subst p; have : i < c.slots.size := r ▸ hi
    simp [Cell.setSlot, this]
  · have p' : ¬ sl = i := fun q => p q.symm
    simp [Cell.setSlot, Array.getElem?_setIfInBounds, p, p', e]
theorem AN.inb {n : Nat} {i : Int32} {c : Cell} (r : c.slots.size = n) (hi : ¬ i < 0) (hl : i.toNatClampNeg < n) : ¬ (i < 0 ∨ c.slots.size ≤ i.toNatClampNeg) := by
  rw [r]; rintro (q | q)
  · exact hi q
  · omega
theorem o_alenN (X : St K Z own b mx ret rm n0 k j T h) {a : Addr} {ty : FieldType} {n : Nat} {f : Nat → Int32} (z : Int32) (d : Isn b pc .arraylength 1 pc') (A : AN Z h a ty n f) (hn : n.toInt32 = z) (g : Go K n0 kc kj Q T pc' Ls (.int z :: rest)) : Go K n0 kc kj Q T pc Ls (.ref a :: rest) := by
  obtain ⟨d, rfl⟩ := d; obtain ⟨locs, S, N⟩ := X.sd; obtain ⟨c, q, r, s⟩ := A
  have e : c.slots.size.toInt32 = z := by rw [r, ← hn]
  exact o_go (fun t k => S.arraylength X.ex (cell := c) (by rw [X.hp]; exact q.1) (State.isArrayOf_alike X.wZ.alike q.2.1) (g := mkF K.m pc Ls (.ref a :: rest)) rfl (rest := rest) rfl (X.dec d) t (by rw [e]; exact k)) g

theorem o_ialoadN (X : St K Z own b mx ret rm n0 k j T h) {a : Addr} {n : Nat} {f : Nat → Int32} {i : Int32} (d : Isn b pc .iaload 1 pc') (A : AN Z h a .int n f) (hi : ¬ i < 0) (hl : i.toNatClampNeg < n) (g : Go K n0 kc kj Q T pc' Ls (.int (f i.toNatClampNeg) :: rest)) : Go K n0 kc kj Q T pc Ls (.int i :: .ref a :: rest) := by
  obtain ⟨d, rfl⟩ := d; obtain ⟨locs, S, N⟩ := X.sd; obtain ⟨c, q, r, s, t⟩ := A
  exact o_go (fun t' k => S.iaload X.ex (j := i) (v := .int (f i.toNatClampNeg)) (by rw [X.hp]; exact q.1) (State.isArrayOf_alike X.wZ.alike q.2.1) q.2.2 (AN.inb r hi hl) (t _ hl) (g := mkF K.m pc Ls (.int i :: .ref a :: rest)) rfl rfl (X.dec d) t' k) g
theorem o_caloadN (X : St K Z own b mx ret rm n0 k j T h) {a : Addr} {n : Nat} {f : Nat → Int32} {i : Int32} (d : Isn b pc .caload 1 pc') (A : AN Z h a .char n f) (hi : ¬ i < 0) (hl : i.toNatClampNeg < n) (g : Go K n0 kc kj Q T pc' Ls (.int (f i.toNatClampNeg) :: rest)) : Go K n0 kc kj Q T pc Ls (.int i :: .ref a :: rest) := by
  obtain ⟨d, rfl⟩ := d; obtain ⟨locs, S, N⟩ := X.sd; obtain ⟨c, q, r, s, t⟩ := A
  exact o_go (fun t' k => S.caload X.ex (j := i) (v := .int (f i.toNatClampNeg)) (by rw [X.hp]; exact q.1) (State.isArrayOf_alike X.wZ.alike q.2.1) q.2.2 (AN.inb r hi hl) (t _ hl) (g := mkF K.m pc Ls (.int i :: .ref a :: rest)) rfl rfl (X.dec d) t' k) g
theorem o_baloadN (X : St K Z own b mx ret rm n0 k j T h) {a : Addr} {n : Nat} {f : Nat → Int32} {i : Int32} (d : Isn b pc .baload 1 pc') (A : AN Z h a .byte n f) (hi : ¬ i < 0) (hl : i.toNatClampNeg < n) (g : Go K n0 kc kj Q T pc' Ls (.int (f i.toNatClampNeg) :: rest)) : Go K n0 kc kj Q T pc Ls (.int i :: .ref a :: rest) := by
  obtain ⟨d, rfl⟩ := d; obtain ⟨locs, S, N⟩ := X.sd; obtain ⟨c, q, r, s, t⟩ := A
  exact o_go (fun t' k => S.baloadBytes X.ex (j := i) (v := .int (f i.toNatClampNeg)) (by rw [X.hp]; exact q.1) (State.isArrayOf_alike X.wZ.alike q.2.1) q.2.2 (AN.inb r hi hl) (t _ hl) (g := mkF K.m pc Ls (.int i :: .ref a :: rest)) rfl rfl (X.dec d) t' k) g
theorem o_zaloadN (X : St K Z own b mx ret rm n0 k j T h) {a : Addr} {n : Nat} {f : Nat → Int32} {i : Int32} (d : Isn b pc .baload 1 pc') (A : AN Z h a .boolean n f) (hi : ¬ i < 0) (hl : i.toNatClampNeg < n) (g : Go K n0 kc kj Q T pc' Ls (.int (f i.toNatClampNeg) :: rest)) : Go K n0 kc kj Q T pc Ls (.int i :: .ref a :: rest) := by
  obtain ⟨d, rfl⟩ := d; obtain ⟨locs, S, N⟩ := X.sd; obtain ⟨c, q, r, s, t⟩ := A
  exact o_go (fun t' k => S.baloadBooleans X.ex (j := i) (v := .int (f i.toNatClampNeg)) (by rw [X.hp]; exact q.1) (State.isArrayOf_alike X.wZ.alike q.2.1) q.2.2 (AN.inb r hi hl) (t _ hl) (g := mkF K.m pc Ls (.int i :: .ref a :: rest)) rfl rfl (X.dec d) t' k) g
theorem o_iastoreN (X : St K Z own b mx ret rm n0 k j T h) {a : Addr} {n : Nat} {f : Nat → Int32} {i v : Int32} (d : Isn b pc .iastore 1 pc') (A : AN Z h a .int n f) (hi : ¬ i < 0) (hl : i.toNatClampNeg < n) (ha : n0 ≤ a)
    (g : ∀ T' h', St K Z own b mx ret rm n0 k j T' h' → Wr h h' a i.toNatClampNeg (.int (v)) → AN Z h' a .int n (fun q => if q = i.toNatClampNeg then v else f q) → Go K n0 kc kj Q T' pc' Ls (rest)) : Go K n0 kc kj Q T pc Ls (.int v :: .int i :: .ref a :: rest) := by
  obtain ⟨d, rfl⟩ := d; obtain ⟨locs, S, N⟩ := X.sd; have A0 := A; obtain ⟨c, q, r, s⟩ := A
  obtain ⟨T', h', S', e', W', st'⟩ := stI S X.ex X.wZ X.hp q (j := i) (x := v) (AN.inb r hi hl) (g := mkF K.m pc Ls (.int v :: .int i :: .ref a :: rest)) rfl rfl (X.dec d)
  exact o_go (fun t k => st' t k) (g T' h' (X.mk' S' (Fr.snoc S' N ha) e') W' (A0.set W'))
theorem o_castoreN (X : St K Z own b mx ret rm n0 k j T h) {a : Addr} {n : Nat} {f : Nat → Int32} {i v : Int32} (d : Isn b pc .castore 1 pc') (A : AN Z h a .char n f) (hi : ¬ i < 0) (hl : i.toNatClampNeg < n) (ha : n0 ≤ a)
    (g : ∀ T' h', St K Z own b mx ret rm n0 k j T' h' → Wr h h' a i.toNatClampNeg (.int (nar .char v)) → AN Z h' a .char n (fun q => if q = i.toNatClampNeg then nar .char v else f q) → Go K n0 kc kj Q T' pc' Ls (rest)) : Go K n0 kc kj Q T pc Ls (.int v :: .int i :: .ref a :: rest) := by
  obtain ⟨d, rfl⟩ := d; obtain ⟨locs, S, N⟩ := X.sd; have A0 := A; obtain ⟨c, q, r, s⟩ := A
  obtain ⟨T', h', S', e', W', st'⟩ := stC S X.ex X.wZ X.hp q (j := i) (x := v) (AN.inb r hi hl) (g := mkF K.m pc Ls (.int v :: .int i :: .ref a :: rest)) rfl rfl (X.dec d)
  exact o_go (fun t k => st' t k) (g T' h' (X.mk' S' (Fr.snoc S' N ha) e') W' (A0.set W'))
theorem o_bastoreN (X : St K Z own b mx ret rm n0 k j T h) {a : Addr} {n : Nat} {f : Nat → Int32} {i v : Int32} (d : Isn b pc .bastore 1 pc') (A : AN Z h a .byte n f) (hi : ¬ i < 0) (hl : i.toNatClampNeg < n) (ha : n0 ≤ a)
    (g : ∀ T' h', St K Z own b mx ret rm n0 k j T' h' → Wr h h' a i.toNatClampNeg (.int (nar .byte v)) → AN Z h' a .byte n (fun q => if q = i.toNatClampNeg then nar .byte v else f q) → Go K n0 kc kj Q T' pc' Ls (rest)) : Go K n0 kc kj Q T pc Ls (.int v :: .int i :: .ref a :: rest) := by
  obtain ⟨d, rfl⟩ := d; obtain ⟨locs, S, N⟩ := X.sd; have A0 := A; obtain ⟨c, q, r, s⟩ := A
  obtain ⟨T', h', S', e', W', st'⟩ := stB S X.ex X.wZ X.hp q (j := i) (x := v) (AN.inb r hi hl) (g := mkF K.m pc Ls (.int v :: .int i :: .ref a :: rest)) rfl rfl (X.dec d)
  exact o_go (fun t k => st' t k) (g T' h' (X.mk' S' (Fr.snoc S' N ha) e') W' (A0.set W'))
theorem o_zastoreN (X : St K Z own b mx ret rm n0 k j T h) {a : Addr} {n : Nat} {f : Nat → Int32} {i v : Int32} (d : Isn b pc .bastore 1 pc') (A : AN Z h a .boolean n f) (hi : ¬ i < 0) (hl : i.toNatClampNeg < n) (ha : n0 ≤ a)
    (g : ∀ T' h', St K Z own b mx ret rm n0 k j T' h' → Wr h h' a i.toNatClampNeg (.int (nar .boolean v)) → AN Z h' a .boolean n (fun q => if q = i.toNatClampNeg then nar .boolean v else f q) → Go K n0 kc kj Q T' pc' Ls (rest)) : Go K n0 kc kj Q T pc Ls (.int v :: .int i :: .ref a :: rest) := by
  obtain ⟨d, rfl⟩ := d; obtain ⟨locs, S, N⟩ := X.sd; have A0 := A; obtain ⟨c, q, r, s⟩ := A
  obtain ⟨T', h', S', e', W', st'⟩ := stZ S X.ex X.wZ X.hp q (j := i) (x := v) (AN.inb r hi hl) (g := mkF K.m pc Ls (.int v :: .int i :: .ref a :: rest)) rfl rfl (X.dec d)
  exact o_go (fun t k => st' t k) (g T' h' (X.mk' S' (Fr.snoc S' N ha) e') W' (A0.set W'))
theorem o_newarrayN (X : St K Z own b mx ret rm n0 k j T h) (cap : Nat) {aty : ArrayType} {n : Int32} (m : Nat) (d : Isn b pc (.newarray aty) 2 pc') (wd : (Jvm.Cond.arrayClass (newarray.typeOf aty)).before a0 Z = true) (hn : ¬ n < 0) (hm : n.toNatClampNeg = m) (hcap : m ≤ cap) (hdv : defaultValue (newarray.typeOf aty) = .int 0) (hr : cap * 8 ≤ 536870912 ∧ k + 1 ≤ rm.cells ∧ j + cap ≤ rm.slots)
    (g : ∀ T' h' a, a = h.size → St K Z own b mx ret rm n0 (k + 1) (j + cap) T' h' → Ext h h' → AN Z h' a (newarray.typeOf aty) m (fun _ => 0) → Go K n0 kc kj Q T' pc' Ls (.ref a :: rest)) : Go K n0 kc kj Q T pc Ls (.int n :: rest) := by
  obtain ⟨d, rfl⟩ := d; obtain ⟨locs, S, N⟩ := X.sd; have hR := X.rmE
  obtain ⟨T', h', cA, S', e', E', A', st'⟩ := newP S X.ex X.wZ wd X.hp (g := mkF K.m pc Ls (.int n :: rest)) rfl (X.dec d) rfl hn (hm ▸ hcap) hr.1 (by rw [hR]; exact hr.2.1) (by rw [hR]; exact hr.2.2)
  refine o_go (fun t k => st' t k) (g T' h' h.size rfl (X.mk' S' N e') E' ⟨_, A', ?_, ?_, fun i hi => ?_⟩)
  · simpa [newA] using hm
  · have := (back32 hn).2; omega
  · simp [newA, hm, hi, hdv]
/-- a long array, by a function of the place -/
def LN (Z : State) (h : Heap) (a : Addr) (n : Nat) (f : Nat → Int64) : Prop := ∃ c : Cell, Arr Z h a c .long ∧ c.slots.size = n ∧ n < 2 ^ 31 ∧ ∀ i, i < n → c.slots[i]? = some (.long (f i))
theorem LN.lt {a : Addr} {n : Nat} {f : Nat → Int64} (A : LN Z h a n f) : a < h.size := by obtain ⟨c, q, -⟩ := A; exact q.lt
theorem LN.ext {h' : Heap} {a : Addr} {n : Nat} {f : Nat → Int64} (A : LN Z h a n f) (E : Ext h h') : LN Z h' a n f := by obtain ⟨c, q, r⟩ := A; exact ⟨c, q.ext E, r⟩
theorem LN.other {h' : Heap} {a a' : Addr} {sl : Nat} {v : Value} {n : Nat} {f : Nat → Int64} (A : LN Z h a n f) (W : Wr h h' a' sl v) (ne : a ≠ a') : LN Z h' a n f := by obtain ⟨c, q, r⟩ := A; exact ⟨c, q.other W ne, r⟩
theorem LN.set {h' : Heap} {a : Addr} {sl : Nat} {v : Int64} {n : Nat} {f : Nat → Int64} (A : LN Z h a n f) (W : Wr h h' a sl (.long v)) : LN Z h' a n (fun i => if i = sl then v else f i) := by
  obtain ⟨c, q, r, s, t⟩ := A
  refine ⟨_, q.same W, by simpa [Cell.setSlot] using r, s, fun i hi => ?_⟩
  have e := t i hi
  by_cases p : i = sl
  · subst p; have : i < c.slots.size := r ▸ hi
    simp [Cell.setSlot, this]
  · have p' : ¬ sl = i := fun q => p q.symm
    simp [Cell.setSlot, Array.getElem?_setIfInBounds, p, p', e]
theorem o_alenL (X : St K Z own b mx ret rm n0 k j T h) {a : Addr} {n : Nat} {f : Nat → Int64} (z : Int32) (d : Isn b pc .arraylength 1 pc') (A : LN Z h a n f) (hn : n.toInt32 = z) (g : Go K n0 kc kj Q T pc' Ls (.int z :: rest)) : Go K n0 kc kj Q T pc Ls (.ref a :: rest) := by
  obtain ⟨d, rfl⟩ := d; obtain ⟨locs, S, N⟩ := X.sd; obtain ⟨c, q, r, s⟩ := A
  have e : c.slots.size.toInt32 = z := by rw [r, ← hn]
  exact o_go (fun t k => S.arraylength X.ex (cell := c) (by rw [X.hp]; exact q.1) (State.isArrayOf_alike X.wZ.alike q.2.1) (g := mkF K.m pc Ls (.ref a :: rest)) rfl (rest := rest) rfl (X.dec d) t (by rw [e]; exact k)) g
theorem o_laloadN (X : St K Z own b mx ret rm n0 k j T h) {a : Addr} {n : Nat} {f : Nat → Int64} {i : Int32} (d : Isn b pc .laload 1 pc') (A : LN Z h a n f) (hi : ¬ i < 0) (hl : i.toNatClampNeg < n) (g : Go K n0 kc kj Q T pc' Ls (.long (f i.toNatClampNeg) :: rest)) : Go K n0 kc kj Q T pc Ls (.int i :: .ref a :: rest) := by
  obtain ⟨d, rfl⟩ := d; obtain ⟨locs, S, N⟩ := X.sd; obtain ⟨c, q, r, s, t⟩ := A
  exact o_go (fun t' k => S.laload X.ex (j := i) (v := .long (f i.toNatClampNeg)) (by rw [X.hp]; exact q.1) (State.isArrayOf_alike X.wZ.alike q.2.1) q.2.2 (AN.inb r hi hl) (t _ hl) (g := mkF K.m pc Ls (.int i :: .ref a :: rest)) rfl rfl (X.dec d) t' k) g
theorem o_lastoreN (X : St K Z own b mx ret rm n0 k j T h) {a : Addr} {n : Nat} {f : Nat → Int64} {i : Int32} {v : Int64} (d : Isn b pc .lastore 1 pc') (A : LN Z h a n f) (hi : ¬ i < 0) (hl : i.toNatClampNeg < n) (ha : n0 ≤ a)
    (g : ∀ T' h', St K Z own b mx ret rm n0 k j T' h' → Wr h h' a i.toNatClampNeg (.long v) → LN Z h' a n (fun q => if q = i.toNatClampNeg then v else f q) → Go K n0 kc kj Q T' pc' Ls (rest)) : Go K n0 kc kj Q T pc Ls (.long v :: .int i :: .ref a :: rest) := by
  obtain ⟨d, rfl⟩ := d; obtain ⟨locs, S, N⟩ := X.sd; have A0 := A; obtain ⟨c, q, r, s⟩ := A
  obtain ⟨T', h', S', e', W', st'⟩ := stJ S X.ex X.wZ X.hp q (j := i) (x := v) (AN.inb r hi hl) (g := mkF K.m pc Ls (.long v :: .int i :: .ref a :: rest)) rfl rfl (X.dec d)
  exact o_go (fun t k => st' t k) (g T' h' (X.mk' S' (Fr.snoc S' N ha) e') W' (A0.set W'))
theorem o_newarrayL (X : St K Z own b mx ret rm n0 k j T h) (cap : Nat) {n : Int32} (m : Nat) (d : Isn b pc (.newarray .long) 2 pc') (wd : (Jvm.Cond.arrayClass .long).before a0 Z = true) (hn : ¬ n < 0) (hm : n.toNatClampNeg = m) (hcap : m ≤ cap) (hr : cap * 8 ≤ 536870912 ∧ k + 1 ≤ rm.cells ∧ j + cap ≤ rm.slots)
    (g : ∀ T' h' a, a = h.size → St K Z own b mx ret rm n0 (k + 1) (j + cap) T' h' → Ext h h' → LN Z h' a m (fun _ => 0) → Go K n0 kc kj Q T' pc' Ls (.ref a :: rest)) : Go K n0 kc kj Q T pc Ls (.int n :: rest) := by
  obtain ⟨d, rfl⟩ := d; obtain ⟨locs, S, N⟩ := X.sd; have hR := X.rmE
  obtain ⟨T', h', cA, S', e', E', A', st'⟩ := newP S X.ex X.wZ (aty := .long) wd X.hp (g := mkF K.m pc Ls (.int n :: rest)) rfl (X.dec d) rfl hn (hm ▸ hcap) hr.1 (by rw [hR]; exact hr.2.1) (by rw [hR]; exact hr.2.2)
  refine o_go (fun t k => st' t k) (g T' h' h.size rfl (X.mk' S' N e') E' ⟨_, A', ?_, ?_, fun i hi => ?_⟩)
  · simpa [newA] using hm
  · have := (back32 hn).2; omega
  · have e : defaultValue (newarray.typeOf .long) = .long 0 := rfl
    simp [newA, hm, hi, e]
/-- an object, by all the values of these fields of its class -/
def Obj (Z : State) (h : Heap) (a : Addr) (C : String) (ns : List (String × String)) (vs : List Value) : Prop := Exa Z h a C ∧ ns.length = vs.length ∧ ∀ (i : Nat) (n d : String) (v : Value), ns[i]? = some (n, d) → vs[i]? = some v → Fld Z h a C n d v
def LdAll (Z : State) (a0 : Array Value) (C : String) (ns : List (String × String)) : Prop := (ns.map Prod.fst).Nodup ∧ ∀ q ∈ ns, Laid Z a0 C C q.1 q.2 ∧ ∃ t, parseFieldDescriptor q.2 = some t
variable {h' : Heap} {a a' : Addr} {C : String} {ns : List (String × String)} {vs : List Value} {sl : Nat} {v : Value}
theorem Obj.lt (O : Obj Z h a C ns vs) : a < h.size := O.1.lt
theorem Obj.exa (O : Obj Z h a C ns vs) : Exa Z h a C := O.1
theorem Obj.ext (O : Obj Z h a C ns vs) (E : Ext h h') : Obj Z h' a C ns vs := ⟨O.1.ext E, O.2.1, fun i n d v q r => (O.2.2 i n d v q r).ext E⟩
theorem Obj.other (O : Obj Z h a C ns vs) (W : Wr h h' a' sl v) (ne : a ≠ a') : Obj Z h' a C ns vs := ⟨O.1.wr W, O.2.1, fun i n d v q r => (O.2.2 i n d v q r).other W (Or.inl ne)⟩
theorem Obj.keep {ws : List Addr} (O : Obj Z h a C ns vs) (Kp : Keep h h' ws) (ne : a ∉ ws) : Obj Z h' a C ns vs := ⟨O.1.keep Kp, O.2.1, fun i n d v q r => (O.2.2 i n d v q r).keep Kp ne⟩
theorem Obj.new (E : Exa Z h a C) (D : ∀ {O nm dd : String} {ty : FieldType}, Laid Z a0 C O nm dd → parseFieldDescriptor dd = some ty → Fld Z h a O nm dd (defaultValue ty)) (LA : LdAll Z a0 C ns) (ts : List FieldType) (ht : ns.map (fun q => parseFieldDescriptor q.2) = ts.map some) (hv : ts.map defaultValue = vs) : Obj Z h a C ns vs := by
  refine ⟨E, by rw [← hv]; simpa using congrArg List.length ht, fun i n d v q r => ?_⟩
  subst hv
  obtain ⟨t, ht1, rfl⟩ : ∃ t, ts[i]? = some t ∧ defaultValue t = v := by simpa using r
  have q2 := congrArg (fun L => L[i]?) ht
  simp [q, ht1] at q2
  exact D (LA.2 (n, d) (List.mem_of_getElem? q)).1 q2
theorem Obj.set (O : Obj Z h a C ns vs) (LA : LdAll Z a0 C ns) {n d : String} (W : Wr h h' a (Jvm.RoadKit.slotOf Z C n d) v) (i : Nat) (hi : ns[i]? = some (n, d)) : Obj Z h' a C ns (vs.set i v) := by
  refine ⟨O.1.wr W, by simpa using O.2.1, fun j n' d' v' q r => ?_⟩
  have hil : i < ns.length := (List.getElem?_eq_some_iff.mp hi).1
  by_cases e : i = j
  · subst e
    cases hi.symm.trans q
    have hiv : i < vs.length := O.2.1 ▸ hil
    obtain ⟨w, hw⟩ : ∃ w, vs[i]? = some w := ⟨_, List.getElem?_eq_getElem hiv⟩
    have : v = v' := by simpa [List.getElem?_set, hiv] using r
    subst this
    exact (O.2.2 i n d w hi hw).same W
  · have r' : vs[j]? = some v' := by rw [List.getElem?_set_ne e] at r; exact r
    refine (O.2.2 j n' d' v' q r').other W (Or.inr ?_)
    obtain ⟨l1, t1, p1⟩ := LA.2 _ (List.mem_of_getElem? q)
    obtain ⟨l2, t2, p2⟩ := LA.2 _ (List.mem_of_getElem? hi)
    refine slot_ne l1 l2 (fun eq => e ?_) p1 p2
    have hjl : j < ns.length := (List.getElem?_eq_some_iff.mp q).1
    have e1 : (ns.map Prod.fst)[i]? = some n := by simp [hi]
    have e2 : (ns.map Prod.fst)[j]? = some n' := by simp [q]
    have eq' : n' = n := eq
    subst eq'
    obtain ⟨x1, y1⟩ := List.getElem?_eq_some_iff.mp e1
    obtain ⟨x2, y2⟩ := List.getElem?_eq_some_iff.mp e2
    have P := List.pairwise_iff_getElem.mp LA.1
    rcases Nat.lt_trichotomy i j with z | z | z
    · exact absurd (y1.trans y2.symm) (P i j x1 x2 z)
    · exact z
    · exact absurd (y2.trans y1.symm) (P j i x2 x1 z)
theorem o_getO (X : St K Z own b mx ret rm n0 k j T h) {q : Nat} {n dd : String} (i : Nat) (d : Isn b pc (.getfield q) 3 pc') (wd : (Jvm.Cond.fieldLink own q C n dd).before a0 Z = true) (O : Obj Z h a C ns vs) (hi : ns[i]? = some (n, dd)) (hv : vs[i]? = some v)
    (g : ∀ T', St K Z own b mx ret rm n0 k j T' h → Go K n0 kc kj Q T' pc' Ls (v :: rest)) : Go K n0 kc kj Q T pc Ls (.ref a :: rest) := o_getF X d wd (O.2.2 i n dd v hi hv) g
theorem o_putO (X : St K Z own b mx ret rm n0 k j T h) {q kk : Nat} {n dd : String} {ty : FieldType} {vs' : List Value} (i : Nat) (d : Isn b pc (.putfield q) 3 pc') (wd : (Jvm.Cond.fieldLink own q C n dd).before a0 Z = true) (O : Obj Z h a C ns vs) (LA : LdAll Z a0 C ns) (hi : ns[i]? = some (n, dd))
    (Lf : (Jvm.Cond.lays C C n dd).before a0 Z = true ∨ ((Jvm.Cond.laysFinal C C n dd).before a0 Z = true ∧ own = C ∧ K.meth.name = "<init>")) (wi : (Jvm.Cond.instantiable C kk).before a0 Z = true) (hty : parseFieldDescriptor dd = some ty) (hn : narrow ty v = v) (hf : fits ty v = true) (ha : n0 ≤ a) (hv : vs.set i v = vs')
    (g : ∀ T' h', St K Z own b mx ret rm n0 k j T' h' → Wr h h' a (Jvm.RoadKit.slotOf Z C n dd) v → Obj Z h' a C ns vs' → Go K n0 kc kj Q T' pc' Ls (rest)) : Go K n0 kc kj Q T pc Ls (v :: .ref a :: rest) := by
  have hil : i < vs.length := O.2.1 ▸ (List.getElem?_eq_some_iff.mp hi).1
  exact o_putF X d wd (O.2.2 i n dd _ hi (List.getElem?_eq_getElem hil)) O.1 Lf wi hty hn hf ha fun T' h' X' W => g T' h' X' W (hv ▸ O.set LA W i hi)
end OwnKit
theorem pd0 : parseMethodDescriptor "(JJ)J" = some ⟨[.long, .long], some .long⟩ := by decide +kernel
theorem pd1 : parseMethodDescriptor "(IJI)I" = some ⟨[.int, .long, .int], some .int⟩ := by decide +kernel
theorem pd2 : parseMethodDescriptor "(Z)V" = some ⟨[.boolean], none⟩ := by decide +kernel
theorem pd3 : parseMethodDescriptor "(IIII)I" = some ⟨[.int, .int, .int, .int], some .int⟩ := by decide +kernel
theorem pd4 : parseMethodDescriptor "(I)I" = some ⟨[.int], some .int⟩ := by decide +kernel
theorem pd5 : parseMethodDescriptor "(I)V" = some ⟨[.int], none⟩ := by decide +kernel
theorem pn0 : plainName "com/example/markup_to_tree/markuptotree/parser/OffsetsBeforePinLaw" = true := by first | (simp [plainName, overriddenIn]; done) | decide +kernel
theorem pn1 : plainName "com/example/markup_to_tree/markuptotree/parser/EntityText$Offsets" = true := by first | (simp [plainName, overriddenIn]; done) | decide +kernel
theorem own_zero : (0 : Int32).toInt = 0 := by decide
theorem own_one : (1 : Int32).toInt = 1 := by decide
def own_minL (a b : Int64) : Int64 := if b < a then b else a
def own_next (p : Int32) (g : Int64) (s : Int32) : Int32 := (own_minL (p.toInt64 + (XT.ushrL g s &&& 65535)) 2147483647).toInt32
theorem own_next_ge (p : Int32) (g : Int64) (s : Int32) : p.toInt ≤ (own_next p g s).toInt := by
  have e : (XT.ushrL g s &&& 65535).toInt = (XT.ushrL g s).toInt % (2 ^ 16 : Nat) := c_maskL _ 65535 16 (by decide) (by decide)
  have r := rng32 p
  have c : (2147483647 : Int64).toInt = 2147483647 := by decide
  have ea : (p.toInt64 + (XT.ushrL g s &&& 65535)).toInt = p.toInt + (XT.ushrL g s &&& 65535).toInt := by rw [XT.add64 (by rw [c_i2l]; exact ⟨by omega, by omega⟩), c_i2l]
  unfold own_next own_minL
  split
  · rename_i h
    rw [XT.narrowInt (by rw [c]; exact ⟨by omega, by omega⟩), c]; omega
  · rename_i h
    rw [Int64.lt_iff_toInt_lt, c] at h
    rw [XT.narrowInt ⟨by omega, by omega⟩]; omega
def own_bl (n i v q : Int32) : Int32 := if i < n then (if v < q then 1 else 0) else 0
theorem own_add {x y : Int32} (h1 : -1000 ≤ x.toInt) (h2 : x.toInt ≤ 1000) (h3 : -1000 ≤ y.toInt) (h4 : y.toInt ≤ 1000) : (x + y).toInt = x.toInt + y.toInt := XT.add32 ⟨by omega, by omega⟩
theorem own_inc (x : Int32) (h1 : -1000 ≤ x.toInt) (h2 : x.toInt ≤ 999) : (x + 1).toInt = x.toInt + 1 := by rw [own_add h1 (by omega) (by decide) (by decide), own_one]
theorem own_half (x : Int32) (h0 : 0 ≤ x.toInt) : (XT.ushr x 1).toInt = x.toInt / 2 := by
  have r := rng32 x
  have e := c_iushr x 1 1 (by decide) (by decide)
  have : (XT.ushr x 1).toInt = (x.toInt % 4294967296) / (2 ^ 1 : Nat) := e
  rw [this]; omega
theorem own_n (x : Int32) : 0 ≤ ((x &&& 7) % 6).toInt ∧ ((x &&& 7) % 6).toInt < 6 := by
  have e : (x &&& 7).toInt = x.toInt % (2 ^ 3 : Nat) := c_mask x 7 3 (by decide) (by decide)
  have c : (6 : Int32).toInt = 6 := by decide
  have r := (c_iremV (x &&& 7) 6).1 (by omega) (by omega)
  omega
theorem own_six {i : Int32} (h0 : 0 ≤ i.toInt) (h1 : i.toInt < 6) : i = 0 ∨ i = 1 ∨ i = 2 ∨ i = 3 ∨ i = 4 ∨ i = 5 := by
  have k : ∀ c : Int32, i.toInt = c.toInt → i = c := fun c hc => Int32.toInt_inj.mp hc
  have cs : i.toInt = 0 ∨ i.toInt = 1 ∨ i.toInt = 2 ∨ i.toInt = 3 ∨ i.toInt = 4 ∨ i.toInt = 5 := by omega
  exact cs.imp (k 0) fun q => q.imp (k 1) fun q => q.imp (k 2) fun q => q.imp (k 3) fun q => q.imp (k 4) (k 5)
theorem own_five {i : Int32} {P : Int32 → Prop} (h0 : 0 ≤ i.toInt) (h1 : i.toInt < 5) (p0 : P 0) (p1 : P 1) (p2 : P 2) (p3 : P 3) (p4 : P 4) : P i := by
  have c5 : (5 : Int32).toInt = 5 := by decide
  rcases own_six h0 (by omega) with rfl | rfl | rfl | rfl | rfl | rfl
  · exact p0
  · exact p1
  · exact p2
  · exact p3
  · exact p4
  · omega
def own_B (v0 v1 v2 v3 v4 : Int32) (i : Int32) : Int32 := if i = 0 then v0 else if i = 1 then v1 else if i = 2 then v2 else if i = 3 then v3 else v4
def own_mono (B : Int32 → Int32) : Prop := ∀ i j : Int32, 0 ≤ i.toInt → i.toInt ≤ j.toInt → j.toInt < 5 → (B i).toInt ≤ (B j).toInt
theorem own_monoB (v0 v1 v2 v3 v4 : Int32) (a : v0.toInt ≤ v1.toInt) (b : v1.toInt ≤ v2.toInt) (c : v2.toInt ≤ v3.toInt) (d : v3.toInt ≤ v4.toInt) : own_mono (own_B v0 v1 v2 v3 v4) := by
  intro i j h0 h1 h2
  have e0 : own_B v0 v1 v2 v3 v4 0 = v0 := rfl
  have e1 : own_B v0 v1 v2 v3 v4 1 = v1 := rfl
  have e2 : own_B v0 v1 v2 v3 v4 2 = v2 := rfl
  have e3 : own_B v0 v1 v2 v3 v4 3 = v3 := rfl
  have e4 : own_B v0 v1 v2 v3 v4 4 = v4 := rfl
  have c0 : (0 : Int32).toInt = 0 := by decide
  have c1 : (1 : Int32).toInt = 1 := by decide
  have c2 : (2 : Int32).toInt = 2 := by decide
  have c3 : (3 : Int32).toInt = 3 := by decide
  have c4 : (4 : Int32).toInt = 4 := by decide
  have c5 : (5 : Int32).toInt = 5 := by decide
  rcases own_six h0 (by omega) with rfl | rfl | rfl | rfl | rfl | rfl <;> rcases own_six (i := j) (by omega) (by omega) with rfl | rfl | rfl | rfl | rfl | rfl <;> first | omega | (simp only [e0, e1, e2, e3, e4]; omega)
/-- what 'before' returns -/
def own_R (B : Int32 → Int32) (c q r : Int32) : Prop := 0 ≤ r.toInt ∧ r.toInt ≤ c.toInt ∧ (∀ i : Int32, 0 ≤ i.toInt → i.toInt < r.toInt → B i < q) ∧ ∀ i : Int32, r.toInt ≤ i.toInt → i.toInt < c.toInt → ¬ B i < q
theorem own_blE (B : Int32 → Int32) (n q r : Int32) (H : own_R B n q r) (i : Int32) (h0 : 0 ≤ i.toInt) : own_bl n i (B i) q = if i.toInt < r.toInt then 1 else 0 := by
  obtain ⟨h1, h2, h3, h4⟩ := H
  unfold own_bl
  by_cases p : i.toInt < r.toInt
  · rw [if_pos (by rw [Int32.lt_iff_toInt_lt]; omega), if_pos (h3 i h0 p), if_pos p]
  · rw [if_neg p]
    by_cases p2 : i < n
    · rw [if_pos p2, if_neg (h4 i (by omega) (by rw [Int32.lt_iff_toInt_lt] at p2; exact p2))]
    · rw [if_neg p2]
theorem own_main (v0 v1 v2 v3 v4 n q r : Int32) (hn : n.toInt < 6) (H : own_R (own_B v0 v1 v2 v3 v4) n q r) : r = own_bl n 0 v0 q + own_bl n 1 v1 q + own_bl n 2 v2 q + own_bl n 3 v3 q + own_bl n 4 v4 q := by
  have e0 := own_blE _ n q r H 0 (by decide)
  have e1 := own_blE _ n q r H 1 (by decide)
  have e2 := own_blE _ n q r H 2 (by decide)
  have e3 := own_blE _ n q r H 3 (by decide)
  have e4 := own_blE _ n q r H 4 (by decide)
  rw [show own_B v0 v1 v2 v3 v4 0 = v0 from rfl] at e0
  rw [show own_B v0 v1 v2 v3 v4 1 = v1 from rfl] at e1
  rw [show own_B v0 v1 v2 v3 v4 2 = v2 from rfl] at e2
  rw [show own_B v0 v1 v2 v3 v4 3 = v3 from rfl] at e3
  rw [show own_B v0 v1 v2 v3 v4 4 = v4 from rfl] at e4
  rw [e0, e1, e2, e3, e4]
  have b1 := H.1; have b2 := H.2.1
  rcases own_six (i := r) b1 (by omega) with rfl | rfl | rfl | rfl | rfl | rfl <;> decide
theorem own_b01 (x : Int32) : (if x = 0 then (0 : Int32) else 1) = 0 ∨ (if x = 0 then (0 : Int32) else 1) = 1 := by split; exact Or.inl rfl; exact Or.inr rfl

def own_nsO : List (String × String) := [("offsets", "[I"), ("kept", "Z"), ("count", "I")]
theorem own_ldO (Z : State) (a0 : Array Value) (hw : ∀ d ∈ tables_1, d.before a0 Z = true) : LdAll Z a0 "com/example/markup_to_tree/markuptotree/parser/EntityText$Offsets" own_nsO := by
  refine ⟨by decide, fun q hq => ?_⟩
  simp only [own_nsO, List.mem_cons, List.not_mem_nil, or_false] at hq
  rcases hq with rfl | rfl | rfl
  · exact ⟨Or.inl (hw _ (List.mem_of_getElem? (i := 27) rfl)), ⟨_, (by decide : parseFieldDescriptor "[I" = some (.array .int))⟩⟩
  · exact ⟨Or.inr (hw _ (List.mem_of_getElem? (i := 29) rfl)), ⟨_, (by decide : parseFieldDescriptor "Z" = some .boolean)⟩⟩
  · exact ⟨Or.inl (hw _ (List.mem_of_getElem? (i := 39) rfl)), ⟨_, (by decide : parseFieldDescriptor "I" = some .int)⟩⟩
theorem f1_0 : Isn method_3_code 0 (.lload_n 1) 1 1 := ⟨by decide +kernel, rfl⟩
theorem f1_1 : Isn method_3_code 1 (.iload_n 3) 1 2 := ⟨by decide +kernel, rfl⟩
theorem f1_2 : Isn method_3_code 2 (.lushr) 1 3 := ⟨by decide +kernel, rfl⟩
theorem f1_3 : Isn method_3_code 3 (.ldc2_w 48) 3 6 := ⟨by decide +kernel, rfl⟩
theorem f1_6 : Isn method_3_code 6 (.land) 1 7 := ⟨by decide +kernel, rfl⟩
theorem f1_7 : Isn method_3_code 7 (.lstore 4) 2 9 := ⟨by decide +kernel, rfl⟩
theorem f1_9 : Isn method_3_code 9 (.iload_n 0) 1 10 := ⟨by decide +kernel, rfl⟩
theorem f1_10 : Isn method_3_code 10 (.i2l) 1 11 := ⟨by decide +kernel, rfl⟩
theorem f1_11 : Isn method_3_code 11 (.lload 4) 2 13 := ⟨by decide +kernel, rfl⟩
theorem f1_13 : Isn method_3_code 13 (.ladd) 1 14 := ⟨by decide +kernel, rfl⟩
theorem f1_14 : Isn method_3_code 14 (.ldc2_w 17) 3 17 := ⟨by decide +kernel, rfl⟩
theorem f1_17 : Isn method_3_code 17 (.invokestatic 22) 3 20 := ⟨by decide +kernel, rfl⟩
theorem f1_20 : Isn method_3_code 20 (.l2i) 1 21 := ⟨by decide +kernel, rfl⟩
theorem f1_21 : Isn method_3_code 21 (.ireturn) 1 22 := ⟨by decide +kernel, rfl⟩
theorem f2_0 : Isn jdk_29_method_70_code 0 (.lload_n 0) 1 1 := ⟨by decide +kernel, rfl⟩
theorem f2_1 : Isn jdk_29_method_70_code 1 (.lload_n 2) 1 2 := ⟨by decide +kernel, rfl⟩
theorem f2_2 : Isn jdk_29_method_70_code 2 (.lcmp) 1 3 := ⟨by decide +kernel, rfl⟩
theorem f2_3 : Brn jdk_29_method_70_code 3 (.ifCond .gt 7) 7 6 10 := ⟨by decide +kernel, rfl, by decide, by decide⟩
theorem f2_6 : Isn jdk_29_method_70_code 6 (.lload_n 0) 1 7 := ⟨by decide +kernel, rfl⟩
theorem f2_7 : Brn jdk_29_method_70_code 7 (.goto 4) 4 10 11 := ⟨by decide +kernel, rfl, by decide, by decide⟩
theorem f2_10 : Isn jdk_29_method_70_code 10 (.lload_n 2) 1 11 := ⟨by decide +kernel, rfl⟩
theorem f2_11 : Isn jdk_29_method_70_code 11 (.lreturn) 1 12 := ⟨by decide +kernel, rfl⟩
theorem f3_0 : Isn jdk_29_method_66_code 0 (.lload_n 0) 1 1 := ⟨by decide +kernel, rfl⟩
theorem f3_1 : Isn jdk_29_method_66_code 1 (.lload_n 2) 1 2 := ⟨by decide +kernel, rfl⟩
theorem f3_2 : Isn jdk_29_method_66_code 2 (.lcmp) 1 3 := ⟨by decide +kernel, rfl⟩
theorem f3_3 : Brn jdk_29_method_66_code 3 (.ifCond .lt 7) 7 6 10 := ⟨by decide +kernel, rfl, by decide, by decide⟩
theorem f3_6 : Isn jdk_29_method_66_code 6 (.lload_n 0) 1 7 := ⟨by decide +kernel, rfl⟩
theorem f3_7 : Brn jdk_29_method_66_code 7 (.goto 4) 4 10 11 := ⟨by decide +kernel, rfl, by decide, by decide⟩
theorem f3_10 : Isn jdk_29_method_66_code 10 (.lload_n 2) 1 11 := ⟨by decide +kernel, rfl⟩
theorem f3_11 : Isn jdk_29_method_66_code 11 (.lreturn) 1 12 := ⟨by decide +kernel, rfl⟩
theorem f4_0 : Isn prog_75_method_1_code 0 (.aload_n 0) 1 1 := ⟨by decide +kernel, rfl⟩
theorem f4_1 : Isn prog_75_method_1_code 1 (.invokespecial 1) 3 4 := ⟨by decide +kernel, rfl⟩
theorem f4_4 : Isn prog_75_method_1_code 4 (.aload_n 0) 1 5 := ⟨by decide +kernel, rfl⟩
theorem f4_5 : Isn prog_75_method_1_code 5 (.bipush 16) 2 7 := ⟨by decide +kernel, rfl⟩
theorem f4_7 : Isn prog_75_method_1_code 7 (.newarray .int) 2 9 := ⟨by decide +kernel, rfl⟩
theorem f4_9 : Isn prog_75_method_1_code 9 (.putfield 7) 3 12 := ⟨by decide +kernel, rfl⟩
theorem f4_12 : Isn prog_75_method_1_code 12 (.aload_n 0) 1 13 := ⟨by decide +kernel, rfl⟩
theorem f4_13 : Isn prog_75_method_1_code 13 (.iload_n 1) 1 14 := ⟨by decide +kernel, rfl⟩
theorem f4_14 : Isn prog_75_method_1_code 14 (.putfield 13) 3 17 := ⟨by decide +kernel, rfl⟩
theorem f4_17 : Isn prog_75_method_1_code 17 (.return_) 1 18 := ⟨by decide +kernel, rfl⟩
theorem f6_0 : Isn method_4_code 0 (.iload_n 1) 1 1 := ⟨by decide +kernel, rfl⟩
theorem f6_1 : Isn method_4_code 1 (.iload_n 0) 1 2 := ⟨by decide +kernel, rfl⟩
theorem f6_2 : Brn method_4_code 2 (.if_icmp .ge 12) 12 5 14 := ⟨by decide +kernel, rfl, by decide, by decide⟩
theorem f6_5 : Isn method_4_code 5 (.iload_n 2) 1 6 := ⟨by decide +kernel, rfl⟩
theorem f6_6 : Isn method_4_code 6 (.iload_n 3) 1 7 := ⟨by decide +kernel, rfl⟩
theorem f6_7 : Brn method_4_code 7 (.if_icmp .ge 7) 7 10 14 := ⟨by decide +kernel, rfl, by decide, by decide⟩
theorem f6_10 : Isn method_4_code 10 (.iconst 1) 1 11 := ⟨by decide +kernel, rfl⟩
theorem f6_11 : Brn method_4_code 11 (.goto 4) 4 14 15 := ⟨by decide +kernel, rfl, by decide, by decide⟩
theorem f6_14 : Isn method_4_code 14 (.iconst 0) 1 15 := ⟨by decide +kernel, rfl⟩
theorem f6_15 : Isn method_4_code 15 (.ireturn) 1 16 := ⟨by decide +kernel, rfl⟩
theorem f7_0 : Isn prog_75_method_5_code 0 (.iconst 0) 1 1 := ⟨by decide +kernel, rfl⟩
theorem f7_1 : Isn prog_75_method_5_code 1 (.istore_n 2) 1 2 := ⟨by decide +kernel, rfl⟩
theorem f7_2 : Isn prog_75_method_5_code 2 (.aload_n 0) 1 3 := ⟨by decide +kernel, rfl⟩
theorem f7_3 : Isn prog_75_method_5_code 3 (.getfield 17) 3 6 := ⟨by decide +kernel, rfl⟩
theorem f7_6 : Isn prog_75_method_5_code 6 (.istore_n 3) 1 7 := ⟨by decide +kernel, rfl⟩
theorem f7_7 : Isn prog_75_method_5_code 7 (.iload_n 2) 1 8 := ⟨by decide +kernel, rfl⟩
theorem f7_8 : Isn prog_75_method_5_code 8 (.iload_n 3) 1 9 := ⟨by decide +kernel, rfl⟩
theorem f7_9 : Brn prog_75_method_5_code 9 (.if_icmp .ge 35) 35 12 44 := ⟨by decide +kernel, rfl, by decide, by decide⟩
theorem f7_12 : Isn prog_75_method_5_code 12 (.iload_n 2) 1 13 := ⟨by decide +kernel, rfl⟩
theorem f7_13 : Isn prog_75_method_5_code 13 (.iload_n 3) 1 14 := ⟨by decide +kernel, rfl⟩
theorem f7_14 : Isn prog_75_method_5_code 14 (.iadd) 1 15 := ⟨by decide +kernel, rfl⟩
theorem f7_15 : Isn prog_75_method_5_code 15 (.iconst 1) 1 16 := ⟨by decide +kernel, rfl⟩
theorem f7_16 : Isn prog_75_method_5_code 16 (.iushr) 1 17 := ⟨by decide +kernel, rfl⟩
theorem f7_17 : Isn prog_75_method_5_code 17 (.istore 4) 2 19 := ⟨by decide +kernel, rfl⟩
theorem f7_19 : Isn prog_75_method_5_code 19 (.aload_n 0) 1 20 := ⟨by decide +kernel, rfl⟩
theorem f7_20 : Isn prog_75_method_5_code 20 (.getfield 7) 3 23 := ⟨by decide +kernel, rfl⟩
theorem f7_23 : Isn prog_75_method_5_code 23 (.iload 4) 2 25 := ⟨by decide +kernel, rfl⟩
theorem f7_25 : Isn prog_75_method_5_code 25 (.iaload) 1 26 := ⟨by decide +kernel, rfl⟩
theorem f7_26 : Isn prog_75_method_5_code 26 (.iload_n 1) 1 27 := ⟨by decide +kernel, rfl⟩
theorem f7_27 : Brn prog_75_method_5_code 27 (.if_icmp .ge 11) 11 30 38 := ⟨by decide +kernel, rfl, by decide, by decide⟩
theorem f7_30 : Isn prog_75_method_5_code 30 (.iload 4) 2 32 := ⟨by decide +kernel, rfl⟩
theorem f7_32 : Isn prog_75_method_5_code 32 (.iconst 1) 1 33 := ⟨by decide +kernel, rfl⟩
theorem f7_33 : Isn prog_75_method_5_code 33 (.iadd) 1 34 := ⟨by decide +kernel, rfl⟩
theorem f7_34 : Isn prog_75_method_5_code 34 (.istore_n 2) 1 35 := ⟨by decide +kernel, rfl⟩
theorem f7_35 : Brn prog_75_method_5_code 35 (.goto 6) 6 38 41 := ⟨by decide +kernel, rfl, by decide, by decide⟩
theorem f7_38 : Isn prog_75_method_5_code 38 (.iload 4) 2 40 := ⟨by decide +kernel, rfl⟩
theorem f7_40 : Isn prog_75_method_5_code 40 (.istore_n 3) 1 41 := ⟨by decide +kernel, rfl⟩
theorem f7_41 : Brn prog_75_method_5_code 41 (.goto (-34)) (-34) 44 7 := ⟨by decide +kernel, rfl, by decide, by decide⟩
theorem f7_44 : Isn prog_75_method_5_code 44 (.iload_n 2) 1 45 := ⟨by decide +kernel, rfl⟩
theorem f7_45 : Isn prog_75_method_5_code 45 (.ireturn) 1 46 := ⟨by decide +kernel, rfl⟩
theorem f8_0 : Isn prog_75_method_2_code 0 (.aload_n 0) 1 1 := ⟨by decide +kernel, rfl⟩
theorem f8_1 : Isn prog_75_method_2_code 1 (.getfield 17) 3 4 := ⟨by decide +kernel, rfl⟩
theorem f8_4 : Isn prog_75_method_2_code 4 (.aload_n 0) 1 5 := ⟨by decide +kernel, rfl⟩
theorem f8_5 : Isn prog_75_method_2_code 5 (.getfield 7) 3 8 := ⟨by decide +kernel, rfl⟩
theorem f8_8 : Isn prog_75_method_2_code 8 (.arraylength) 1 9 := ⟨by decide +kernel, rfl⟩
theorem f8_9 : Brn prog_75_method_2_code 9 (.if_icmp .ne 7) 7 12 16 := ⟨by decide +kernel, rfl, by decide, by decide⟩
theorem f8_12 : Isn prog_75_method_2_code 12 (.aload_n 0) 1 13 := ⟨by decide +kernel, rfl⟩
theorem f8_13 : Isn prog_75_method_2_code 13 (.invokevirtual 21) 3 16 := ⟨by decide +kernel, rfl⟩
theorem f8_16 : Isn prog_75_method_2_code 16 (.aload_n 0) 1 17 := ⟨by decide +kernel, rfl⟩
theorem f8_17 : Isn prog_75_method_2_code 17 (.getfield 7) 3 20 := ⟨by decide +kernel, rfl⟩
theorem f8_20 : Isn prog_75_method_2_code 20 (.aload_n 0) 1 21 := ⟨by decide +kernel, rfl⟩
theorem f8_21 : Isn prog_75_method_2_code 21 (.dup) 1 22 := ⟨by decide +kernel, rfl⟩
theorem f8_22 : Isn prog_75_method_2_code 22 (.getfield 17) 3 25 := ⟨by decide +kernel, rfl⟩
theorem f8_25 : Isn prog_75_method_2_code 25 (.dup_x1) 1 26 := ⟨by decide +kernel, rfl⟩
theorem f8_26 : Isn prog_75_method_2_code 26 (.iconst 1) 1 27 := ⟨by decide +kernel, rfl⟩
theorem f8_27 : Isn prog_75_method_2_code 27 (.iadd) 1 28 := ⟨by decide +kernel, rfl⟩
theorem f8_28 : Isn prog_75_method_2_code 28 (.putfield 17) 3 31 := ⟨by decide +kernel, rfl⟩
theorem f8_31 : Isn prog_75_method_2_code 31 (.iload_n 1) 1 32 := ⟨by decide +kernel, rfl⟩
theorem f8_32 : Isn prog_75_method_2_code 32 (.iastore) 1 33 := ⟨by decide +kernel, rfl⟩
theorem f8_33 : Isn prog_75_method_2_code 33 (.return_) 1 34 := ⟨by decide +kernel, rfl⟩
theorem f0_0 : Isn code 0 (.iload_n 0) 1 1 := ⟨at_0, rfl⟩
theorem f0_1 : Isn code 1 (.bipush 7) 2 3 := ⟨at_1, rfl⟩
theorem f0_3 : Isn code 3 (.iand) 1 4 := ⟨at_3, rfl⟩
theorem f0_4 : Isn code 4 (.bipush 6) 2 6 := ⟨at_4, rfl⟩
theorem f0_6 : Isn code 6 (.irem) 1 7 := ⟨at_6, rfl⟩
theorem f0_7 : Isn code 7 (.istore 5) 2 9 := ⟨at_7, rfl⟩
theorem f0_9 : Isn code 9 (.iload_n 0) 1 10 := ⟨at_9, rfl⟩
theorem f0_10 : Isn code 10 (.bipush 8) 2 12 := ⟨at_10, rfl⟩
theorem f0_12 : Isn code 12 (.iand) 1 13 := ⟨at_12, rfl⟩
theorem f0_13 : Brn code 13 (.ifCond .ne 7) 7 16 20 := ⟨at_13, rfl, by decide, by decide⟩
theorem f0_16 : Isn code 16 (.iconst 1) 1 17 := ⟨at_16, rfl⟩
theorem f0_17 : Brn code 17 (.goto 4) 4 20 21 := ⟨at_17, rfl, by decide, by decide⟩
theorem f0_20 : Isn code 20 (.iconst 0) 1 21 := ⟨at_20, rfl⟩
theorem f0_21 : Isn code 21 (.istore 6) 2 23 := ⟨at_21, rfl⟩
theorem f0_23 : Isn code 23 (.iload_n 1) 1 24 := ⟨at_23, rfl⟩
theorem f0_24 : Isn code 24 (.istore 7) 2 26 := ⟨at_24, rfl⟩
theorem f0_26 : Isn code 26 (.iload 7) 2 28 := ⟨at_26, rfl⟩
theorem f0_28 : Isn code 28 (.lload_n 2) 1 29 := ⟨at_28, rfl⟩
theorem f0_29 : Isn code 29 (.iconst 0) 1 30 := ⟨at_29, rfl⟩
theorem f0_30 : Isn code 30 (.invokestatic 7) 3 33 := ⟨at_30, rfl⟩
theorem f0_33 : Isn code 33 (.istore 8) 2 35 := ⟨at_33, rfl⟩
theorem f0_35 : Isn code 35 (.iload 8) 2 37 := ⟨at_35, rfl⟩
theorem f0_37 : Isn code 37 (.lload_n 2) 1 38 := ⟨at_37, rfl⟩
theorem f0_38 : Isn code 38 (.bipush 16) 2 40 := ⟨at_38, rfl⟩
theorem f0_40 : Isn code 40 (.invokestatic 7) 3 43 := ⟨at_40, rfl⟩
theorem f0_43 : Isn code 43 (.istore 9) 2 45 := ⟨at_43, rfl⟩
theorem f0_45 : Isn code 45 (.iload 9) 2 47 := ⟨at_45, rfl⟩
theorem f0_47 : Isn code 47 (.lload_n 2) 1 48 := ⟨at_47, rfl⟩
theorem f0_48 : Isn code 48 (.bipush 32) 2 50 := ⟨at_48, rfl⟩
theorem f0_50 : Isn code 50 (.invokestatic 7) 3 53 := ⟨at_50, rfl⟩
theorem f0_53 : Isn code 53 (.istore 10) 2 55 := ⟨at_53, rfl⟩
theorem f0_55 : Isn code 55 (.iload 10) 2 57 := ⟨at_55, rfl⟩
theorem f0_57 : Isn code 57 (.lload_n 2) 1 58 := ⟨at_57, rfl⟩
theorem f0_58 : Isn code 58 (.bipush 48) 2 60 := ⟨at_58, rfl⟩
theorem f0_60 : Isn code 60 (.invokestatic 7) 3 63 := ⟨at_60, rfl⟩
theorem f0_63 : Isn code 63 (.istore 11) 2 65 := ⟨at_63, rfl⟩
theorem f0_65 : Isn code 65 (.iload 6) 2 67 := ⟨at_65, rfl⟩
theorem f0_67 : Brn code 67 (.ifCond .eq 32) 32 70 99 := ⟨at_67, rfl, by decide, by decide⟩
theorem f0_70 : Isn code 70 (.ldc2_w 15) 3 73 := ⟨at_70, rfl⟩
theorem f0_73 : Isn code 73 (.ldc2_w 17) 3 76 := ⟨at_73, rfl⟩
theorem f0_76 : Isn code 76 (.iload_n 1) 1 77 := ⟨at_76, rfl⟩
theorem f0_77 : Isn code 77 (.i2l) 1 78 := ⟨at_77, rfl⟩
theorem f0_78 : Isn code 78 (.iload 4) 2 80 := ⟨at_78, rfl⟩
theorem f0_80 : Isn code 80 (.ldc 19) 2 82 := ⟨at_80, rfl⟩
theorem f0_82 : Isn code 82 (.iand) 1 83 := ⟨at_82, rfl⟩
theorem f0_83 : Isn code 83 (.i2l) 1 84 := ⟨at_83, rfl⟩
theorem f0_84 : Isn code 84 (.ladd) 1 85 := ⟨at_84, rfl⟩
theorem f0_85 : Isn code 85 (.ldc2_w 20) 3 88 := ⟨at_85, rfl⟩
theorem f0_88 : Isn code 88 (.lsub) 1 89 := ⟨at_88, rfl⟩
theorem f0_89 : Isn code 89 (.invokestatic 22) 3 92 := ⟨at_89, rfl⟩
theorem f0_92 : Isn code 92 (.invokestatic 28) 3 95 := ⟨at_92, rfl⟩
theorem f0_95 : Isn code 95 (.l2i) 1 96 := ⟨at_95, rfl⟩
theorem f0_96 : Brn code 96 (.goto 5) 5 99 101 := ⟨at_96, rfl, by decide, by decide⟩
theorem f0_99 : Isn code 99 (.iload 4) 2 101 := ⟨at_99, rfl⟩
theorem f0_101 : Isn code 101 (.istore 12) 2 103 := ⟨at_101, rfl⟩
theorem f0_103 : Isn code 103 (.new 31) 3 106 := ⟨at_103, rfl⟩
theorem f0_106 : Isn code 106 (.dup) 1 107 := ⟨at_106, rfl⟩
theorem f0_107 : Isn code 107 (.iload_n 0) 1 108 := ⟨at_107, rfl⟩
theorem f0_108 : Isn code 108 (.bipush 16) 2 110 := ⟨at_108, rfl⟩
theorem f0_110 : Isn code 110 (.iand) 1 111 := ⟨at_110, rfl⟩
theorem f0_111 : Brn code 111 (.ifCond .eq 7) 7 114 118 := ⟨at_111, rfl, by decide, by decide⟩
theorem f0_114 : Isn code 114 (.iconst 1) 1 115 := ⟨at_114, rfl⟩
theorem f0_115 : Brn code 115 (.goto 4) 4 118 119 := ⟨at_115, rfl, by decide, by decide⟩
theorem f0_118 : Isn code 118 (.iconst 0) 1 119 := ⟨at_118, rfl⟩
theorem f0_119 : Isn code 119 (.invokespecial 33) 3 122 := ⟨at_119, rfl⟩
theorem f0_122 : Isn code 122 (.astore 13) 2 124 := ⟨at_122, rfl⟩
theorem f0_124 : Isn code 124 (.iload 5) 2 126 := ⟨at_124, rfl⟩
theorem f0_126 : Brn code 126 (.ifCond .le 10) 10 129 136 := ⟨at_126, rfl, by decide, by decide⟩
theorem f0_129 : Isn code 129 (.aload 13) 2 131 := ⟨at_129, rfl⟩
theorem f0_131 : Isn code 131 (.iload 7) 2 133 := ⟨at_131, rfl⟩
theorem f0_133 : Isn code 133 (.invokevirtual 36) 3 136 := ⟨at_133, rfl⟩
theorem f0_136 : Isn code 136 (.iload 5) 2 138 := ⟨at_136, rfl⟩
theorem f0_138 : Isn code 138 (.iconst 1) 1 139 := ⟨at_138, rfl⟩
theorem f0_139 : Brn code 139 (.if_icmp .le 10) 10 142 149 := ⟨at_139, rfl, by decide, by decide⟩
theorem f0_142 : Isn code 142 (.aload 13) 2 144 := ⟨at_142, rfl⟩
theorem f0_144 : Isn code 144 (.iload 8) 2 146 := ⟨at_144, rfl⟩
theorem f0_146 : Isn code 146 (.invokevirtual 36) 3 149 := ⟨at_146, rfl⟩
theorem f0_149 : Isn code 149 (.iload 5) 2 151 := ⟨at_149, rfl⟩
theorem f0_151 : Isn code 151 (.iconst 2) 1 152 := ⟨at_151, rfl⟩
theorem f0_152 : Brn code 152 (.if_icmp .le 10) 10 155 162 := ⟨at_152, rfl, by decide, by decide⟩
theorem f0_155 : Isn code 155 (.aload 13) 2 157 := ⟨at_155, rfl⟩
theorem f0_157 : Isn code 157 (.iload 9) 2 159 := ⟨at_157, rfl⟩
theorem f0_159 : Isn code 159 (.invokevirtual 36) 3 162 := ⟨at_159, rfl⟩
theorem f0_162 : Isn code 162 (.iload 5) 2 164 := ⟨at_162, rfl⟩
theorem f0_164 : Isn code 164 (.iconst 3) 1 165 := ⟨at_164, rfl⟩
theorem f0_165 : Brn code 165 (.if_icmp .le 10) 10 168 175 := ⟨at_165, rfl, by decide, by decide⟩
theorem f0_168 : Isn code 168 (.aload 13) 2 170 := ⟨at_168, rfl⟩
theorem f0_170 : Isn code 170 (.iload 10) 2 172 := ⟨at_170, rfl⟩
theorem f0_172 : Isn code 172 (.invokevirtual 36) 3 175 := ⟨at_172, rfl⟩
theorem f0_175 : Isn code 175 (.iload 5) 2 177 := ⟨at_175, rfl⟩
theorem f0_177 : Isn code 177 (.iconst 4) 1 178 := ⟨at_177, rfl⟩
theorem f0_178 : Brn code 178 (.if_icmp .le 10) 10 181 188 := ⟨at_178, rfl, by decide, by decide⟩
theorem f0_181 : Isn code 181 (.aload 13) 2 183 := ⟨at_181, rfl⟩
theorem f0_183 : Isn code 183 (.iload 11) 2 185 := ⟨at_183, rfl⟩
theorem f0_185 : Isn code 185 (.invokevirtual 36) 3 188 := ⟨at_185, rfl⟩
theorem f0_188 : Isn code 188 (.iload 5) 2 190 := ⟨at_188, rfl⟩
theorem f0_190 : Isn code 190 (.iconst 0) 1 191 := ⟨at_190, rfl⟩
theorem f0_191 : Isn code 191 (.iload 7) 2 193 := ⟨at_191, rfl⟩
theorem f0_193 : Isn code 193 (.iload 12) 2 195 := ⟨at_193, rfl⟩
theorem f0_195 : Isn code 195 (.invokestatic 40) 3 198 := ⟨at_195, rfl⟩
theorem f0_198 : Isn code 198 (.iload 5) 2 200 := ⟨at_198, rfl⟩
theorem f0_200 : Isn code 200 (.iconst 1) 1 201 := ⟨at_200, rfl⟩
theorem f0_201 : Isn code 201 (.iload 8) 2 203 := ⟨at_201, rfl⟩
theorem f0_203 : Isn code 203 (.iload 12) 2 205 := ⟨at_203, rfl⟩
theorem f0_205 : Isn code 205 (.invokestatic 40) 3 208 := ⟨at_205, rfl⟩
theorem f0_208 : Isn code 208 (.iadd) 1 209 := ⟨at_208, rfl⟩
theorem f0_209 : Isn code 209 (.iload 5) 2 211 := ⟨at_209, rfl⟩
theorem f0_211 : Isn code 211 (.iconst 2) 1 212 := ⟨at_211, rfl⟩
theorem f0_212 : Isn code 212 (.iload 9) 2 214 := ⟨at_212, rfl⟩
theorem f0_214 : Isn code 214 (.iload 12) 2 216 := ⟨at_214, rfl⟩
theorem f0_216 : Isn code 216 (.invokestatic 40) 3 219 := ⟨at_216, rfl⟩
theorem f0_219 : Isn code 219 (.iadd) 1 220 := ⟨at_219, rfl⟩
theorem f0_220 : Isn code 220 (.iload 5) 2 222 := ⟨at_220, rfl⟩
theorem f0_222 : Isn code 222 (.iconst 3) 1 223 := ⟨at_222, rfl⟩
theorem f0_223 : Isn code 223 (.iload 10) 2 225 := ⟨at_223, rfl⟩
theorem f0_225 : Isn code 225 (.iload 12) 2 227 := ⟨at_225, rfl⟩
theorem f0_227 : Isn code 227 (.invokestatic 40) 3 230 := ⟨at_227, rfl⟩
theorem f0_230 : Isn code 230 (.iadd) 1 231 := ⟨at_230, rfl⟩
theorem f0_231 : Isn code 231 (.iload 5) 2 233 := ⟨at_231, rfl⟩
theorem f0_233 : Isn code 233 (.iconst 4) 1 234 := ⟨at_233, rfl⟩
theorem f0_234 : Isn code 234 (.iload 11) 2 236 := ⟨at_234, rfl⟩
theorem f0_236 : Isn code 236 (.iload 12) 2 238 := ⟨at_236, rfl⟩
theorem f0_238 : Isn code 238 (.invokestatic 40) 3 241 := ⟨at_238, rfl⟩
theorem f0_241 : Isn code 241 (.iadd) 1 242 := ⟨at_241, rfl⟩
theorem f0_242 : Isn code 242 (.istore 14) 2 244 := ⟨at_242, rfl⟩
theorem f0_244 : Isn code 244 (.aload 13) 2 246 := ⟨at_244, rfl⟩
theorem f0_246 : Isn code 246 (.iload 12) 2 248 := ⟨at_246, rfl⟩
theorem f0_248 : Isn code 248 (.invokevirtual 44) 3 251 := ⟨at_248, rfl⟩
theorem f0_251 : Isn code 251 (.iload 14) 2 253 := ⟨at_251, rfl⟩
theorem f0_253 : Brn code 253 (.if_icmp .ne 7) 7 256 260 := ⟨at_253, rfl, by decide, by decide⟩
theorem f0_256 : Isn code 256 (.iconst 1) 1 257 := ⟨at_256, rfl⟩
theorem f0_257 : Brn code 257 (.goto 4) 4 260 261 := ⟨at_257, rfl, by decide, by decide⟩
theorem f0_260 : Isn code 260 (.iconst 0) 1 261 := ⟨at_260, rfl⟩
theorem f0_261 : Isn code 261 (.ireturn) 1 262 := ⟨at_261, rfl⟩
set_option maxRecDepth 65536 in
set_option maxHeartbeats 40000000 in
theorem rm2 (l : Launch) (Z : State) (a0 : Array Value) (hw : ∀ d ∈ tables_1, d.before a0 Z = true) (x0 : Int64) (x1 : Int64) (h : Heap) (n0 : Nat) :
    Ctr l Z (⟨"java/lang/Math", "min", "(JJ)J"⟩ : MethodName) jdk_29_method_70_code 4 (some (.long)) ({ frames := 0, cells := 0, slots := 0, locals := 0 } : Room) [.long x0, .long x1] h n0 (fun v h' => v = some (.long (own_minL x0 x1)) ∧ h' = h) := by
  refine CtrW.intro (by decide +kernel) rfl #[.val (.long x0), .second, .val (.long x1), .second] rfl ?_
  intro K T hnm hl X
  subst hl
  refine o_lload_n X f2_0 rfl ?_
  refine o_lload_n X f2_1 rfl ?_
  refine o_lcmp X f2_2 ?_
  refine o_lif_gt X f2_3 (fun q3 => ?_) (fun q3 => ?_)
  · refine o_lload_n X f2_10 rfl ?_
    refine o_retL X f2_11 (by decide) (by decide) ?_
    exact ⟨by simp only [own_minL, q3, ↓reduceIte, if_true, if_false] <;> rfl, rfl⟩
  · refine o_lload_n X f2_6 rfl ?_
    refine o_goto X f2_7 ?_
    refine o_retL X f2_11 (by decide) (by decide) ?_
    exact ⟨by simp only [own_minL, q3, ↓reduceIte, if_true, if_false] <;> rfl, rfl⟩
set_option maxRecDepth 65536 in
set_option maxHeartbeats 40000000 in
theorem rm3 (l : Launch) (Z : State) (a0 : Array Value) (hw : ∀ d ∈ tables_1, d.before a0 Z = true) (x0 : Int64) (x1 : Int64) (h : Heap) (n0 : Nat) :
    Ctr l Z (⟨"java/lang/Math", "max", "(JJ)J"⟩ : MethodName) jdk_29_method_66_code 4 (some (.long)) ({ frames := 0, cells := 0, slots := 0, locals := 0 } : Room) [.long x0, .long x1] h n0 (fun v h' => (∃ z, v = some (.long z)) ∧ h' = h) := by
  refine CtrW.intro (by decide +kernel) rfl #[.val (.long x0), .second, .val (.long x1), .second] rfl ?_
  intro K T hnm hl X
  subst hl
  refine o_lload_n X f3_0 rfl ?_
  refine o_lload_n X f3_1 rfl ?_
  refine o_lcmp X f3_2 ?_
  refine o_lif_lt X f3_3 (fun q3 => ?_) (fun q3 => ?_)
  · refine o_lload_n X f3_10 rfl ?_
    refine o_retL X f3_11 (by decide) (by decide) ?_
    exact ⟨⟨_, rfl⟩, rfl⟩
  · refine o_lload_n X f3_6 rfl ?_
    refine o_goto X f3_7 ?_
    refine o_retL X f3_11 (by decide) (by decide) ?_
    exact ⟨⟨_, rfl⟩, rfl⟩
set_option maxRecDepth 65536 in
set_option maxHeartbeats 40000000 in
theorem rm1 (l : Launch) (Z : State) (a0 : Array Value) (hw : ∀ d ∈ tables_1, d.before a0 Z = true) (x0 : Int32) (x1 : Int64) (x2 : Int32) (h : Heap) (n0 : Nat) :
    Ctr l Z (⟨"com/example/markup_to_tree/markuptotree/parser/OffsetsBeforePinLaw", "next", "(IJI)I"⟩ : MethodName) method_3_code 6 (some (.int)) ({ frames := 1, cells := 0, slots := 0, locals := 22 } : Room) [.int x0, .long x1, .int x2] h n0 (fun v h' => (∃ z, v = some (.int z) ∧ x0.toInt ≤ z.toInt) ∧ h' = h) := by
  refine CtrW.intro (plainFor_of_name pn0) rfl #[.val (.int x0), .val (.long x1), .second, .val (.int x2), .unset, .unset] rfl ?_
  intro K T hnm hl X
  subst hl
  refine o_lload_n X f1_0 rfl ?_
  refine o_iload_n X f1_1 rfl ?_
  refine o_lushr X f1_2 ?_
  refine o_ldc2 X f1_3 (hw _ (List.mem_of_getElem? (i := 4) rfl)) ?_
  refine o_land X f1_6 ?_
  refine o_lstore X f1_7 (Ls' := #[_, _, _, _, _, _]) rfl ?_
  refine o_iload_n X f1_9 rfl ?_
  refine o_i2l X f1_10 ?_
  refine o_lload X f1_11 rfl ?_
  refine o_ladd X f1_13 ?_
  refine o_ldc2 X f1_14 (hw _ (List.mem_of_getElem? (i := 5) rfl)) ?_
  refine o_callS X 4 f1_17 (hw _ (List.mem_of_getElem? (i := 6) rfl)) (hw _ (List.mem_of_getElem? (i := 7) rfl)) (hw _ (List.mem_of_getElem? (i := 8) rfl)) (hw _ (List.mem_of_getElem? (i := 9) rfl)) (by decide) (rm2 K.l Z a0 hw _ _ _ _) (lenOf pd0 rfl) rfl rfl (by first | exact Nat.zero_le _ | simp [Value.category]) (by decide) ?_
  rintro T1 h1 v1 ⟨rfl, rfl⟩ X1
  refine o_v1 ?_
  refine o_l2i X1 f1_20 ?_
  refine o_retI X1 f1_21 (by decide) (by decide) ?_
  exact ⟨⟨_, rfl, own_next_ge x0 x1 x2⟩, rfl⟩
set_option maxRecDepth 65536 in
set_option maxHeartbeats 40000000 in
theorem rm6 (l : Launch) (Z : State) (a0 : Array Value) (hw : ∀ d ∈ tables_1, d.before a0 Z = true) (x0 : Int32) (x1 : Int32) (x2 : Int32) (x3 : Int32) (h : Heap) (n0 : Nat) :
    Ctr l Z (⟨"com/example/markup_to_tree/markuptotree/parser/OffsetsBeforePinLaw", "below", "(IIII)I"⟩ : MethodName) method_4_code 4 (some (.int)) ({ frames := 0, cells := 0, slots := 0, locals := 0 } : Room) [.int x0, .int x1, .int x2, .int x3] h n0 (fun v h' => v = some (.int (own_bl x0 x1 x2 x3)) ∧ h' = h) := by
  refine CtrW.intro (plainFor_of_name pn0) rfl #[.val (.int x0), .val (.int x1), .val (.int x2), .val (.int x3)] rfl ?_
  intro K T hnm hl X
  subst hl
  refine o_iload_n X f6_0 rfl ?_
  refine o_iload_n X f6_1 rfl ?_
  refine o_icmp_ge X f6_2 (fun q2 => ?_) (fun q2 => ?_)
  · refine o_iconst 0 X f6_14 rfl ?_
    refine o_retI X f6_15 (by decide) (by decide) ?_
    exact ⟨by simp only [own_bl, q2, ↓reduceIte, if_true, if_false] <;> rfl, rfl⟩
  · refine o_iload_n X f6_5 rfl ?_
    refine o_iload_n X f6_6 rfl ?_
    refine o_icmp_ge X f6_7 (fun q7 => ?_) (fun q7 => ?_)
    · refine o_iconst 0 X f6_14 rfl ?_
      refine o_retI X f6_15 (by decide) (by decide) ?_
      exact ⟨by simp only [own_bl, q2, q7, ↓reduceIte, if_true, if_false] <;> rfl, rfl⟩
    · refine o_iconst 1 X f6_10 rfl ?_
      refine o_goto X f6_11 ?_
      refine o_retI X f6_15 (by decide) (by decide) ?_
      exact ⟨by simp only [own_bl, q2, q7, ↓reduceIte, if_true, if_false] <;> rfl, rfl⟩
set_option maxRecDepth 65536 in
set_option maxHeartbeats 40000000 in
theorem rm4 (l : Launch) (Z : State) (a0 : Array Value) (hw : ∀ d ∈ tables_1, d.before a0 Z = true) (o : Addr) (x0 : Int32) (h : Heap) (n0 : Nat) (hn0 : n0 ≤ h.size) (ha_o : n0 ≤ o) (hg : x0 = 0 ∨ x0 = 1) (O : Obj Z h o "com/example/markup_to_tree/markuptotree/parser/EntityText$Offsets" own_nsO [.null, .int 0, .int 0]) :
    Ctr l Z (⟨"com/example/markup_to_tree/markuptotree/parser/EntityText$Offsets", "<init>", "(Z)V"⟩ : MethodName) prog_75_method_1_code 2 (none) ({ frames := 1, cells := 1, slots := 16, locals := 14 } : Room) [.ref o, .int x0] h n0 (fun v h' => v = none ∧ ∃ ar : Addr, Obj Z h' o "com/example/markup_to_tree/markuptotree/parser/EntityText$Offsets" own_nsO [.ref ar, .int x0, .int 0] ∧ AL Z h' ar .int [.int 0, .int 0, .int 0, .int 0, .int 0, .int 0, .int 0, .int 0, .int 0, .int 0, .int 0, .int 0, .int 0, .int 0, .int 0, .int 0] ∧ n0 ≤ ar ∧ o ≠ ar) := by
  refine CtrW.intro (plainFor_of_name pn1) rfl #[.val (.ref o), .val (.int x0)] rfl ?_
  intro K T hnm hl X
  subst hl
  have hg1 : narrow .boolean (.int x0) = .int x0 := by rcases hg with rfl | rfl <;> rfl
  have hg2 : fits .boolean (.int x0) = true := by rcases hg with rfl | rfl <;> rfl
  refine o_aload_n X f4_0 rfl rfl ?_
  refine o_initO X 2 f4_1 (hw _ (List.mem_of_getElem? (i := 22) rfl)) (hw _ (List.mem_of_getElem? (i := 23) rfl)) (hw _ (List.mem_of_getElem? (i := 24) rfl)) rfl (by first | exact Nat.zero_le _ | simp [Value.category]) (by decide) ?_
  intro T1 X1
  refine o_aload_n X1 f4_4 rfl rfl ?_
  refine o_bipush 16 X1 f4_5 rfl ?_
  refine o_newarray X1 16 f4_7 (hw _ (List.mem_of_getElem? (i := 25) rfl)) (by decide) (by decide) (vs := [.int 0, .int 0, .int 0, .int 0, .int 0, .int 0, .int 0, .int 0, .int 0, .int 0, .int 0, .int 0, .int 0, .int 0, .int 0, .int 0]) rfl (by decide) ?_
  intro T2 h2 ar e2 X2 E2 arF2
  have n_o_ar : o ≠ ar := Nat.ne_of_lt (e2 ▸ O.lt)
  have n_ar_o := n_o_ar.symm
  have ha_ar : n0 ≤ ar := e2 ▸ hn0
  have oF2 := O.ext E2
  have z2 := Nat.le_trans hn0 E2.1
  refine o_putO X2 0 f4_9 (hw _ (List.mem_of_getElem? (i := 26) rfl)) oF2 (own_ldO Z a0 hw) rfl (Or.inl (hw _ (List.mem_of_getElem? (i := 27) rfl))) (hw _ (List.mem_of_getElem? (i := 17) rfl)) (ty := (.array .int)) (by decide) rfl rfl ha_o (vs' := [_, _, _]) rfl ?_
  intro T3 h3 X3 W3 oF3
  have arF3 := arF2.other W3 n_ar_o
  have z3 := Nat.le_trans z2 (Keep.of_wr W3).1
  refine o_aload_n X3 f4_12 rfl rfl ?_
  refine o_iload_n X3 f4_13 rfl ?_
  refine o_putO X3 1 f4_14 (hw _ (List.mem_of_getElem? (i := 28) rfl)) oF3 (own_ldO Z a0 hw) rfl (Or.inr ⟨(hw _ (List.mem_of_getElem? (i := 29) rfl)), rfl, hnm⟩) (hw _ (List.mem_of_getElem? (i := 17) rfl)) (ty := .boolean) (by decide) hg1 hg2 ha_o (vs' := [_, _, _]) rfl ?_
  intro T4 h4 X4 W4 oF4
  have arF4 := arF3.other W4 n_ar_o
  have z4 := Nat.le_trans z3 (Keep.of_wr W4).1
  refine o_ret0 X4 f4_17 (by decide) (by decide) ?_
  exact ⟨rfl, ar, oF4, arF4, ha_ar, n_o_ar⟩
set_option maxRecDepth 65536 in
set_option maxHeartbeats 40000000 in
theorem rm8 (l : Launch) (Z : State) (a0 : Array Value) (hw : ∀ d ∈ tables_1, d.before a0 Z = true) (o : Addr) (x0 : Int32) (h : Heap) (n0 : Nat) (ar : Addr) (fl c : Int32) (vs : List Value) (hl : vs.length = 16) (hc0 : ¬ c < 0) (hc1 : c.toNatClampNeg < 16) (hc16 : ¬ c = 16) (ha_o : n0 ≤ o) (ha_ar : n0 ≤ ar) (n_o_ar : o ≠ ar) (O : Obj Z h o "com/example/markup_to_tree/markuptotree/parser/EntityText$Offsets" own_nsO [.ref ar, .int fl, .int c]) (A : AL Z h ar .int vs) :
    Ctr l Z (⟨"com/example/markup_to_tree/markuptotree/parser/EntityText$Offsets", "add", "(I)V"⟩ : MethodName) prog_75_method_2_code 2 (none) ({ frames := 0, cells := 0, slots := 0, locals := 0 } : Room) [.ref o, .int x0] h n0 (fun v h' => v = none ∧ Obj Z h' o "com/example/markup_to_tree/markuptotree/parser/EntityText$Offsets" own_nsO [.ref ar, .int fl, .int (c + 1)] ∧ AL Z h' ar .int (vs.set c.toNatClampNeg (.int x0))) := by
  refine CtrW.intro (plainFor_of_name pn1) rfl #[.val (.ref o), .val (.int x0)] rfl ?_
  intro K T hnm hl X
  subst hl
  have n_ar_o := n_o_ar.symm
  refine o_aload_n X f8_0 rfl rfl ?_
  refine o_getO X 2 f8_1 (hw _ (List.mem_of_getElem? (i := 38) rfl)) O rfl rfl ?_
  intro T1 X1
  refine o_aload_n X1 f8_4 rfl rfl ?_
  refine o_getO X1 0 f8_5 (hw _ (List.mem_of_getElem? (i := 26) rfl)) O rfl rfl ?_
  intro T2 X2
  refine o_arraylength X2 16 f8_8 A (by rw [hl]; rfl) ?_
  refine o_icmp_ne_t X2 f8_9 (hc16) ?_
  refine o_aload_n X2 f8_16 rfl rfl ?_
  refine o_getO X2 0 f8_17 (hw _ (List.mem_of_getElem? (i := 26) rfl)) O rfl rfl ?_
  intro T3 X3
  refine o_aload_n X3 f8_20 rfl rfl ?_
  refine o_dup X3 f8_21 rfl ?_
  refine o_getO X3 2 f8_22 (hw _ (List.mem_of_getElem? (i := 38) rfl)) O rfl rfl ?_
  intro T4 X4
  refine o_dup_x1 X4 f8_25 rfl rfl ?_
  refine o_iconst 1 X4 f8_26 rfl ?_
  refine o_iadd X4 f8_27 ?_
  refine o_putO X4 2 f8_28 (hw _ (List.mem_of_getElem? (i := 38) rfl)) O (own_ldO Z a0 hw) rfl (Or.inl (hw _ (List.mem_of_getElem? (i := 39) rfl))) (hw _ (List.mem_of_getElem? (i := 17) rfl)) (ty := .int) (by decide) rfl rfl ha_o (vs' := [_, _, _]) rfl ?_
  intro T5 h5 X5 W5 oF5
  have arF5 := A.other W5 n_ar_o
  refine o_iload_n X5 f8_31 rfl ?_
  refine o_iastore X5 f8_32 arF5 hc0 (by rw [hl]; exact hc1) ha_ar rfl ?_
  intro T6 h6 X6 W6 arF6
  have oF6 := oF5.other W6 n_o_ar
  refine o_ret0 X6 f8_33 (by decide) (by decide) ?_
  exact ⟨rfl, oF6, arF6⟩
set_option maxRecDepth 65536 in
set_option maxHeartbeats 40000000 in
theorem rm7 (l : Launch) (Z : State) (a0 : Array Value) (hw : ∀ d ∈ tables_1, d.before a0 Z = true) (o : Addr) (x0 : Int32) (h : Heap) (n0 : Nat) (ar : Addr) (fl c : Int32) (vs : List Value) (B : Int32 → Int32) (c0 : 0 ≤ c.toInt) (c5 : c.toInt < 6) (hB : own_mono B) (HA : ∀ i : Int32, 0 ≤ i.toInt → i.toInt < c.toInt → vs[i.toNatClampNeg]? = some (.int (B i))) (O : Obj Z h o "com/example/markup_to_tree/markuptotree/parser/EntityText$Offsets" own_nsO [.ref ar, .int fl, .int c]) (A : AL Z h ar .int vs) :
    Ctr l Z (⟨"com/example/markup_to_tree/markuptotree/parser/EntityText$Offsets", "before", "(I)I"⟩ : MethodName) prog_75_method_5_code 5 (some (.int)) ({ frames := 0, cells := 0, slots := 0, locals := 0 } : Room) [.ref o, .int x0] h n0 (fun v h' => (∃ r, v = some (.int r) ∧ own_R B c x0 r) ∧ h' = h) := by
  refine CtrW.intro (plainFor_of_name pn1) rfl #[.val (.ref o), .val (.int x0), .unset, .unset, .unset] rfl ?_
  intro K T hnm hl X
  subst hl
  have loop : ∀ (n : Nat) (lo hi : Int32) (sl : Slot) (T : State), (sl = .unset ∨ ∃ w, sl = .val w ∧ w.category = 1) → St K Z "com/example/markup_to_tree/markuptotree/parser/EntityText$Offsets" prog_75_method_5_code 5 (some (.int)) ({ frames := 0, cells := 0, slots := 0, locals := 0 } : Room) n0 0 0 T h → 0 ≤ lo.toInt → lo.toInt ≤ hi.toInt → hi.toInt ≤ c.toInt → hi.toInt - lo.toInt ≤ n → (∀ i : Int32, 0 ≤ i.toInt → i.toInt < lo.toInt → B i < x0) → (∀ i : Int32, hi.toInt ≤ i.toInt → i.toInt < c.toInt → ¬ B i < x0) → Go K n0 0 0 (fun v h' => (∃ r, v = some (.int r) ∧ own_R B c x0 r) ∧ h' = h) T 7 #[.val (.ref o), .val (.int x0), .val (.int lo), .val (.int hi), sl] [] := by
    intro n
    induction n with
    | zero =>
      intro lo hi sl T hsl X l0 l1 l2 l3 ha hb
      refine o_iload_n X f7_7 rfl ?_
      refine o_iload_n X f7_8 rfl ?_
      refine o_icmp_ge_t X f7_9 (by rw [Int32.lt_iff_toInt_lt]; omega) ?_
      refine o_iload_n X f7_44 rfl ?_
      refine o_retI X f7_45 (by decide) (by decide) ?_
      exact ⟨⟨_, rfl, by omega, by omega, ha, fun i g0 g1 => hb i (by omega) g1⟩, rfl⟩
    | succ n ih =>
      intro lo hi sl T hsl X l0 l1 l2 l3 ha hb
      refine o_iload_n X f7_7 rfl ?_
      refine o_iload_n X f7_8 rfl ?_
      refine o_icmp_ge X f7_9 (fun q9 => ?_) (fun q9 => ?_)
      · refine o_iload_n X f7_44 rfl ?_
        refine o_retI X f7_45 (by decide) (by decide) ?_
        rw [Int32.lt_iff_toInt_lt] at q9
        exact ⟨⟨_, rfl, by omega, by omega, ha, fun i g0 g1 => hb i (by omega) g1⟩, rfl⟩
      · refine o_iload_n X f7_12 rfl ?_
        refine o_iload_n X f7_13 rfl ?_
        refine o_iadd X f7_14 ?_
        refine o_iconst 1 X f7_15 rfl ?_
        refine o_iushr X f7_16 ?_
        refine o_gen fun md e_md => ?_
        have q9z := q9
        rw [Int32.lt_iff_toInt_lt] at q9z
        have em : md.toInt = (lo.toInt + hi.toInt) / 2 := by rw [e_md, own_half _ (by rw [own_add (by omega) (by omega) (by omega) (by omega)]; omega), own_add (by omega) (by omega) (by omega) (by omega)]
        have em1 := own_inc md (by omega) (by omega)
        have hm0 : ¬ md < 0 := by rw [Int32.lt_iff_toInt_lt, own_zero]; omega
        have hmv := HA md (by omega) (by omega)
        refine o_istoreO X f7_17 rfl hsl (Ls' := #[_, _, _, _, _]) rfl ?_
        refine o_aload_n X f7_19 rfl rfl ?_
        refine o_getO X 0 f7_20 (hw _ (List.mem_of_getElem? (i := 26) rfl)) O rfl rfl ?_
        intro T1 X1
        refine o_iload X1 f7_23 rfl ?_
        refine o_iaload X1 f7_25 A hm0 hmv ?_
        refine o_iload_n X1 f7_26 rfl ?_
        refine o_icmp_ge X1 f7_27 (fun q27 => ?_) (fun q27 => ?_)
        · refine o_iload X1 f7_38 rfl ?_
          refine o_istore_n X1 f7_40 (Ls' := #[_, _, _, _, _]) rfl ?_
          refine o_goto X1 f7_41 ?_
          rw [Int32.lt_iff_toInt_lt] at q9
          exact ih _ _ _ _ (Or.inr ⟨_, rfl, rfl⟩) X1 (by omega) (by omega) (by omega) (by omega) ha (fun i g0 g1 => by have := hB _ i (by omega : 0 ≤ md.toInt) (by omega) (by omega); rw [Int32.lt_iff_toInt_lt] at q27 ⊢; omega)
        · refine o_iload X1 f7_30 rfl ?_
          refine o_iconst 1 X1 f7_32 rfl ?_
          refine o_iadd X1 f7_33 ?_
          refine o_istore_n X1 f7_34 (Ls' := #[_, _, _, _, _]) rfl ?_
          refine o_goto X1 f7_35 ?_
          refine o_goto X1 f7_41 ?_
          rw [Int32.lt_iff_toInt_lt] at q9
          exact ih _ _ _ _ (Or.inr ⟨_, rfl, rfl⟩) X1 (by rw [em1]; omega) (by rw [em1]; omega) (by omega) (by rw [em1]; omega) (fun i g0 g1 => by rw [em1] at g1; have := hB i _ g0 (by omega : i.toInt ≤ md.toInt) (by omega); rw [Int32.lt_iff_toInt_lt] at q27 ⊢; omega) hb
  refine o_iconst 0 X f7_0 rfl ?_
  refine o_istore_n X f7_1 (Ls' := #[_, _, _, _, _]) rfl ?_
  refine o_aload_n X f7_2 rfl rfl ?_
  refine o_getO X 2 f7_3 (hw _ (List.mem_of_getElem? (i := 38) rfl)) O rfl rfl ?_
  intro T1 X1
  refine o_istore_n X1 f7_6 (Ls' := #[_, _, _, _, _]) rfl ?_
  exact loop c.toInt.toNat 0 c _ _ (Or.inl rfl) X1 (by decide) (by rw [own_zero]; omega) (Int.le_refl _) (by rw [own_zero]; omega) (fun i g0 g1 => by rw [own_zero] at g1; omega) (fun i g0 g1 => by omega)
set_option maxRecDepth 65536 in
set_option maxHeartbeats 40000000 in
theorem rm0 (l : Launch) (Z : State) (a0 : Array Value) (hw : ∀ d ∈ tables_1, d.before a0 Z = true) (x0 : Int32) (x1 : Int32) (x2 : Int64) (x3 : Int32) (h : Heap) (n0 : Nat) (hn0 : n0 ≤ h.size) :
    CtrW l Z x code 15 (some .boolean) tables_1 room_1 16 128 [.int x0, .int x1, .long x2, .int x3] h n0 (fun v _ => v = some (.int 1)) := by
  refine CtrW.intro (plainFor_of_name pn0) rfl #[.val (.int x0), .val (.int x1), .val (.long x2), .second, .val (.int x3), .unset, .unset, .unset, .unset, .unset, .unset, .unset, .unset, .unset, .unset] rfl ?_
  intro K T hnm hl X
  subst hl
  refine o_iload_n X f0_0 rfl ?_
  refine o_bipush 7 X f0_1 rfl ?_
  refine o_iand X f0_3 ?_
  refine o_bipush 6 X f0_4 rfl ?_
  refine o_irem X f0_6 (by decide) ?_
  refine o_gen fun n e_n => ?_
  have hn := own_six (i := n) (by rw [e_n]; exact (own_n x0).1) (by rw [e_n]; exact (own_n x0).2)
  clear e_n
  refine o_istore X f0_7 (Ls' := #[_, _, _, _, _, _, _, _, _, _, _, _, _, _, _]) rfl ?_
  refine o_iload_n X f0_9 rfl ?_
  refine o_bipush 8 X f0_10 rfl ?_
  refine o_iand X f0_12 ?_
  refine o_bool_if_ne X f0_13 f0_16 f0_17 f0_20 ?_
  refine o_istore X f0_21 (Ls' := #[_, _, _, _, _, _, _, _, _, _, _, _, _, _, _]) rfl ?_
  refine o_iload_n X f0_23 rfl ?_
  refine o_istore X f0_24 (Ls' := #[_, _, _, _, _, _, _, _, _, _, _, _, _, _, _]) rfl ?_
  refine o_iload X f0_26 rfl ?_
  refine o_lload_n X f0_28 rfl ?_
  refine o_iconst 0 X f0_29 rfl ?_
  refine o_callS X 8 f0_30 (hw _ (List.mem_of_getElem? (i := 0) rfl)) (hw _ (List.mem_of_getElem? (i := 1) rfl)) (hw _ (List.mem_of_getElem? (i := 2) rfl)) (hw _ (List.mem_of_getElem? (i := 3) rfl)) (by decide) (rm1 K.l Z a0 hw _ _ _ _ _) (lenOf pd1 rfl) rfl rfl (by first | exact Nat.zero_le _ | simp [Value.category]) (by decide) ?_
  rintro T1 h1 v1 ⟨⟨v_1, rfl, hv1⟩, rfl⟩ X1
  refine o_v1 ?_
  refine o_istore X1 f0_33 (Ls' := #[_, _, _, _, _, _, _, _, _, _, _, _, _, _, _]) rfl ?_
  refine o_iload X1 f0_35 rfl ?_
  refine o_lload_n X1 f0_37 rfl ?_
  refine o_bipush 16 X1 f0_38 rfl ?_
  refine o_callS X1 8 f0_40 (hw _ (List.mem_of_getElem? (i := 0) rfl)) (hw _ (List.mem_of_getElem? (i := 1) rfl)) (hw _ (List.mem_of_getElem? (i := 2) rfl)) (hw _ (List.mem_of_getElem? (i := 3) rfl)) (by decide) (rm1 K.l Z a0 hw _ _ _ _ _) (lenOf pd1 rfl) rfl rfl (by first | exact Nat.zero_le _ | simp [Value.category]) (by decide) ?_
  rintro T2 h2 v2 ⟨⟨v_2, rfl, hv2⟩, rfl⟩ X2
  refine o_v1 ?_
  refine o_istore X2 f0_43 (Ls' := #[_, _, _, _, _, _, _, _, _, _, _, _, _, _, _]) rfl ?_
  refine o_iload X2 f0_45 rfl ?_
  refine o_lload_n X2 f0_47 rfl ?_
  refine o_bipush 32 X2 f0_48 rfl ?_
  refine o_callS X2 8 f0_50 (hw _ (List.mem_of_getElem? (i := 0) rfl)) (hw _ (List.mem_of_getElem? (i := 1) rfl)) (hw _ (List.mem_of_getElem? (i := 2) rfl)) (hw _ (List.mem_of_getElem? (i := 3) rfl)) (by decide) (rm1 K.l Z a0 hw _ _ _ _ _) (lenOf pd1 rfl) rfl rfl (by first | exact Nat.zero_le _ | simp [Value.category]) (by decide) ?_
  rintro T3 h3 v3 ⟨⟨v_3, rfl, hv3⟩, rfl⟩ X3
  refine o_v1 ?_
  refine o_istore X3 f0_53 (Ls' := #[_, _, _, _, _, _, _, _, _, _, _, _, _, _, _]) rfl ?_
  refine o_iload X3 f0_55 rfl ?_
  refine o_lload_n X3 f0_57 rfl ?_
  refine o_bipush 48 X3 f0_58 rfl ?_
  refine o_callS X3 8 f0_60 (hw _ (List.mem_of_getElem? (i := 0) rfl)) (hw _ (List.mem_of_getElem? (i := 1) rfl)) (hw _ (List.mem_of_getElem? (i := 2) rfl)) (hw _ (List.mem_of_getElem? (i := 3) rfl)) (by decide) (rm1 K.l Z a0 hw _ _ _ _ _) (lenOf pd1 rfl) rfl rfl (by first | exact Nat.zero_le _ | simp [Value.category]) (by decide) ?_
  rintro T4 h4 v4 ⟨⟨v_4, rfl, hv4⟩, rfl⟩ X4
  refine o_v1 ?_
  refine o_istore X4 f0_63 (Ls' := #[_, _, _, _, _, _, _, _, _, _, _, _, _, _, _]) rfl ?_
  refine o_iload X4 f0_65 rfl ?_
  refine o_cutS 101 X4 (fun J => ?_) ?_
  · refine o_if_eq X4 f0_67 (fun q67 => ?_) (fun q67 => ?_)
    · refine o_iload X4 f0_99 rfl ?_
      exact J _ _ X4
    · refine o_ldc2 X4 f0_70 (hw _ (List.mem_of_getElem? (i := 10) rfl)) ?_
      refine o_ldc2 X4 f0_73 (hw _ (List.mem_of_getElem? (i := 5) rfl)) ?_
      refine o_iload_n X4 f0_76 rfl ?_
      refine o_i2l X4 f0_77 ?_
      refine o_iload X4 f0_78 rfl ?_
      refine o_ldc X4 f0_80 (hw _ (List.mem_of_getElem? (i := 11) rfl)) ?_
      refine o_iand X4 f0_82 ?_
      refine o_i2l X4 f0_83 ?_
      refine o_ladd X4 f0_84 ?_
      refine o_ldc2 X4 f0_85 (hw _ (List.mem_of_getElem? (i := 12) rfl)) ?_
      refine o_lsub X4 f0_88 ?_
      refine o_callS X4 8 f0_89 (hw _ (List.mem_of_getElem? (i := 6) rfl)) (hw _ (List.mem_of_getElem? (i := 7) rfl)) (hw _ (List.mem_of_getElem? (i := 8) rfl)) (hw _ (List.mem_of_getElem? (i := 9) rfl)) (by decide) (rm2 K.l Z a0 hw _ _ _ _) (lenOf pd0 rfl) rfl rfl (by first | exact Nat.zero_le _ | simp [Value.category]) (by decide) ?_
      rintro T501 h501 v501 ⟨rfl, rfl⟩ X501
      refine o_v1 ?_
      refine o_callS X501 8 f0_92 (hw _ (List.mem_of_getElem? (i := 13) rfl)) (hw _ (List.mem_of_getElem? (i := 14) rfl)) (hw _ (List.mem_of_getElem? (i := 8) rfl)) (hw _ (List.mem_of_getElem? (i := 15) rfl)) (by decide) (rm3 K.l Z a0 hw _ _ _ _) (lenOf pd0 rfl) rfl rfl (by first | exact Nat.zero_le _ | simp [Value.category]) (by decide) ?_
      rintro T502 h502 v502 ⟨⟨z, rfl⟩, rfl⟩ X502
      refine o_v1 ?_
      refine o_l2i X502 f0_95 ?_
      refine o_goto X502 f0_96 ?_
      exact J _ _ X502
  intro T5 qq X5
  refine o_istore X5 f0_101 (Ls' := #[_, _, _, _, _, _, _, _, _, _, _, _, _, _, _]) rfl ?_
  refine o_new X5 f0_103 (hw _ (List.mem_of_getElem? (i := 16) rfl)) (hw _ (List.mem_of_getElem? (i := 17) rfl)) (hw _ (List.mem_of_getElem? (i := 18) rfl)) (by decide) ?_
  intro T6 h6 o e6 X6 E6 A6 D6
  have oF6 := Obj.new (ns := own_nsO) (vs := [.null, .int 0, .int 0]) A6 D6 (own_ldO Z a0 hw) [(.array .int), .boolean, .int] (by decide) rfl
  have ha_o : n0 ≤ o := e6 ▸ hn0
  have z6 := Nat.le_trans hn0 E6.1
  refine o_dup X6 f0_106 rfl ?_
  refine o_iload_n X6 f0_107 rfl ?_
  refine o_bipush 16 X6 f0_108 rfl ?_
  refine o_iand X6 f0_110 ?_
  refine o_bool_if_eq X6 f0_111 f0_114 f0_115 f0_118 ?_
  refine o_callN X6 8 f0_119 rfl (hw _ (List.mem_of_getElem? (i := 19) rfl)) (hw _ (List.mem_of_getElem? (i := 20) rfl)) (hw _ (List.mem_of_getElem? (i := 21) rfl)) (hw _ (List.mem_of_getElem? (i := 18) rfl)) (by decide) (rm4 K.l Z a0 hw o _ _ n0 z6 ha_o (own_b01 _) oF6) (lenOf pd2 rfl) rfl rfl (by first | exact Nat.zero_le _ | simp [Value.category]) (by decide) ?_
  rintro T7 h7 v7 ⟨rfl, ar, oF7, arF7, ha_ar, n_o_ar⟩ X7
  refine o_v0 ?_
  refine o_astore X7 f0_122 rfl (Ls' := #[_, _, _, _, _, _, _, _, _, _, _, _, _, _, _]) rfl ?_
  rcases hn with rfl | rfl | rfl | rfl | rfl | rfl
  · refine o_iload X7 f0_124 rfl ?_
    refine o_if_le_t X7 f0_126 (by decide) ?_
    refine o_iload X7 f0_136 rfl ?_
    refine o_iconst 1 X7 f0_138 rfl ?_
    refine o_icmp_le_t X7 f0_139 (by decide) ?_
    refine o_iload X7 f0_149 rfl ?_
    refine o_iconst 2 X7 f0_151 rfl ?_
    refine o_icmp_le_t X7 f0_152 (by decide) ?_
    refine o_iload X7 f0_162 rfl ?_
    refine o_iconst 3 X7 f0_164 rfl ?_
    refine o_icmp_le_t X7 f0_165 (by decide) ?_
    refine o_iload X7 f0_175 rfl ?_
    refine o_iconst 4 X7 f0_177 rfl ?_
    refine o_icmp_le_t X7 f0_178 (by decide) ?_
    refine o_iload X7 f0_188 rfl ?_
    refine o_iconst 0 X7 f0_190 rfl ?_
    refine o_iload X7 f0_191 rfl ?_
    refine o_iload X7 f0_193 rfl ?_
    refine o_callS X7 8 f0_195 (hw _ (List.mem_of_getElem? (i := 30) rfl)) (hw _ (List.mem_of_getElem? (i := 31) rfl)) (hw _ (List.mem_of_getElem? (i := 2) rfl)) (hw _ (List.mem_of_getElem? (i := 32) rfl)) (by decide) (rm6 K.l Z a0 hw _ _ _ _ _ _) (lenOf pd3 rfl) rfl rfl (by first | exact Nat.zero_le _ | simp [Value.category]) (by decide) ?_
    rintro T41 h41 v41 ⟨rfl, rfl⟩ X41
    refine o_v1 ?_
    refine o_iload X41 f0_198 rfl ?_
    refine o_iconst 1 X41 f0_200 rfl ?_
    refine o_iload X41 f0_201 rfl ?_
    refine o_iload X41 f0_203 rfl ?_
    refine o_callS X41 8 f0_205 (hw _ (List.mem_of_getElem? (i := 30) rfl)) (hw _ (List.mem_of_getElem? (i := 31) rfl)) (hw _ (List.mem_of_getElem? (i := 2) rfl)) (hw _ (List.mem_of_getElem? (i := 32) rfl)) (by decide) (rm6 K.l Z a0 hw _ _ _ _ _ _) (lenOf pd3 rfl) rfl rfl (by first | exact Nat.zero_le _ | simp [Value.category]) (by decide) ?_
    rintro T42 h42 v42 ⟨rfl, rfl⟩ X42
    refine o_v1 ?_
    refine o_iadd X42 f0_208 ?_
    refine o_iload X42 f0_209 rfl ?_
    refine o_iconst 2 X42 f0_211 rfl ?_
    refine o_iload X42 f0_212 rfl ?_
    refine o_iload X42 f0_214 rfl ?_
    refine o_callS X42 8 f0_216 (hw _ (List.mem_of_getElem? (i := 30) rfl)) (hw _ (List.mem_of_getElem? (i := 31) rfl)) (hw _ (List.mem_of_getElem? (i := 2) rfl)) (hw _ (List.mem_of_getElem? (i := 32) rfl)) (by decide) (rm6 K.l Z a0 hw _ _ _ _ _ _) (lenOf pd3 rfl) rfl rfl (by first | exact Nat.zero_le _ | simp [Value.category]) (by decide) ?_
    rintro T43 h43 v43 ⟨rfl, rfl⟩ X43
    refine o_v1 ?_
    refine o_iadd X43 f0_219 ?_
    refine o_iload X43 f0_220 rfl ?_
    refine o_iconst 3 X43 f0_222 rfl ?_
    refine o_iload X43 f0_223 rfl ?_
    refine o_iload X43 f0_225 rfl ?_
    refine o_callS X43 8 f0_227 (hw _ (List.mem_of_getElem? (i := 30) rfl)) (hw _ (List.mem_of_getElem? (i := 31) rfl)) (hw _ (List.mem_of_getElem? (i := 2) rfl)) (hw _ (List.mem_of_getElem? (i := 32) rfl)) (by decide) (rm6 K.l Z a0 hw _ _ _ _ _ _) (lenOf pd3 rfl) rfl rfl (by first | exact Nat.zero_le _ | simp [Value.category]) (by decide) ?_
    rintro T44 h44 v44 ⟨rfl, rfl⟩ X44
    refine o_v1 ?_
    refine o_iadd X44 f0_230 ?_
    refine o_iload X44 f0_231 rfl ?_
    refine o_iconst 4 X44 f0_233 rfl ?_
    refine o_iload X44 f0_234 rfl ?_
    refine o_iload X44 f0_236 rfl ?_
    refine o_callS X44 8 f0_238 (hw _ (List.mem_of_getElem? (i := 30) rfl)) (hw _ (List.mem_of_getElem? (i := 31) rfl)) (hw _ (List.mem_of_getElem? (i := 2) rfl)) (hw _ (List.mem_of_getElem? (i := 32) rfl)) (by decide) (rm6 K.l Z a0 hw _ _ _ _ _ _) (lenOf pd3 rfl) rfl rfl (by first | exact Nat.zero_le _ | simp [Value.category]) (by decide) ?_
    rintro T45 h45 v45 ⟨rfl, rfl⟩ X45
    refine o_v1 ?_
    refine o_iadd X45 f0_241 ?_
    refine o_istore X45 f0_242 (Ls' := #[_, _, _, _, _, _, _, _, _, _, _, _, _, _, _]) rfl ?_
    refine o_aload X45 f0_244 rfl rfl ?_
    refine o_iload X45 f0_246 rfl ?_
    refine o_callV X45 8 f0_248 (hw _ (List.mem_of_getElem? (i := 33) rfl)) (hw _ (List.mem_of_getElem? (i := 34) rfl)) (hw _ (List.mem_of_getElem? (i := 36) rfl)) (hw _ (List.mem_of_getElem? (i := 36) rfl)) (hw _ (List.mem_of_getElem? (i := 35) rfl)) (by decide) (hw _ (List.mem_of_getElem? (i := 37) rfl)) (hw _ (List.mem_of_getElem? (i := 18) rfl)) (rm7 K.l Z a0 hw o _ _ n0 ar _ _ _ (own_B x1 v_1 v_2 v_3 v_4) (by decide) (by decide) (own_monoB _ _ _ _ _ hv1 hv2 hv3 hv4) (fun i g0 g1 => own_five (P := fun i => i.toInt < (0 : Int32).toInt → (_ : List Value)[i.toNatClampNeg]? = some (.int (own_B x1 v_1 v_2 v_3 v_4 i))) g0 (Int.lt_of_lt_of_le g1 (by decide)) (fun q => absurd q (by decide)) (fun q => absurd q (by decide)) (fun q => absurd q (by decide)) (fun q => absurd q (by decide)) (fun q => absurd q (by decide)) g1) oF7 arF7) oF7.1 (lenOf pd4 rfl) rfl rfl (by first | exact Nat.zero_le _ | simp [Value.category]) (by decide) ?_
    rintro T46 h46 v46 ⟨⟨r, rfl, hR⟩, rfl⟩ X46
    refine o_v1 ?_
    refine o_iload X46 f0_251 rfl ?_
    refine o_icmp_ne_f X46 f0_253 (own_main _ _ _ _ _ _ _ _ (by decide) hR) ?_
    refine o_iconst 1 X46 f0_256 rfl ?_
    refine o_goto X46 f0_257 ?_
    refine o_retZ X46 f0_261 (by decide) (by decide) ?_
    rfl
  · refine o_iload X7 f0_124 rfl ?_
    refine o_if_le_f X7 f0_126 (by decide) ?_
    refine o_aload X7 f0_129 rfl rfl ?_
    refine o_iload X7 f0_131 rfl ?_
    refine o_callV X7 8 f0_133 (hw _ (List.mem_of_getElem? (i := 40) rfl)) (hw _ (List.mem_of_getElem? (i := 41) rfl)) (hw _ (List.mem_of_getElem? (i := 43) rfl)) (hw _ (List.mem_of_getElem? (i := 43) rfl)) (hw _ (List.mem_of_getElem? (i := 42) rfl)) (by decide) (hw _ (List.mem_of_getElem? (i := 44) rfl)) (hw _ (List.mem_of_getElem? (i := 18) rfl)) (rm8 K.l Z a0 hw o _ _ n0 ar _ _ _ rfl (by decide) (by decide) (by decide) ha_o ha_ar n_o_ar oF7 arF7) oF7.1 (lenOf pd5 rfl) rfl rfl (by first | exact Nat.zero_le _ | simp [Value.category]) (by decide) ?_
    rintro T41 h41 v41 ⟨rfl, oF41, arG41⟩ X41
    refine o_v0 ?_
    have arF41 : AL Z _ ar .int [.int x1, .int 0, .int 0, .int 0, .int 0, .int 0, .int 0, .int 0, .int 0, .int 0, .int 0, .int 0, .int 0, .int 0, .int 0, .int 0] := arG41
    refine o_iload X41 f0_136 rfl ?_
    refine o_iconst 1 X41 f0_138 rfl ?_
    refine o_icmp_le_t X41 f0_139 (by decide) ?_
    refine o_iload X41 f0_149 rfl ?_
    refine o_iconst 2 X41 f0_151 rfl ?_
    refine o_icmp_le_t X41 f0_152 (by decide) ?_
    refine o_iload X41 f0_162 rfl ?_
    refine o_iconst 3 X41 f0_164 rfl ?_
    refine o_icmp_le_t X41 f0_165 (by decide) ?_
    refine o_iload X41 f0_175 rfl ?_
    refine o_iconst 4 X41 f0_177 rfl ?_
    refine o_icmp_le_t X41 f0_178 (by decide) ?_
    refine o_iload X41 f0_188 rfl ?_
    refine o_iconst 0 X41 f0_190 rfl ?_
    refine o_iload X41 f0_191 rfl ?_
    refine o_iload X41 f0_193 rfl ?_
    refine o_callS X41 8 f0_195 (hw _ (List.mem_of_getElem? (i := 30) rfl)) (hw _ (List.mem_of_getElem? (i := 31) rfl)) (hw _ (List.mem_of_getElem? (i := 2) rfl)) (hw _ (List.mem_of_getElem? (i := 32) rfl)) (by decide) (rm6 K.l Z a0 hw _ _ _ _ _ _) (lenOf pd3 rfl) rfl rfl (by first | exact Nat.zero_le _ | simp [Value.category]) (by decide) ?_
    rintro T42 h42 v42 ⟨rfl, rfl⟩ X42
    refine o_v1 ?_
    refine o_iload X42 f0_198 rfl ?_
    refine o_iconst 1 X42 f0_200 rfl ?_
    refine o_iload X42 f0_201 rfl ?_
    refine o_iload X42 f0_203 rfl ?_
    refine o_callS X42 8 f0_205 (hw _ (List.mem_of_getElem? (i := 30) rfl)) (hw _ (List.mem_of_getElem? (i := 31) rfl)) (hw _ (List.mem_of_getElem? (i := 2) rfl)) (hw _ (List.mem_of_getElem? (i := 32) rfl)) (by decide) (rm6 K.l Z a0 hw _ _ _ _ _ _) (lenOf pd3 rfl) rfl rfl (by first | exact Nat.zero_le _ | simp [Value.category]) (by decide) ?_
    rintro T43 h43 v43 ⟨rfl, rfl⟩ X43
    refine o_v1 ?_
    refine o_iadd X43 f0_208 ?_
    refine o_iload X43 f0_209 rfl ?_
    refine o_iconst 2 X43 f0_211 rfl ?_
    refine o_iload X43 f0_212 rfl ?_
    refine o_iload X43 f0_214 rfl ?_
    refine o_callS X43 8 f0_216 (hw _ (List.mem_of_getElem? (i := 30) rfl)) (hw _ (List.mem_of_getElem? (i := 31) rfl)) (hw _ (List.mem_of_getElem? (i := 2) rfl)) (hw _ (List.mem_of_getElem? (i := 32) rfl)) (by decide) (rm6 K.l Z a0 hw _ _ _ _ _ _) (lenOf pd3 rfl) rfl rfl (by first | exact Nat.zero_le _ | simp [Value.category]) (by decide) ?_
    rintro T44 h44 v44 ⟨rfl, rfl⟩ X44
    refine o_v1 ?_
    refine o_iadd X44 f0_219 ?_
    refine o_iload X44 f0_220 rfl ?_
    refine o_iconst 3 X44 f0_222 rfl ?_
    refine o_iload X44 f0_223 rfl ?_
    refine o_iload X44 f0_225 rfl ?_
    refine o_callS X44 8 f0_227 (hw _ (List.mem_of_getElem? (i := 30) rfl)) (hw _ (List.mem_of_getElem? (i := 31) rfl)) (hw _ (List.mem_of_getElem? (i := 2) rfl)) (hw _ (List.mem_of_getElem? (i := 32) rfl)) (by decide) (rm6 K.l Z a0 hw _ _ _ _ _ _) (lenOf pd3 rfl) rfl rfl (by first | exact Nat.zero_le _ | simp [Value.category]) (by decide) ?_
    rintro T45 h45 v45 ⟨rfl, rfl⟩ X45
    refine o_v1 ?_
    refine o_iadd X45 f0_230 ?_
    refine o_iload X45 f0_231 rfl ?_
    refine o_iconst 4 X45 f0_233 rfl ?_
    refine o_iload X45 f0_234 rfl ?_
    refine o_iload X45 f0_236 rfl ?_
    refine o_callS X45 8 f0_238 (hw _ (List.mem_of_getElem? (i := 30) rfl)) (hw _ (List.mem_of_getElem? (i := 31) rfl)) (hw _ (List.mem_of_getElem? (i := 2) rfl)) (hw _ (List.mem_of_getElem? (i := 32) rfl)) (by decide) (rm6 K.l Z a0 hw _ _ _ _ _ _) (lenOf pd3 rfl) rfl rfl (by first | exact Nat.zero_le _ | simp [Value.category]) (by decide) ?_
    rintro T46 h46 v46 ⟨rfl, rfl⟩ X46
    refine o_v1 ?_
    refine o_iadd X46 f0_241 ?_
    refine o_istore X46 f0_242 (Ls' := #[_, _, _, _, _, _, _, _, _, _, _, _, _, _, _]) rfl ?_
    refine o_aload X46 f0_244 rfl rfl ?_
    refine o_iload X46 f0_246 rfl ?_
    refine o_callV X46 8 f0_248 (hw _ (List.mem_of_getElem? (i := 33) rfl)) (hw _ (List.mem_of_getElem? (i := 34) rfl)) (hw _ (List.mem_of_getElem? (i := 36) rfl)) (hw _ (List.mem_of_getElem? (i := 36) rfl)) (hw _ (List.mem_of_getElem? (i := 35) rfl)) (by decide) (hw _ (List.mem_of_getElem? (i := 37) rfl)) (hw _ (List.mem_of_getElem? (i := 18) rfl)) (rm7 K.l Z a0 hw o _ _ n0 ar _ _ _ (own_B x1 v_1 v_2 v_3 v_4) (by decide) (by decide) (own_monoB _ _ _ _ _ hv1 hv2 hv3 hv4) (fun i g0 g1 => own_five (P := fun i => i.toInt < (1 : Int32).toInt → (_ : List Value)[i.toNatClampNeg]? = some (.int (own_B x1 v_1 v_2 v_3 v_4 i))) g0 (Int.lt_of_lt_of_le g1 (by decide)) (fun _ => rfl) (fun q => absurd q (by decide)) (fun q => absurd q (by decide)) (fun q => absurd q (by decide)) (fun q => absurd q (by decide)) g1) oF41 arF41) oF41.1 (lenOf pd4 rfl) rfl rfl (by first | exact Nat.zero_le _ | simp [Value.category]) (by decide) ?_
    rintro T47 h47 v47 ⟨⟨r, rfl, hR⟩, rfl⟩ X47
    refine o_v1 ?_
    refine o_iload X47 f0_251 rfl ?_
    refine o_icmp_ne_f X47 f0_253 (own_main _ _ _ _ _ _ _ _ (by decide) hR) ?_
    refine o_iconst 1 X47 f0_256 rfl ?_
    refine o_goto X47 f0_257 ?_
    refine o_retZ X47 f0_261 (by decide) (by decide) ?_
    rfl
  · refine o_iload X7 f0_124 rfl ?_
    refine o_if_le_f X7 f0_126 (by decide) ?_
    refine o_aload X7 f0_129 rfl rfl ?_
    refine o_iload X7 f0_131 rfl ?_
    refine o_callV X7 8 f0_133 (hw _ (List.mem_of_getElem? (i := 40) rfl)) (hw _ (List.mem_of_getElem? (i := 41) rfl)) (hw _ (List.mem_of_getElem? (i := 43) rfl)) (hw _ (List.mem_of_getElem? (i := 43) rfl)) (hw _ (List.mem_of_getElem? (i := 42) rfl)) (by decide) (hw _ (List.mem_of_getElem? (i := 44) rfl)) (hw _ (List.mem_of_getElem? (i := 18) rfl)) (rm8 K.l Z a0 hw o _ _ n0 ar _ _ _ rfl (by decide) (by decide) (by decide) ha_o ha_ar n_o_ar oF7 arF7) oF7.1 (lenOf pd5 rfl) rfl rfl (by first | exact Nat.zero_le _ | simp [Value.category]) (by decide) ?_
    rintro T41 h41 v41 ⟨rfl, oF41, arG41⟩ X41
    refine o_v0 ?_
    have arF41 : AL Z _ ar .int [.int x1, .int 0, .int 0, .int 0, .int 0, .int 0, .int 0, .int 0, .int 0, .int 0, .int 0, .int 0, .int 0, .int 0, .int 0, .int 0] := arG41
    refine o_iload X41 f0_136 rfl ?_
    refine o_iconst 1 X41 f0_138 rfl ?_
    refine o_icmp_le_f X41 f0_139 (by decide) ?_
    refine o_aload X41 f0_142 rfl rfl ?_
    refine o_iload X41 f0_144 rfl ?_
    refine o_callV X41 8 f0_146 (hw _ (List.mem_of_getElem? (i := 40) rfl)) (hw _ (List.mem_of_getElem? (i := 41) rfl)) (hw _ (List.mem_of_getElem? (i := 43) rfl)) (hw _ (List.mem_of_getElem? (i := 43) rfl)) (hw _ (List.mem_of_getElem? (i := 42) rfl)) (by decide) (hw _ (List.mem_of_getElem? (i := 44) rfl)) (hw _ (List.mem_of_getElem? (i := 18) rfl)) (rm8 K.l Z a0 hw o _ _ n0 ar _ _ _ rfl (by decide) (by decide) (by decide) ha_o ha_ar n_o_ar oF41 arF41) oF41.1 (lenOf pd5 rfl) rfl rfl (by first | exact Nat.zero_le _ | simp [Value.category]) (by decide) ?_
    rintro T42 h42 v42 ⟨rfl, oF42, arG42⟩ X42
    refine o_v0 ?_
    have arF42 : AL Z _ ar .int [.int x1, .int v_1, .int 0, .int 0, .int 0, .int 0, .int 0, .int 0, .int 0, .int 0, .int 0, .int 0, .int 0, .int 0, .int 0, .int 0] := arG42
    refine o_iload X42 f0_149 rfl ?_
    refine o_iconst 2 X42 f0_151 rfl ?_
    refine o_icmp_le_t X42 f0_152 (by decide) ?_
    refine o_iload X42 f0_162 rfl ?_
    refine o_iconst 3 X42 f0_164 rfl ?_
    refine o_icmp_le_t X42 f0_165 (by decide) ?_
    refine o_iload X42 f0_175 rfl ?_
    refine o_iconst 4 X42 f0_177 rfl ?_
    refine o_icmp_le_t X42 f0_178 (by decide) ?_
    refine o_iload X42 f0_188 rfl ?_
    refine o_iconst 0 X42 f0_190 rfl ?_
    refine o_iload X42 f0_191 rfl ?_
    refine o_iload X42 f0_193 rfl ?_
    refine o_callS X42 8 f0_195 (hw _ (List.mem_of_getElem? (i := 30) rfl)) (hw _ (List.mem_of_getElem? (i := 31) rfl)) (hw _ (List.mem_of_getElem? (i := 2) rfl)) (hw _ (List.mem_of_getElem? (i := 32) rfl)) (by decide) (rm6 K.l Z a0 hw _ _ _ _ _ _) (lenOf pd3 rfl) rfl rfl (by first | exact Nat.zero_le _ | simp [Value.category]) (by decide) ?_
    rintro T43 h43 v43 ⟨rfl, rfl⟩ X43
    refine o_v1 ?_
    refine o_iload X43 f0_198 rfl ?_
    refine o_iconst 1 X43 f0_200 rfl ?_
    refine o_iload X43 f0_201 rfl ?_
    refine o_iload X43 f0_203 rfl ?_
    refine o_callS X43 8 f0_205 (hw _ (List.mem_of_getElem? (i := 30) rfl)) (hw _ (List.mem_of_getElem? (i := 31) rfl)) (hw _ (List.mem_of_getElem? (i := 2) rfl)) (hw _ (List.mem_of_getElem? (i := 32) rfl)) (by decide) (rm6 K.l Z a0 hw _ _ _ _ _ _) (lenOf pd3 rfl) rfl rfl (by first | exact Nat.zero_le _ | simp [Value.category]) (by decide) ?_
    rintro T44 h44 v44 ⟨rfl, rfl⟩ X44
    refine o_v1 ?_
    refine o_iadd X44 f0_208 ?_
    refine o_iload X44 f0_209 rfl ?_
    refine o_iconst 2 X44 f0_211 rfl ?_
    refine o_iload X44 f0_212 rfl ?_
    refine o_iload X44 f0_214 rfl ?_
    refine o_callS X44 8 f0_216 (hw _ (List.mem_of_getElem? (i := 30) rfl)) (hw _ (List.mem_of_getElem? (i := 31) rfl)) (hw _ (List.mem_of_getElem? (i := 2) rfl)) (hw _ (List.mem_of_getElem? (i := 32) rfl)) (by decide) (rm6 K.l Z a0 hw _ _ _ _ _ _) (lenOf pd3 rfl) rfl rfl (by first | exact Nat.zero_le _ | simp [Value.category]) (by decide) ?_
    rintro T45 h45 v45 ⟨rfl, rfl⟩ X45
    refine o_v1 ?_
    refine o_iadd X45 f0_219 ?_
    refine o_iload X45 f0_220 rfl ?_
    refine o_iconst 3 X45 f0_222 rfl ?_
    refine o_iload X45 f0_223 rfl ?_
    refine o_iload X45 f0_225 rfl ?_
    refine o_callS X45 8 f0_227 (hw _ (List.mem_of_getElem? (i := 30) rfl)) (hw _ (List.mem_of_getElem? (i := 31) rfl)) (hw _ (List.mem_of_getElem? (i := 2) rfl)) (hw _ (List.mem_of_getElem? (i := 32) rfl)) (by decide) (rm6 K.l Z a0 hw _ _ _ _ _ _) (lenOf pd3 rfl) rfl rfl (by first | exact Nat.zero_le _ | simp [Value.category]) (by decide) ?_
    rintro T46 h46 v46 ⟨rfl, rfl⟩ X46
    refine o_v1 ?_
    refine o_iadd X46 f0_230 ?_
    refine o_iload X46 f0_231 rfl ?_
    refine o_iconst 4 X46 f0_233 rfl ?_
    refine o_iload X46 f0_234 rfl ?_
    refine o_iload X46 f0_236 rfl ?_
    refine o_callS X46 8 f0_238 (hw _ (List.mem_of_getElem? (i := 30) rfl)) (hw _ (List.mem_of_getElem? (i := 31) rfl)) (hw _ (List.mem_of_getElem? (i := 2) rfl)) (hw _ (List.mem_of_getElem? (i := 32) rfl)) (by decide) (rm6 K.l Z a0 hw _ _ _ _ _ _) (lenOf pd3 rfl) rfl rfl (by first | exact Nat.zero_le _ | simp [Value.category]) (by decide) ?_
    rintro T47 h47 v47 ⟨rfl, rfl⟩ X47
    refine o_v1 ?_
    refine o_iadd X47 f0_241 ?_
    refine o_istore X47 f0_242 (Ls' := #[_, _, _, _, _, _, _, _, _, _, _, _, _, _, _]) rfl ?_
    refine o_aload X47 f0_244 rfl rfl ?_
    refine o_iload X47 f0_246 rfl ?_
    refine o_callV X47 8 f0_248 (hw _ (List.mem_of_getElem? (i := 33) rfl)) (hw _ (List.mem_of_getElem? (i := 34) rfl)) (hw _ (List.mem_of_getElem? (i := 36) rfl)) (hw _ (List.mem_of_getElem? (i := 36) rfl)) (hw _ (List.mem_of_getElem? (i := 35) rfl)) (by decide) (hw _ (List.mem_of_getElem? (i := 37) rfl)) (hw _ (List.mem_of_getElem? (i := 18) rfl)) (rm7 K.l Z a0 hw o _ _ n0 ar _ _ _ (own_B x1 v_1 v_2 v_3 v_4) (by decide) (by decide) (own_monoB _ _ _ _ _ hv1 hv2 hv3 hv4) (fun i g0 g1 => own_five (P := fun i => i.toInt < (2 : Int32).toInt → (_ : List Value)[i.toNatClampNeg]? = some (.int (own_B x1 v_1 v_2 v_3 v_4 i))) g0 (Int.lt_of_lt_of_le g1 (by decide)) (fun _ => rfl) (fun _ => rfl) (fun q => absurd q (by decide)) (fun q => absurd q (by decide)) (fun q => absurd q (by decide)) g1) oF42 arF42) oF42.1 (lenOf pd4 rfl) rfl rfl (by first | exact Nat.zero_le _ | simp [Value.category]) (by decide) ?_
    rintro T48 h48 v48 ⟨⟨r, rfl, hR⟩, rfl⟩ X48
    refine o_v1 ?_
    refine o_iload X48 f0_251 rfl ?_
    refine o_icmp_ne_f X48 f0_253 (own_main _ _ _ _ _ _ _ _ (by decide) hR) ?_
    refine o_iconst 1 X48 f0_256 rfl ?_
    refine o_goto X48 f0_257 ?_
    refine o_retZ X48 f0_261 (by decide) (by decide) ?_
    rfl
  · refine o_iload X7 f0_124 rfl ?_
    refine o_if_le_f X7 f0_126 (by decide) ?_
    refine o_aload X7 f0_129 rfl rfl ?_
    refine o_iload X7 f0_131 rfl ?_
    refine o_callV X7 8 f0_133 (hw _ (List.mem_of_getElem? (i := 40) rfl)) (hw _ (List.mem_of_getElem? (i := 41) rfl)) (hw _ (List.mem_of_getElem? (i := 43) rfl)) (hw _ (List.mem_of_getElem? (i := 43) rfl)) (hw _ (List.mem_of_getElem? (i := 42) rfl)) (by decide) (hw _ (List.mem_of_getElem? (i := 44) rfl)) (hw _ (List.mem_of_getElem? (i := 18) rfl)) (rm8 K.l Z a0 hw o _ _ n0 ar _ _ _ rfl (by decide) (by decide) (by decide) ha_o ha_ar n_o_ar oF7 arF7) oF7.1 (lenOf pd5 rfl) rfl rfl (by first | exact Nat.zero_le _ | simp [Value.category]) (by decide) ?_
    rintro T41 h41 v41 ⟨rfl, oF41, arG41⟩ X41
    refine o_v0 ?_
    have arF41 : AL Z _ ar .int [.int x1, .int 0, .int 0, .int 0, .int 0, .int 0, .int 0, .int 0, .int 0, .int 0, .int 0, .int 0, .int 0, .int 0, .int 0, .int 0] := arG41
    refine o_iload X41 f0_136 rfl ?_
    refine o_iconst 1 X41 f0_138 rfl ?_
    refine o_icmp_le_f X41 f0_139 (by decide) ?_
    refine o_aload X41 f0_142 rfl rfl ?_
    refine o_iload X41 f0_144 rfl ?_
    refine o_callV X41 8 f0_146 (hw _ (List.mem_of_getElem? (i := 40) rfl)) (hw _ (List.mem_of_getElem? (i := 41) rfl)) (hw _ (List.mem_of_getElem? (i := 43) rfl)) (hw _ (List.mem_of_getElem? (i := 43) rfl)) (hw _ (List.mem_of_getElem? (i := 42) rfl)) (by decide) (hw _ (List.mem_of_getElem? (i := 44) rfl)) (hw _ (List.mem_of_getElem? (i := 18) rfl)) (rm8 K.l Z a0 hw o _ _ n0 ar _ _ _ rfl (by decide) (by decide) (by decide) ha_o ha_ar n_o_ar oF41 arF41) oF41.1 (lenOf pd5 rfl) rfl rfl (by first | exact Nat.zero_le _ | simp [Value.category]) (by decide) ?_
    rintro T42 h42 v42 ⟨rfl, oF42, arG42⟩ X42
    refine o_v0 ?_
    have arF42 : AL Z _ ar .int [.int x1, .int v_1, .int 0, .int 0, .int 0, .int 0, .int 0, .int 0, .int 0, .int 0, .int 0, .int 0, .int 0, .int 0, .int 0, .int 0] := arG42
    refine o_iload X42 f0_149 rfl ?_
    refine o_iconst 2 X42 f0_151 rfl ?_
    refine o_icmp_le_f X42 f0_152 (by decide) ?_
    refine o_aload X42 f0_155 rfl rfl ?_
    refine o_iload X42 f0_157 rfl ?_
    refine o_callV X42 8 f0_159 (hw _ (List.mem_of_getElem? (i := 40) rfl)) (hw _ (List.mem_of_getElem? (i := 41) rfl)) (hw _ (List.mem_of_getElem? (i := 43) rfl)) (hw _ (List.mem_of_getElem? (i := 43) rfl)) (hw _ (List.mem_of_getElem? (i := 42) rfl)) (by decide) (hw _ (List.mem_of_getElem? (i := 44) rfl)) (hw _ (List.mem_of_getElem? (i := 18) rfl)) (rm8 K.l Z a0 hw o _ _ n0 ar _ _ _ rfl (by decide) (by decide) (by decide) ha_o ha_ar n_o_ar oF42 arF42) oF42.1 (lenOf pd5 rfl) rfl rfl (by first | exact Nat.zero_le _ | simp [Value.category]) (by decide) ?_
    rintro T43 h43 v43 ⟨rfl, oF43, arG43⟩ X43
    refine o_v0 ?_
    have arF43 : AL Z _ ar .int [.int x1, .int v_1, .int v_2, .int 0, .int 0, .int 0, .int 0, .int 0, .int 0, .int 0, .int 0, .int 0, .int 0, .int 0, .int 0, .int 0] := arG43
    refine o_iload X43 f0_162 rfl ?_
    refine o_iconst 3 X43 f0_164 rfl ?_
    refine o_icmp_le_t X43 f0_165 (by decide) ?_
    refine o_iload X43 f0_175 rfl ?_
    refine o_iconst 4 X43 f0_177 rfl ?_
    refine o_icmp_le_t X43 f0_178 (by decide) ?_
    refine o_iload X43 f0_188 rfl ?_
    refine o_iconst 0 X43 f0_190 rfl ?_
    refine o_iload X43 f0_191 rfl ?_
    refine o_iload X43 f0_193 rfl ?_
    refine o_callS X43 8 f0_195 (hw _ (List.mem_of_getElem? (i := 30) rfl)) (hw _ (List.mem_of_getElem? (i := 31) rfl)) (hw _ (List.mem_of_getElem? (i := 2) rfl)) (hw _ (List.mem_of_getElem? (i := 32) rfl)) (by decide) (rm6 K.l Z a0 hw _ _ _ _ _ _) (lenOf pd3 rfl) rfl rfl (by first | exact Nat.zero_le _ | simp [Value.category]) (by decide) ?_
    rintro T44 h44 v44 ⟨rfl, rfl⟩ X44
    refine o_v1 ?_
    refine o_iload X44 f0_198 rfl ?_
    refine o_iconst 1 X44 f0_200 rfl ?_
    refine o_iload X44 f0_201 rfl ?_
    refine o_iload X44 f0_203 rfl ?_
    refine o_callS X44 8 f0_205 (hw _ (List.mem_of_getElem? (i := 30) rfl)) (hw _ (List.mem_of_getElem? (i := 31) rfl)) (hw _ (List.mem_of_getElem? (i := 2) rfl)) (hw _ (List.mem_of_getElem? (i := 32) rfl)) (by decide) (rm6 K.l Z a0 hw _ _ _ _ _ _) (lenOf pd3 rfl) rfl rfl (by first | exact Nat.zero_le _ | simp [Value.category]) (by decide) ?_
    rintro T45 h45 v45 ⟨rfl, rfl⟩ X45
    refine o_v1 ?_
    refine o_iadd X45 f0_208 ?_
    refine o_iload X45 f0_209 rfl ?_
    refine o_iconst 2 X45 f0_211 rfl ?_
    refine o_iload X45 f0_212 rfl ?_
    refine o_iload X45 f0_214 rfl ?_
    refine o_callS X45 8 f0_216 (hw _ (List.mem_of_getElem? (i := 30) rfl)) (hw _ (List.mem_of_getElem? (i := 31) rfl)) (hw _ (List.mem_of_getElem? (i := 2) rfl)) (hw _ (List.mem_of_getElem? (i := 32) rfl)) (by decide) (rm6 K.l Z a0 hw _ _ _ _ _ _) (lenOf pd3 rfl) rfl rfl (by first | exact Nat.zero_le _ | simp [Value.category]) (by decide) ?_
    rintro T46 h46 v46 ⟨rfl, rfl⟩ X46
    refine o_v1 ?_
    refine o_iadd X46 f0_219 ?_
    refine o_iload X46 f0_220 rfl ?_
    refine o_iconst 3 X46 f0_222 rfl ?_
    refine o_iload X46 f0_223 rfl ?_
    refine o_iload X46 f0_225 rfl ?_
    refine o_callS X46 8 f0_227 (hw _ (List.mem_of_getElem? (i := 30) rfl)) (hw _ (List.mem_of_getElem? (i := 31) rfl)) (hw _ (List.mem_of_getElem? (i := 2) rfl)) (hw _ (List.mem_of_getElem? (i := 32) rfl)) (by decide) (rm6 K.l Z a0 hw _ _ _ _ _ _) (lenOf pd3 rfl) rfl rfl (by first | exact Nat.zero_le _ | simp [Value.category]) (by decide) ?_
    rintro T47 h47 v47 ⟨rfl, rfl⟩ X47
    refine o_v1 ?_
    refine o_iadd X47 f0_230 ?_
    refine o_iload X47 f0_231 rfl ?_
    refine o_iconst 4 X47 f0_233 rfl ?_
    refine o_iload X47 f0_234 rfl ?_
    refine o_iload X47 f0_236 rfl ?_
    refine o_callS X47 8 f0_238 (hw _ (List.mem_of_getElem? (i := 30) rfl)) (hw _ (List.mem_of_getElem? (i := 31) rfl)) (hw _ (List.mem_of_getElem? (i := 2) rfl)) (hw _ (List.mem_of_getElem? (i := 32) rfl)) (by decide) (rm6 K.l Z a0 hw _ _ _ _ _ _) (lenOf pd3 rfl) rfl rfl (by first | exact Nat.zero_le _ | simp [Value.category]) (by decide) ?_
    rintro T48 h48 v48 ⟨rfl, rfl⟩ X48
    refine o_v1 ?_
    refine o_iadd X48 f0_241 ?_
    refine o_istore X48 f0_242 (Ls' := #[_, _, _, _, _, _, _, _, _, _, _, _, _, _, _]) rfl ?_
    refine o_aload X48 f0_244 rfl rfl ?_
    refine o_iload X48 f0_246 rfl ?_
    refine o_callV X48 8 f0_248 (hw _ (List.mem_of_getElem? (i := 33) rfl)) (hw _ (List.mem_of_getElem? (i := 34) rfl)) (hw _ (List.mem_of_getElem? (i := 36) rfl)) (hw _ (List.mem_of_getElem? (i := 36) rfl)) (hw _ (List.mem_of_getElem? (i := 35) rfl)) (by decide) (hw _ (List.mem_of_getElem? (i := 37) rfl)) (hw _ (List.mem_of_getElem? (i := 18) rfl)) (rm7 K.l Z a0 hw o _ _ n0 ar _ _ _ (own_B x1 v_1 v_2 v_3 v_4) (by decide) (by decide) (own_monoB _ _ _ _ _ hv1 hv2 hv3 hv4) (fun i g0 g1 => own_five (P := fun i => i.toInt < (3 : Int32).toInt → (_ : List Value)[i.toNatClampNeg]? = some (.int (own_B x1 v_1 v_2 v_3 v_4 i))) g0 (Int.lt_of_lt_of_le g1 (by decide)) (fun _ => rfl) (fun _ => rfl) (fun _ => rfl) (fun q => absurd q (by decide)) (fun q => absurd q (by decide)) g1) oF43 arF43) oF43.1 (lenOf pd4 rfl) rfl rfl (by first | exact Nat.zero_le _ | simp [Value.category]) (by decide) ?_
    rintro T49 h49 v49 ⟨⟨r, rfl, hR⟩, rfl⟩ X49
    refine o_v1 ?_
    refine o_iload X49 f0_251 rfl ?_
    refine o_icmp_ne_f X49 f0_253 (own_main _ _ _ _ _ _ _ _ (by decide) hR) ?_
    refine o_iconst 1 X49 f0_256 rfl ?_
    refine o_goto X49 f0_257 ?_
    refine o_retZ X49 f0_261 (by decide) (by decide) ?_
    rfl
  · refine o_iload X7 f0_124 rfl ?_
    refine o_if_le_f X7 f0_126 (by decide) ?_
    refine o_aload X7 f0_129 rfl rfl ?_
    refine o_iload X7 f0_131 rfl ?_
    refine o_callV X7 8 f0_133 (hw _ (List.mem_of_getElem? (i := 40) rfl)) (hw _ (List.mem_of_getElem? (i := 41) rfl)) (hw _ (List.mem_of_getElem? (i := 43) rfl)) (hw _ (List.mem_of_getElem? (i := 43) rfl)) (hw _ (List.mem_of_getElem? (i := 42) rfl)) (by decide) (hw _ (List.mem_of_getElem? (i := 44) rfl)) (hw _ (List.mem_of_getElem? (i := 18) rfl)) (rm8 K.l Z a0 hw o _ _ n0 ar _ _ _ rfl (by decide) (by decide) (by decide) ha_o ha_ar n_o_ar oF7 arF7) oF7.1 (lenOf pd5 rfl) rfl rfl (by first | exact Nat.zero_le _ | simp [Value.category]) (by decide) ?_
    rintro T41 h41 v41 ⟨rfl, oF41, arG41⟩ X41
    refine o_v0 ?_
    have arF41 : AL Z _ ar .int [.int x1, .int 0, .int 0, .int 0, .int 0, .int 0, .int 0, .int 0, .int 0, .int 0, .int 0, .int 0, .int 0, .int 0, .int 0, .int 0] := arG41
    refine o_iload X41 f0_136 rfl ?_
    refine o_iconst 1 X41 f0_138 rfl ?_
    refine o_icmp_le_f X41 f0_139 (by decide) ?_
    refine o_aload X41 f0_142 rfl rfl ?_
    refine o_iload X41 f0_144 rfl ?_
    refine o_callV X41 8 f0_146 (hw _ (List.mem_of_getElem? (i := 40) rfl)) (hw _ (List.mem_of_getElem? (i := 41) rfl)) (hw _ (List.mem_of_getElem? (i := 43) rfl)) (hw _ (List.mem_of_getElem? (i := 43) rfl)) (hw _ (List.mem_of_getElem? (i := 42) rfl)) (by decide) (hw _ (List.mem_of_getElem? (i := 44) rfl)) (hw _ (List.mem_of_getElem? (i := 18) rfl)) (rm8 K.l Z a0 hw o _ _ n0 ar _ _ _ rfl (by decide) (by decide) (by decide) ha_o ha_ar n_o_ar oF41 arF41) oF41.1 (lenOf pd5 rfl) rfl rfl (by first | exact Nat.zero_le _ | simp [Value.category]) (by decide) ?_
    rintro T42 h42 v42 ⟨rfl, oF42, arG42⟩ X42
    refine o_v0 ?_
    have arF42 : AL Z _ ar .int [.int x1, .int v_1, .int 0, .int 0, .int 0, .int 0, .int 0, .int 0, .int 0, .int 0, .int 0, .int 0, .int 0, .int 0, .int 0, .int 0] := arG42
    refine o_iload X42 f0_149 rfl ?_
    refine o_iconst 2 X42 f0_151 rfl ?_
    refine o_icmp_le_f X42 f0_152 (by decide) ?_
    refine o_aload X42 f0_155 rfl rfl ?_
    refine o_iload X42 f0_157 rfl ?_
    refine o_callV X42 8 f0_159 (hw _ (List.mem_of_getElem? (i := 40) rfl)) (hw _ (List.mem_of_getElem? (i := 41) rfl)) (hw _ (List.mem_of_getElem? (i := 43) rfl)) (hw _ (List.mem_of_getElem? (i := 43) rfl)) (hw _ (List.mem_of_getElem? (i := 42) rfl)) (by decide) (hw _ (List.mem_of_getElem? (i := 44) rfl)) (hw _ (List.mem_of_getElem? (i := 18) rfl)) (rm8 K.l Z a0 hw o _ _ n0 ar _ _ _ rfl (by decide) (by decide) (by decide) ha_o ha_ar n_o_ar oF42 arF42) oF42.1 (lenOf pd5 rfl) rfl rfl (by first | exact Nat.zero_le _ | simp [Value.category]) (by decide) ?_
    rintro T43 h43 v43 ⟨rfl, oF43, arG43⟩ X43
    refine o_v0 ?_
    have arF43 : AL Z _ ar .int [.int x1, .int v_1, .int v_2, .int 0, .int 0, .int 0, .int 0, .int 0, .int 0, .int 0, .int 0, .int 0, .int 0, .int 0, .int 0, .int 0] := arG43
    refine o_iload X43 f0_162 rfl ?_
    refine o_iconst 3 X43 f0_164 rfl ?_
    refine o_icmp_le_f X43 f0_165 (by decide) ?_
    refine o_aload X43 f0_168 rfl rfl ?_
    refine o_iload X43 f0_170 rfl ?_
    refine o_callV X43 8 f0_172 (hw _ (List.mem_of_getElem? (i := 40) rfl)) (hw _ (List.mem_of_getElem? (i := 41) rfl)) (hw _ (List.mem_of_getElem? (i := 43) rfl)) (hw _ (List.mem_of_getElem? (i := 43) rfl)) (hw _ (List.mem_of_getElem? (i := 42) rfl)) (by decide) (hw _ (List.mem_of_getElem? (i := 44) rfl)) (hw _ (List.mem_of_getElem? (i := 18) rfl)) (rm8 K.l Z a0 hw o _ _ n0 ar _ _ _ rfl (by decide) (by decide) (by decide) ha_o ha_ar n_o_ar oF43 arF43) oF43.1 (lenOf pd5 rfl) rfl rfl (by first | exact Nat.zero_le _ | simp [Value.category]) (by decide) ?_
    rintro T44 h44 v44 ⟨rfl, oF44, arG44⟩ X44
    refine o_v0 ?_
    have arF44 : AL Z _ ar .int [.int x1, .int v_1, .int v_2, .int v_3, .int 0, .int 0, .int 0, .int 0, .int 0, .int 0, .int 0, .int 0, .int 0, .int 0, .int 0, .int 0] := arG44
    refine o_iload X44 f0_175 rfl ?_
    refine o_iconst 4 X44 f0_177 rfl ?_
    refine o_icmp_le_t X44 f0_178 (by decide) ?_
    refine o_iload X44 f0_188 rfl ?_
    refine o_iconst 0 X44 f0_190 rfl ?_
    refine o_iload X44 f0_191 rfl ?_
    refine o_iload X44 f0_193 rfl ?_
    refine o_callS X44 8 f0_195 (hw _ (List.mem_of_getElem? (i := 30) rfl)) (hw _ (List.mem_of_getElem? (i := 31) rfl)) (hw _ (List.mem_of_getElem? (i := 2) rfl)) (hw _ (List.mem_of_getElem? (i := 32) rfl)) (by decide) (rm6 K.l Z a0 hw _ _ _ _ _ _) (lenOf pd3 rfl) rfl rfl (by first | exact Nat.zero_le _ | simp [Value.category]) (by decide) ?_
    rintro T45 h45 v45 ⟨rfl, rfl⟩ X45
    refine o_v1 ?_
    refine o_iload X45 f0_198 rfl ?_
    refine o_iconst 1 X45 f0_200 rfl ?_
    refine o_iload X45 f0_201 rfl ?_
    refine o_iload X45 f0_203 rfl ?_
    refine o_callS X45 8 f0_205 (hw _ (List.mem_of_getElem? (i := 30) rfl)) (hw _ (List.mem_of_getElem? (i := 31) rfl)) (hw _ (List.mem_of_getElem? (i := 2) rfl)) (hw _ (List.mem_of_getElem? (i := 32) rfl)) (by decide) (rm6 K.l Z a0 hw _ _ _ _ _ _) (lenOf pd3 rfl) rfl rfl (by first | exact Nat.zero_le _ | simp [Value.category]) (by decide) ?_
    rintro T46 h46 v46 ⟨rfl, rfl⟩ X46
    refine o_v1 ?_
    refine o_iadd X46 f0_208 ?_
    refine o_iload X46 f0_209 rfl ?_
    refine o_iconst 2 X46 f0_211 rfl ?_
    refine o_iload X46 f0_212 rfl ?_
    refine o_iload X46 f0_214 rfl ?_
    refine o_callS X46 8 f0_216 (hw _ (List.mem_of_getElem? (i := 30) rfl)) (hw _ (List.mem_of_getElem? (i := 31) rfl)) (hw _ (List.mem_of_getElem? (i := 2) rfl)) (hw _ (List.mem_of_getElem? (i := 32) rfl)) (by decide) (rm6 K.l Z a0 hw _ _ _ _ _ _) (lenOf pd3 rfl) rfl rfl (by first | exact Nat.zero_le _ | simp [Value.category]) (by decide) ?_
    rintro T47 h47 v47 ⟨rfl, rfl⟩ X47
    refine o_v1 ?_
    refine o_iadd X47 f0_219 ?_
    refine o_iload X47 f0_220 rfl ?_
    refine o_iconst 3 X47 f0_222 rfl ?_
    refine o_iload X47 f0_223 rfl ?_
    refine o_iload X47 f0_225 rfl ?_
    refine o_callS X47 8 f0_227 (hw _ (List.mem_of_getElem? (i := 30) rfl)) (hw _ (List.mem_of_getElem? (i := 31) rfl)) (hw _ (List.mem_of_getElem? (i := 2) rfl)) (hw _ (List.mem_of_getElem? (i := 32) rfl)) (by decide) (rm6 K.l Z a0 hw _ _ _ _ _ _) (lenOf pd3 rfl) rfl rfl (by first | exact Nat.zero_le _ | simp [Value.category]) (by decide) ?_
    rintro T48 h48 v48 ⟨rfl, rfl⟩ X48
    refine o_v1 ?_
    refine o_iadd X48 f0_230 ?_
    refine o_iload X48 f0_231 rfl ?_
    refine o_iconst 4 X48 f0_233 rfl ?_
    refine o_iload X48 f0_234 rfl ?_
    refine o_iload X48 f0_236 rfl ?_
    refine o_callS X48 8 f0_238 (hw _ (List.mem_of_getElem? (i := 30) rfl)) (hw _ (List.mem_of_getElem? (i := 31) rfl)) (hw _ (List.mem_of_getElem? (i := 2) rfl)) (hw _ (List.mem_of_getElem? (i := 32) rfl)) (by decide) (rm6 K.l Z a0 hw _ _ _ _ _ _) (lenOf pd3 rfl) rfl rfl (by first | exact Nat.zero_le _ | simp [Value.category]) (by decide) ?_
    rintro T49 h49 v49 ⟨rfl, rfl⟩ X49
    refine o_v1 ?_
    refine o_iadd X49 f0_241 ?_
    refine o_istore X49 f0_242 (Ls' := #[_, _, _, _, _, _, _, _, _, _, _, _, _, _, _]) rfl ?_
    refine o_aload X49 f0_244 rfl rfl ?_
    refine o_iload X49 f0_246 rfl ?_
    refine o_callV X49 8 f0_248 (hw _ (List.mem_of_getElem? (i := 33) rfl)) (hw _ (List.mem_of_getElem? (i := 34) rfl)) (hw _ (List.mem_of_getElem? (i := 36) rfl)) (hw _ (List.mem_of_getElem? (i := 36) rfl)) (hw _ (List.mem_of_getElem? (i := 35) rfl)) (by decide) (hw _ (List.mem_of_getElem? (i := 37) rfl)) (hw _ (List.mem_of_getElem? (i := 18) rfl)) (rm7 K.l Z a0 hw o _ _ n0 ar _ _ _ (own_B x1 v_1 v_2 v_3 v_4) (by decide) (by decide) (own_monoB _ _ _ _ _ hv1 hv2 hv3 hv4) (fun i g0 g1 => own_five (P := fun i => i.toInt < (4 : Int32).toInt → (_ : List Value)[i.toNatClampNeg]? = some (.int (own_B x1 v_1 v_2 v_3 v_4 i))) g0 (Int.lt_of_lt_of_le g1 (by decide)) (fun _ => rfl) (fun _ => rfl) (fun _ => rfl) (fun _ => rfl) (fun q => absurd q (by decide)) g1) oF44 arF44) oF44.1 (lenOf pd4 rfl) rfl rfl (by first | exact Nat.zero_le _ | simp [Value.category]) (by decide) ?_
    rintro T50 h50 v50 ⟨⟨r, rfl, hR⟩, rfl⟩ X50
    refine o_v1 ?_
    refine o_iload X50 f0_251 rfl ?_
    refine o_icmp_ne_f X50 f0_253 (own_main _ _ _ _ _ _ _ _ (by decide) hR) ?_
    refine o_iconst 1 X50 f0_256 rfl ?_
    refine o_goto X50 f0_257 ?_
    refine o_retZ X50 f0_261 (by decide) (by decide) ?_
    rfl
  · refine o_iload X7 f0_124 rfl ?_
    refine o_if_le_f X7 f0_126 (by decide) ?_
    refine o_aload X7 f0_129 rfl rfl ?_
    refine o_iload X7 f0_131 rfl ?_
    refine o_callV X7 8 f0_133 (hw _ (List.mem_of_getElem? (i := 40) rfl)) (hw _ (List.mem_of_getElem? (i := 41) rfl)) (hw _ (List.mem_of_getElem? (i := 43) rfl)) (hw _ (List.mem_of_getElem? (i := 43) rfl)) (hw _ (List.mem_of_getElem? (i := 42) rfl)) (by decide) (hw _ (List.mem_of_getElem? (i := 44) rfl)) (hw _ (List.mem_of_getElem? (i := 18) rfl)) (rm8 K.l Z a0 hw o _ _ n0 ar _ _ _ rfl (by decide) (by decide) (by decide) ha_o ha_ar n_o_ar oF7 arF7) oF7.1 (lenOf pd5 rfl) rfl rfl (by first | exact Nat.zero_le _ | simp [Value.category]) (by decide) ?_
    rintro T41 h41 v41 ⟨rfl, oF41, arG41⟩ X41
    refine o_v0 ?_
    have arF41 : AL Z _ ar .int [.int x1, .int 0, .int 0, .int 0, .int 0, .int 0, .int 0, .int 0, .int 0, .int 0, .int 0, .int 0, .int 0, .int 0, .int 0, .int 0] := arG41
    refine o_iload X41 f0_136 rfl ?_
    refine o_iconst 1 X41 f0_138 rfl ?_
    refine o_icmp_le_f X41 f0_139 (by decide) ?_
    refine o_aload X41 f0_142 rfl rfl ?_
    refine o_iload X41 f0_144 rfl ?_
    refine o_callV X41 8 f0_146 (hw _ (List.mem_of_getElem? (i := 40) rfl)) (hw _ (List.mem_of_getElem? (i := 41) rfl)) (hw _ (List.mem_of_getElem? (i := 43) rfl)) (hw _ (List.mem_of_getElem? (i := 43) rfl)) (hw _ (List.mem_of_getElem? (i := 42) rfl)) (by decide) (hw _ (List.mem_of_getElem? (i := 44) rfl)) (hw _ (List.mem_of_getElem? (i := 18) rfl)) (rm8 K.l Z a0 hw o _ _ n0 ar _ _ _ rfl (by decide) (by decide) (by decide) ha_o ha_ar n_o_ar oF41 arF41) oF41.1 (lenOf pd5 rfl) rfl rfl (by first | exact Nat.zero_le _ | simp [Value.category]) (by decide) ?_
    rintro T42 h42 v42 ⟨rfl, oF42, arG42⟩ X42
    refine o_v0 ?_
    have arF42 : AL Z _ ar .int [.int x1, .int v_1, .int 0, .int 0, .int 0, .int 0, .int 0, .int 0, .int 0, .int 0, .int 0, .int 0, .int 0, .int 0, .int 0, .int 0] := arG42
    refine o_iload X42 f0_149 rfl ?_
    refine o_iconst 2 X42 f0_151 rfl ?_
    refine o_icmp_le_f X42 f0_152 (by decide) ?_
    refine o_aload X42 f0_155 rfl rfl ?_
    refine o_iload X42 f0_157 rfl ?_
    refine o_callV X42 8 f0_159 (hw _ (List.mem_of_getElem? (i := 40) rfl)) (hw _ (List.mem_of_getElem? (i := 41) rfl)) (hw _ (List.mem_of_getElem? (i := 43) rfl)) (hw _ (List.mem_of_getElem? (i := 43) rfl)) (hw _ (List.mem_of_getElem? (i := 42) rfl)) (by decide) (hw _ (List.mem_of_getElem? (i := 44) rfl)) (hw _ (List.mem_of_getElem? (i := 18) rfl)) (rm8 K.l Z a0 hw o _ _ n0 ar _ _ _ rfl (by decide) (by decide) (by decide) ha_o ha_ar n_o_ar oF42 arF42) oF42.1 (lenOf pd5 rfl) rfl rfl (by first | exact Nat.zero_le _ | simp [Value.category]) (by decide) ?_
    rintro T43 h43 v43 ⟨rfl, oF43, arG43⟩ X43
    refine o_v0 ?_
    have arF43 : AL Z _ ar .int [.int x1, .int v_1, .int v_2, .int 0, .int 0, .int 0, .int 0, .int 0, .int 0, .int 0, .int 0, .int 0, .int 0, .int 0, .int 0, .int 0] := arG43
    refine o_iload X43 f0_162 rfl ?_
    refine o_iconst 3 X43 f0_164 rfl ?_
    refine o_icmp_le_f X43 f0_165 (by decide) ?_
    refine o_aload X43 f0_168 rfl rfl ?_
    refine o_iload X43 f0_170 rfl ?_
    refine o_callV X43 8 f0_172 (hw _ (List.mem_of_getElem? (i := 40) rfl)) (hw _ (List.mem_of_getElem? (i := 41) rfl)) (hw _ (List.mem_of_getElem? (i := 43) rfl)) (hw _ (List.mem_of_getElem? (i := 43) rfl)) (hw _ (List.mem_of_getElem? (i := 42) rfl)) (by decide) (hw _ (List.mem_of_getElem? (i := 44) rfl)) (hw _ (List.mem_of_getElem? (i := 18) rfl)) (rm8 K.l Z a0 hw o _ _ n0 ar _ _ _ rfl (by decide) (by decide) (by decide) ha_o ha_ar n_o_ar oF43 arF43) oF43.1 (lenOf pd5 rfl) rfl rfl (by first | exact Nat.zero_le _ | simp [Value.category]) (by decide) ?_
    rintro T44 h44 v44 ⟨rfl, oF44, arG44⟩ X44
    refine o_v0 ?_
    have arF44 : AL Z _ ar .int [.int x1, .int v_1, .int v_2, .int v_3, .int 0, .int 0, .int 0, .int 0, .int 0, .int 0, .int 0, .int 0, .int 0, .int 0, .int 0, .int 0] := arG44
    refine o_iload X44 f0_175 rfl ?_
    refine o_iconst 4 X44 f0_177 rfl ?_
    refine o_icmp_le_f X44 f0_178 (by decide) ?_
    refine o_aload X44 f0_181 rfl rfl ?_
    refine o_iload X44 f0_183 rfl ?_
    refine o_callV X44 8 f0_185 (hw _ (List.mem_of_getElem? (i := 40) rfl)) (hw _ (List.mem_of_getElem? (i := 41) rfl)) (hw _ (List.mem_of_getElem? (i := 43) rfl)) (hw _ (List.mem_of_getElem? (i := 43) rfl)) (hw _ (List.mem_of_getElem? (i := 42) rfl)) (by decide) (hw _ (List.mem_of_getElem? (i := 44) rfl)) (hw _ (List.mem_of_getElem? (i := 18) rfl)) (rm8 K.l Z a0 hw o _ _ n0 ar _ _ _ rfl (by decide) (by decide) (by decide) ha_o ha_ar n_o_ar oF44 arF44) oF44.1 (lenOf pd5 rfl) rfl rfl (by first | exact Nat.zero_le _ | simp [Value.category]) (by decide) ?_
    rintro T45 h45 v45 ⟨rfl, oF45, arG45⟩ X45
    refine o_v0 ?_
    have arF45 : AL Z _ ar .int [.int x1, .int v_1, .int v_2, .int v_3, .int v_4, .int 0, .int 0, .int 0, .int 0, .int 0, .int 0, .int 0, .int 0, .int 0, .int 0, .int 0] := arG45
    refine o_iload X45 f0_188 rfl ?_
    refine o_iconst 0 X45 f0_190 rfl ?_
    refine o_iload X45 f0_191 rfl ?_
    refine o_iload X45 f0_193 rfl ?_
    refine o_callS X45 8 f0_195 (hw _ (List.mem_of_getElem? (i := 30) rfl)) (hw _ (List.mem_of_getElem? (i := 31) rfl)) (hw _ (List.mem_of_getElem? (i := 2) rfl)) (hw _ (List.mem_of_getElem? (i := 32) rfl)) (by decide) (rm6 K.l Z a0 hw _ _ _ _ _ _) (lenOf pd3 rfl) rfl rfl (by first | exact Nat.zero_le _ | simp [Value.category]) (by decide) ?_
    rintro T46 h46 v46 ⟨rfl, rfl⟩ X46
    refine o_v1 ?_
    refine o_iload X46 f0_198 rfl ?_
    refine o_iconst 1 X46 f0_200 rfl ?_
    refine o_iload X46 f0_201 rfl ?_
    refine o_iload X46 f0_203 rfl ?_
    refine o_callS X46 8 f0_205 (hw _ (List.mem_of_getElem? (i := 30) rfl)) (hw _ (List.mem_of_getElem? (i := 31) rfl)) (hw _ (List.mem_of_getElem? (i := 2) rfl)) (hw _ (List.mem_of_getElem? (i := 32) rfl)) (by decide) (rm6 K.l Z a0 hw _ _ _ _ _ _) (lenOf pd3 rfl) rfl rfl (by first | exact Nat.zero_le _ | simp [Value.category]) (by decide) ?_
    rintro T47 h47 v47 ⟨rfl, rfl⟩ X47
    refine o_v1 ?_
    refine o_iadd X47 f0_208 ?_
    refine o_iload X47 f0_209 rfl ?_
    refine o_iconst 2 X47 f0_211 rfl ?_
    refine o_iload X47 f0_212 rfl ?_
    refine o_iload X47 f0_214 rfl ?_
    refine o_callS X47 8 f0_216 (hw _ (List.mem_of_getElem? (i := 30) rfl)) (hw _ (List.mem_of_getElem? (i := 31) rfl)) (hw _ (List.mem_of_getElem? (i := 2) rfl)) (hw _ (List.mem_of_getElem? (i := 32) rfl)) (by decide) (rm6 K.l Z a0 hw _ _ _ _ _ _) (lenOf pd3 rfl) rfl rfl (by first | exact Nat.zero_le _ | simp [Value.category]) (by decide) ?_
    rintro T48 h48 v48 ⟨rfl, rfl⟩ X48
    refine o_v1 ?_
    refine o_iadd X48 f0_219 ?_
    refine o_iload X48 f0_220 rfl ?_
    refine o_iconst 3 X48 f0_222 rfl ?_
    refine o_iload X48 f0_223 rfl ?_
    refine o_iload X48 f0_225 rfl ?_
    refine o_callS X48 8 f0_227 (hw _ (List.mem_of_getElem? (i := 30) rfl)) (hw _ (List.mem_of_getElem? (i := 31) rfl)) (hw _ (List.mem_of_getElem? (i := 2) rfl)) (hw _ (List.mem_of_getElem? (i := 32) rfl)) (by decide) (rm6 K.l Z a0 hw _ _ _ _ _ _) (lenOf pd3 rfl) rfl rfl (by first | exact Nat.zero_le _ | simp [Value.category]) (by decide) ?_
    rintro T49 h49 v49 ⟨rfl, rfl⟩ X49
    refine o_v1 ?_
    refine o_iadd X49 f0_230 ?_
    refine o_iload X49 f0_231 rfl ?_
    refine o_iconst 4 X49 f0_233 rfl ?_
    refine o_iload X49 f0_234 rfl ?_
    refine o_iload X49 f0_236 rfl ?_
    refine o_callS X49 8 f0_238 (hw _ (List.mem_of_getElem? (i := 30) rfl)) (hw _ (List.mem_of_getElem? (i := 31) rfl)) (hw _ (List.mem_of_getElem? (i := 2) rfl)) (hw _ (List.mem_of_getElem? (i := 32) rfl)) (by decide) (rm6 K.l Z a0 hw _ _ _ _ _ _) (lenOf pd3 rfl) rfl rfl (by first | exact Nat.zero_le _ | simp [Value.category]) (by decide) ?_
    rintro T50 h50 v50 ⟨rfl, rfl⟩ X50
    refine o_v1 ?_
    refine o_iadd X50 f0_241 ?_
    refine o_istore X50 f0_242 (Ls' := #[_, _, _, _, _, _, _, _, _, _, _, _, _, _, _]) rfl ?_
    refine o_aload X50 f0_244 rfl rfl ?_
    refine o_iload X50 f0_246 rfl ?_
    refine o_callV X50 8 f0_248 (hw _ (List.mem_of_getElem? (i := 33) rfl)) (hw _ (List.mem_of_getElem? (i := 34) rfl)) (hw _ (List.mem_of_getElem? (i := 36) rfl)) (hw _ (List.mem_of_getElem? (i := 36) rfl)) (hw _ (List.mem_of_getElem? (i := 35) rfl)) (by decide) (hw _ (List.mem_of_getElem? (i := 37) rfl)) (hw _ (List.mem_of_getElem? (i := 18) rfl)) (rm7 K.l Z a0 hw o _ _ n0 ar _ _ _ (own_B x1 v_1 v_2 v_3 v_4) (by decide) (by decide) (own_monoB _ _ _ _ _ hv1 hv2 hv3 hv4) (fun i g0 g1 => own_five (P := fun i => i.toInt < (5 : Int32).toInt → (_ : List Value)[i.toNatClampNeg]? = some (.int (own_B x1 v_1 v_2 v_3 v_4 i))) g0 (Int.lt_of_lt_of_le g1 (by decide)) (fun _ => rfl) (fun _ => rfl) (fun _ => rfl) (fun _ => rfl) (fun _ => rfl) g1) oF45 arF45) oF45.1 (lenOf pd4 rfl) rfl rfl (by first | exact Nat.zero_le _ | simp [Value.category]) (by decide) ?_
    rintro T51 h51 v51 ⟨⟨r, rfl, hR⟩, rfl⟩ X51
    refine o_v1 ?_
    refine o_iload X51 f0_251 rfl ?_
    refine o_icmp_ne_f X51 f0_253 (own_main _ _ _ _ _ _ _ _ (by decide) hR) ?_
    refine o_iconst 1 X51 f0_256 rfl ?_
    refine o_goto X51 f0_257 ?_
    refine o_retZ X51 f0_261 (by decide) (by decide) ?_
    rfl
set_option maxRecDepth 65536 in
set_option maxHeartbeats 40000000 in
theorem comes_1 {Post : Tables → Env → Array Value → State → Outcome → State → Prop} (hpost : ∀ tb e args s v u, (limb_1_1.after args s (.returned v) u = true ∧ limb_1_2.after args s (.returned v) u = true ∧ True) → FrameEnd s (.returned v) u (Jvm.fieldLocs frame_1_writes args s ++ Jvm.arrayLocs frame_1_arrays args s ++ Jvm.staticLocs frame_1_statics s) 16 128 → Post tb e args s (.returned v) u) :
    ArmFor flags0 classFile x code maxLocals ret World_1 tables_1 room_1 Calls_1 rest_1 Pre_1 Post := by
  intro l hfl _ _ p e ha hc hk s m args below hf hA hF happ hP
  obtain ⟨hcalls, hrest, hpre⟩ := hP
  obtain ⟨-, -, -, hnamed, -, -, -, hat⟩ := (Spec.applies_iff hf).mp happ
  obtain ⟨hg, hn⟩ := and_e (Cond.before_iff.mp (show (Jvm.Cond.and given_1 narrow_1).before args s = true from hpre))
  obtain ⟨g0, r0⟩ := and_e hg
  obtain ⟨p0, r1⟩ := and_e r0
  obtain ⟨p1, r2⟩ := and_e r1
  obtain ⟨p2, r3⟩ := and_e r2
  obtain ⟨w0, w1, w2, w3, rfl⟩ : ∃ w0 w1 w2 w3 : Value, args = #[w0, w1, w2, w3] := by
    have hs : args.size = 4 := by simpa [Cond.value, given_1] using g0
    obtain ⟨L⟩ := args
    match L, hs with
    | [w0, w1, w2, w3], _ => exact ⟨w0, w1, w2, w3, rfl⟩
  have hw := fun d (hd : d ∈ tables_1) => atoms_spec (ws := Jvm.Cond.code x code maxLocals ret :: tables_1) hat d (List.mem_cons_of_mem _ hd)
  obtain ⟨i0, e0⟩ := is_v p0
  obtain rfl : w0 = (.int i0) := Option.some.inj e0
  obtain ⟨i1, e1⟩ := is_v p1
  obtain rfl : w1 = (.int i1) := Option.some.inj e1
  obtain ⟨i2, e2⟩ := isL_v p2
  obtain rfl : w2 = (.long i2) := Option.some.inj e2
  obtain ⟨i3, e3⟩ := is_v r3
  obtain rfl : w3 = (.int i3) := Option.some.inj e3
  obtain ⟨n, o, h1, h2, h3, _, L, rfl, ⟨rfl, N⟩, hq⟩ := rm0 l s _ hw i0 i1 i2 i3 s.heap s.heap.size (Nat.le_refl _) p e ha hc hk s m _ below hf ((Spec.applies_iff_loose hf).mp happ).1 ⟨rfl, State.Warmed39.refl s, rfl⟩ trivial
  refine ⟨n, _, h1, h2, h3, hpost _ _ _ _ _ _ ⟨Cond.after_iff.mpr rfl, Cond.after_iff.mpr (eq_i res_at (Term.int_eval (1)) rfl), trivial⟩ ⟨hq.1, hq.2.1, (hq.2.2.sift fun y hy => Or.inr (N y hy)).mono (by decide) (by decide)⟩⟩
theorem main_1_1 : Claimed_1_1 := comes_1 fun _ _ _ _ _ _ h hF => ⟨h.1, hF⟩
theorem main_1_2 : Claimed_1_2 := comes_1 fun _ _ _ _ _ _ h hF => ⟨h.2.1, hF⟩
end Jvm.Pilot.@@N@@
namespace Jvm.Pilot.@@N@@
open Jvm Jvm.ClassFile Sem Op Lib Jvm.Free Jvm.Stand Jvm.Pilot.@@N@@.Jvm.D
/-! MADE BY PROGRAM (witnessworld.py) out of the Statement's table words and the real class files: 10 classes; the members and pool entries that the words name. The judged class is class 1, her method 1. -/
namespace start1
open Jvm.ClassFile
def u (s : String) : CpInfo := .utf8 (stringToUtf16 s)
/-- a pool by its gaps: so many unusable entries, then the entry; so many at the end -/
def gap : Nat → List CpInfo → List CpInfo
  | 0, r => r
  | n + 1, r => .unusable :: gap n r
def poolList (es : List (Nat × CpInfo)) (last : Nat) : List CpInfo := es.foldr (fun e r => gap e.1 (e.2 :: r)) (gap last [])
def pool (es : List (Nat × CpInfo)) (last : Nat) : Array CpInfo := ⟨poolList es last⟩
def fileOf (pool : Array CpInfo) (this : Nat) (attrs : Array Attribute := #[]) (ms : Array MethodInfo := #[]) (fl : Nat := 33) (sup : Nat := 0) (ifs : Array Nat := #[]) (fds : Array FieldInfo := #[]) : ClassFile where
  minorVersion := 0
  majorVersion := 65
  constantPool := pool
  accessFlags := fl
  thisClass := this
  superClass := sup
  interfaces := ifs
  fields := fds
  methods := ms
  attributes := attrs
def plain (name : String) (sup : Option ClassId) : Class where
  name := name
  kind := .ordinary
  loader := none
  accessFlags := 33
  super := sup
  interfaces := #[]
  cf := none
  fields := #[]
  methods := #[]
  instanceTypes := #[]
  staticTypes := #[]
  resolved := #[]
  callSites := []
  init := .initialized
  statics := none
  mirror := none

def pool0 : Array CpInfo := pool [(5, u "<init>"), (0, u "()V"), (1, .class_ 10), (1, u "java/lang/Object")] 113

def k0c0 : Code := { maxStack := 0, maxLocals := 1, code := object_method_1_code, exceptionTable := #[], attributes := #[] }
def k0m0 : Method := { name := "<init>", desc := "()V", sig := { parameters := [], returnType := none }, accessFlags := 1, code := some k0c0 }
/-- java/lang/Object -/
def k0 : Class := { plain "java/lang/Object" none with
  accessFlags := 33
  interfaces := #[]
  cf := some (fileOf pool0 8 #[] #[{ accessFlags := 1, nameIndex := 5, descriptorIndex := 6, attributes := #[] }] 33 0 #[] #[])
  fields := #[]
  methods := #[k0m0]
  instanceTypes := #[]
  staticTypes := #[]
  resolved := Array.replicate 124 none
  statics := none }

def pool1 : Array CpInfo := pool [(2, .class_ 4), (1, u "java/lang/Object"), (0, u "<init>"), (0, u "()V"), (0, .methodref 8 9), (0, .class_ 10), (0, .nameAndType 11 12), (0, u "com/example/markup_to_tree/markuptotree/parser/OffsetsBeforePinLaw"), (0, u "next"), (0, u "(IJI)I"), (2, .long 18446744071562067968), (1, .long 2147483647), (1, .integer 262143), (0, .long 16), (1, .methodref 23 24), (0, .class_ 25), (0, .nameAndType 26 27), (0, u "java/lang/Math"), (0, u "min"), (0, u "(JJ)J"), (0, .methodref 23 29), (0, .nameAndType 30 27), (0, u "max"), (0, .class_ 32), (0, u "com/example/markup_to_tree/markuptotree/parser/EntityText$Offsets"), (0, .methodref 31 34), (0, .nameAndType 5 35), (0, u "(Z)V"), (0, .methodref 31 37), (0, .nameAndType 38 39), (0, u "add"), (0, u "(I)V"), (0, .methodref 8 41), (0, .nameAndType 42 43), (0, u "below"), (0, u "(IIII)I"), (0, .methodref 31 45), (0, .nameAndType 46 47), (0, u "before"), (0, u "(I)I"), (0, .long 65535), (3, u "law"), (0, u "(IIJI)Z")] 7

def k1m0 : Method := { name := "<init>", desc := "()V", sig := { parameters := [], returnType := none }, accessFlags := 1, code := none }
def k1c1 : Code := { maxStack := 8, maxLocals := 15, code := code, exceptionTable := #[], attributes := #[] }
def k1m1 : Method := { name := "law", desc := "(IIJI)Z", sig := { parameters := [.int, .int, .long, .int], returnType := some .boolean }, accessFlags := 9, code := some k1c1 }
def k1c2 : Code := { maxStack := 4, maxLocals := 6, code := method_3_code, exceptionTable := #[], attributes := #[] }
def k1m2 : Method := { name := "next", desc := "(IJI)I", sig := { parameters := [.int, .long, .int], returnType := some .int }, accessFlags := 10, code := some k1c2 }
def k1c3 : Code := { maxStack := 2, maxLocals := 4, code := method_4_code, exceptionTable := #[], attributes := #[] }
def k1m3 : Method := { name := "below", desc := "(IIII)I", sig := { parameters := [.int, .int, .int, .int], returnType := some .int }, accessFlags := 10, code := some k1c3 }
/-- com/example/markup_to_tree/markuptotree/parser/OffsetsBeforePinLaw -/
def k1 : Class := { plain "com/example/markup_to_tree/markuptotree/parser/OffsetsBeforePinLaw" (some 0) with
  accessFlags := 49
  interfaces := #[]
  cf := some (fileOf pool1 8 #[] #[{ accessFlags := 1, nameIndex := 5, descriptorIndex := 6, attributes := #[] }, { accessFlags := 9, nameIndex := 52, descriptorIndex := 53, attributes := #[] }, { accessFlags := 10, nameIndex := 11, descriptorIndex := 12, attributes := #[] }, { accessFlags := 10, nameIndex := 42, descriptorIndex := 43, attributes := #[] }] 49 2 #[] #[])
  fields := #[]
  methods := #[k1m0, k1m1, k1m2, k1m3]
  instanceTypes := #[]
  staticTypes := #[]
  resolved := Array.replicate 61 none
  statics := none }

def pool2 : Array CpInfo := pool [(1, .class_ 2), (0, u "java/lang/Math"), (1, .class_ 6), (1, u "java/lang/Object"), (0, u "<init>"), (0, u "()V"), (89, .class_ 100), (1, u "java/lang/Math$RandomNumberGeneratorHolder"), (20, u "(JJ)J"), (50, u "negativeZeroFloatBits"), (0, u "J"), (2, u "negativeZeroDoubleBits"), (21, u "max"), (2, u "min"), (43, u "$assertionsDisabled"), (0, u "Z"), (91, u "twoToTheDoubleScaleDown"), (0, u "D"), (4, u "twoToTheDoubleScaleUp"), (9, u "E"), (3, u "PI"), (2, u "TAU"), (2, u "DEGREES_TO_RADIANS"), (0, u "RADIANS_TO_DEGREES")] 94

def k2m0 : Method := { name := "<init>", desc := "()V", sig := { parameters := [], returnType := none }, accessFlags := 2, code := none }
def k2c1 : Code := { maxStack := 4, maxLocals := 4, code := jdk_29_method_66_code, exceptionTable := #[], attributes := #[] }
def k2m1 : Method := { name := "max", desc := "(JJ)J", sig := { parameters := [.long, .long], returnType := some .long }, accessFlags := 9, code := some k2c1 }
def k2c2 : Code := { maxStack := 4, maxLocals := 4, code := jdk_29_method_70_code, exceptionTable := #[], attributes := #[] }
def k2m2 : Method := { name := "min", desc := "(JJ)J", sig := { parameters := [.long, .long], returnType := some .long }, accessFlags := 9, code := some k2c2 }
/-- java/lang/Math -/
def k2 : Class := { plain "java/lang/Math" (some 0) with
  accessFlags := 49
  interfaces := #[]
  cf := some (fileOf pool2 1 #[.nestMembers #[98]] #[{ accessFlags := 2, nameIndex := 7, descriptorIndex := 8, attributes := #[] }, { accessFlags := 9, nameIndex := 198, descriptorIndex := 121, attributes := #[] }, { accessFlags := 9, nameIndex := 201, descriptorIndex := 121, attributes := #[] }] 49 4 #[] #[{ accessFlags := 25, nameIndex := 354, descriptorIndex := 339, attributes := #[] }, { accessFlags := 25, nameIndex := 358, descriptorIndex := 339, attributes := #[] }, { accessFlags := 25, nameIndex := 361, descriptorIndex := 339, attributes := #[] }, { accessFlags := 26, nameIndex := 364, descriptorIndex := 339, attributes := #[] }, { accessFlags := 26, nameIndex := 365, descriptorIndex := 339, attributes := #[] }, { accessFlags := 26, nameIndex := 172, descriptorIndex := 173, attributes := #[] }, { accessFlags := 26, nameIndex := 176, descriptorIndex := 173, attributes := #[] }, { accessFlags := 8, nameIndex := 344, descriptorIndex := 339, attributes := #[] }, { accessFlags := 8, nameIndex := 338, descriptorIndex := 339, attributes := #[] }, { accessFlags := 4120, nameIndex := 245, descriptorIndex := 246, attributes := #[] }])
  fields := #[{ name := "E", type := .double, accessFlags := 25, slot := 0, constantValue := 0 }, { name := "PI", type := .double, accessFlags := 25, slot := 1, constantValue := 0 }, { name := "TAU", type := .double, accessFlags := 25, slot := 2, constantValue := 0 }, { name := "DEGREES_TO_RADIANS", type := .double, accessFlags := 26, slot := 3, constantValue := 0 }, { name := "RADIANS_TO_DEGREES", type := .double, accessFlags := 26, slot := 4, constantValue := 0 }, { name := "negativeZeroFloatBits", type := .long, accessFlags := 26, slot := 5, constantValue := 0 }, { name := "negativeZeroDoubleBits", type := .long, accessFlags := 26, slot := 6, constantValue := 0 }, { name := "twoToTheDoubleScaleUp", type := .double, accessFlags := 8, slot := 7, constantValue := 0 }, { name := "twoToTheDoubleScaleDown", type := .double, accessFlags := 8, slot := 8, constantValue := 0 }, { name := "$assertionsDisabled", type := .boolean, accessFlags := 4120, slot := 9, constantValue := 0 }]
  methods := #[k2m0, k2m1, k2m2]
  instanceTypes := #[]
  staticTypes := #[.double, .double, .double, .double, .double, .long, .long, .double, .double, .boolean]
  resolved := Array.replicate 460 none
  statics := none }

def pool3 : Array CpInfo := pool [(1, .methodref 2 3), (0, .class_ 4), (0, .nameAndType 5 6), (0, u "java/lang/Object"), (0, u "<init>"), (0, u "()V"), (0, .fieldref 8 9), (0, .class_ 10), (0, .nameAndType 11 12), (0, u "com/example/markup_to_tree/markuptotree/parser/EntityText$Offsets"), (0, u "offsets"), (0, u "[I"), (0, .fieldref 8 14), (0, .nameAndType 15 16), (0, u "kept"), (0, u "Z"), (0, .fieldref 8 18), (0, .nameAndType 19 20), (0, u "count"), (0, u "I"), (11, u "before"), (0, u "(I)I"), (0, u "(Z)V"), (2, u "add"), (0, u "(I)V"), (6, .class_ 46), (0, u "com/example/markup_to_tree/markuptotree/parser/EntityText")] 2

def k3c0 : Code := { maxStack := 2, maxLocals := 2, code := prog_75_method_1_code, exceptionTable := #[], attributes := #[] }
def k3m0 : Method := { name := "<init>", desc := "(Z)V", sig := { parameters := [.boolean], returnType := none }, accessFlags := 0, code := some k3c0 }
def k3c1 : Code := { maxStack := 5, maxLocals := 2, code := prog_75_method_2_code, exceptionTable := #[], attributes := #[] }
def k3m1 : Method := { name := "add", desc := "(I)V", sig := { parameters := [.int], returnType := none }, accessFlags := 0, code := some k3c1 }
def k3c2 : Code := { maxStack := 2, maxLocals := 5, code := prog_75_method_5_code, exceptionTable := #[], attributes := #[] }
def k3m2 : Method := { name := "before", desc := "(I)I", sig := { parameters := [.int], returnType := some .int }, accessFlags := 0, code := some k3c2 }
/-- com/example/markup_to_tree/markuptotree/parser/EntityText$Offsets -/
def k3 : Class := { plain "com/example/markup_to_tree/markuptotree/parser/EntityText$Offsets" (some 0) with
  accessFlags := 48
  interfaces := #[]
  cf := some (fileOf pool3 8 #[.nestHost 45] #[{ accessFlags := 0, nameIndex := 5, descriptorIndex := 34, attributes := #[] }, { accessFlags := 0, nameIndex := 37, descriptorIndex := 38, attributes := #[] }, { accessFlags := 0, nameIndex := 32, descriptorIndex := 33, attributes := #[] }] 48 2 #[] #[{ accessFlags := 0, nameIndex := 11, descriptorIndex := 12, attributes := #[] }, { accessFlags := 0, nameIndex := 19, descriptorIndex := 20, attributes := #[] }, { accessFlags := 18, nameIndex := 15, descriptorIndex := 16, attributes := #[] }])
  fields := #[{ name := "offsets", type := (.array .int), accessFlags := 0, slot := 0, constantValue := 0 }, { name := "count", type := .int, accessFlags := 0, slot := 1, constantValue := 0 }, { name := "kept", type := .boolean, accessFlags := 18, slot := 2, constantValue := 0 }]
  methods := #[k3m0, k3m1, k3m2]
  instanceTypes := #[(.array .int), .int, .boolean]
  staticTypes := #[]
  resolved := Array.replicate 49 none
  statics := none }

def pool4 : Array CpInfo := pool [(1, u "java/lang/Cloneable"), (0, .class_ 1), (0, u "java/lang/Object"), (0, .class_ 3)] 3

/-- java/lang/Cloneable -/
def k4 : Class := { plain "java/lang/Cloneable" (some 0) with
  accessFlags := 1537
  interfaces := #[]
  cf := some (fileOf pool4 2 #[] #[] 1537 4 #[] #[])
  fields := #[]
  methods := #[]
  instanceTypes := #[]
  staticTypes := #[]
  resolved := Array.replicate 8 none
  statics := none }

def pool5 : Array CpInfo := pool [(1, u "java/io/Serializable"), (0, .class_ 1), (0, u "java/lang/Object"), (0, .class_ 3)] 3

/-- java/io/Serializable -/
def k5 : Class := { plain "java/io/Serializable" (some 0) with
  accessFlags := 1537
  interfaces := #[]
  cf := some (fileOf pool5 2 #[] #[] 1537 4 #[] #[])
  fields := #[]
  methods := #[]
  instanceTypes := #[]
  staticTypes := #[]
  resolved := Array.replicate 8 none
  statics := none }

/-- the primitive byte -/
def k6 : Class := { plain "byte" none with kind := .primitive 'B', accessFlags := 0x411 }
/-- [B -/
def k7 : Class := { plain "[B" (some 0) with kind := .array 6 .byte, interfaces := #[4, 5], accessFlags := 1041 }

/-- the primitive int -/
def k8 : Class := { plain "int" none with kind := .primitive 'I', accessFlags := 0x411 }
/-- [I -/
def k9 : Class := { plain "[I" (some 0) with kind := .array 8 .int, interfaces := #[4, 5], accessFlags := 1041 }

def heap : Heap := #[]
def classes : Array Class := #[k0, k1, k2, k3, k4, k5, k6, k7, k8, k9]
def interned : List (Array UInt16 × Addr) := []
def slotsUsed : Nat := 0
def theMethod : MethodId := ⟨1, 1⟩
def args0 : Array Value := #[.int 5, .int 7, .long 9, .int 3]
def aboutOver (below : List Frame) : State where
  vm := { classes := classes, interned := interned.toArray }
  heap := heap
  slotsUsed := slotsUsed
  threads := #[{ frames := .invoking theMethod args0 :: below }]
def below0 : List Frame := [.native { method := ⟨0, 0⟩, args := #[] }]
def about1 : State := aboutOver below0
def p0 : Program := .bare "" "" ""
def e0 : Env := launch0.env 0 0 0
theorem w_frames : about1.frames = Frame.invoking theMethod args0 :: below0 := rfl
set_option maxRecDepth 65536 in
theorem w_args : argsFit about1.vm theMethod args0 = true := by decide +kernel
set_option maxRecDepth 65536 in
theorem w_heap : heapFits about1 = true := by decide +kernel
set_option maxRecDepth 65536 in
theorem w_runnable : about1.curStatus? = some .runnable := by decide +kernel
set_option maxRecDepth 65536 in
theorem w_alone : about1.alone = true := by decide +kernel
set_option maxRecDepth 65536 in
theorem w_named : about1.methodNamed? x = some theMethod := by decide +kernel
set_option maxRecDepth 65536 in
theorem w_hears : about1.hears theMethod below0 = true := by decide +kernel
set_option maxRecDepth 65536 in
theorem w_ripe : about1.ripe theMethod args0 below0 = true := by decide +kernel
theorem w_running : about1.status = .running := rfl
set_option maxRecDepth 65536 in
theorem w_room : about1.hasRoom e0.platform room_1 = true :=
  launch0.hasRoom_least _ room_1 (by decide +kernel) (by decide +kernel) (by decide +kernel) (by decide +kernel) (by decide +kernel) (by decide +kernel)
theorem allAtoms_all (ts : List Jvm.Cond) (a : Array Jvm.Value) (st : Jvm.State) : (allAtoms ts).before a st = ts.all (fun c => c.before a st) := by
  induction ts with
  | nil => rfl
  | cons c t ih =>
    show (Jvm.Cond.and c (allAtoms t)).before a st = _
    rw [Jvm.Cond.before_and, ih, List.all_cons]
def words1 : List Jvm.Cond := Jvm.Cond.code x code maxLocals ret :: tables_1
/-- a 'code' word, met by the world's own term for the bytes: nothing is compared byte by byte -/
theorem code_word {y : MethodName} {bytes : ByteArray} {mx : Nat} {rt : Option FieldType} {a : Array Value} {s : State} {m : MethodId} {meth : Method} {c : Code} (h1 : s.methodNamed? y = some m) (h2 : s.vm.method? m = some meth) (h3 : meth.code = some c) (h4 : c.code = bytes)
    (h5 : (c.maxLocals == mx && c.exceptionTable.isEmpty && decide (c.maxStack ≤ mostOperands) && decide (meth.sig.returnType = rt) && !meth.locks && decide (parseMethodDescriptor y.desc = some meth.sig)) = true) : (Jvm.Cond.code y bytes mx rt).before a s = true := by
  simp only [Bool.and_eq_true, beq_iff_eq, Bool.not_eq_true', decide_eq_true_eq] at h5
  obtain ⟨⟨⟨⟨⟨g1, g2⟩, g3⟩, g4⟩, g5⟩, g6⟩ := h5
  simp [Cond.before, Cond.holds, Cond.value, h1, h2, h3, h4, g1, g2, g3, g4, g5, g6]
def isCode : Jvm.Cond → Bool
  | .code _ _ _ _ => true
  | _ => false
theorem all_split {L : List Jvm.Cond} {P : Jvm.Cond → Bool} (h1 : L.all (fun c => isCode c || P c) = true) (h2 : ∀ c ∈ L.filter isCode, P c = true) : L.all P = true := by
  refine List.all_eq_true.mpr fun c hc => ?_
  have h := List.all_eq_true.mp h1 c hc
  rcases Bool.eq_false_or_eq_true (isCode c) with hi | hi
  · exact h2 c (List.mem_filter.mpr ⟨hc, hi⟩)
  · simpa [hi] using h
set_option maxRecDepth 65536 in
theorem w_c0 : (Jvm.Cond.code x code maxLocals ret).before args0 about1 = true := code_word (m := ⟨1, 1⟩) (meth := k1m1) (c := k1c1) (by decide +kernel) rfl rfl rfl (by decide +kernel)
set_option maxRecDepth 65536 in
theorem w_c1 : (Jvm.Cond.code ({ cls := "com/example/markup_to_tree/markuptotree/parser/OffsetsBeforePinLaw", name := "next", desc := "(IJI)I" } : Jvm.MethodName) method_3_code (6 : Nat) (Option.some Jvm.ClassFile.FieldType.int)).before args0 about1 = true := code_word (m := ⟨1, 2⟩) (meth := k1m2) (c := k1c2) (by decide +kernel) rfl rfl rfl (by decide +kernel)
set_option maxRecDepth 65536 in
theorem w_c2 : (Jvm.Cond.code ({ cls := "java/lang/Math", name := "min", desc := "(JJ)J" } : Jvm.MethodName) jdk_29_method_70_code (4 : Nat) (Option.some Jvm.ClassFile.FieldType.long)).before args0 about1 = true := code_word (m := ⟨2, 2⟩) (meth := k2m2) (c := k2c2) (by decide +kernel) rfl rfl rfl (by decide +kernel)
set_option maxRecDepth 65536 in
theorem w_c3 : (Jvm.Cond.code ({ cls := "java/lang/Math", name := "max", desc := "(JJ)J" } : Jvm.MethodName) jdk_29_method_66_code (4 : Nat) (Option.some Jvm.ClassFile.FieldType.long)).before args0 about1 = true := code_word (m := ⟨2, 1⟩) (meth := k2m1) (c := k2c1) (by decide +kernel) rfl rfl rfl (by decide +kernel)
set_option maxRecDepth 65536 in
theorem w_c4 : (Jvm.Cond.code ({ cls := "com/example/markup_to_tree/markuptotree/parser/EntityText$Offsets", name := "<init>", desc := "(Z)V" } : Jvm.MethodName) prog_75_method_1_code (2 : Nat) (Option.none : Option Jvm.ClassFile.FieldType)).before args0 about1 = true := code_word (m := ⟨3, 0⟩) (meth := k3m0) (c := k3c0) (by decide +kernel) rfl rfl rfl (by decide +kernel)
set_option maxRecDepth 65536 in
theorem w_c5 : (Jvm.Cond.code ({ cls := "java/lang/Object", name := "<init>", desc := "()V" } : Jvm.MethodName) object_method_1_code (1 : Nat) (Option.none : Option Jvm.ClassFile.FieldType)).before args0 about1 = true := code_word (m := ⟨0, 0⟩) (meth := k0m0) (c := k0c0) (by decide +kernel) rfl rfl rfl (by decide +kernel)
set_option maxRecDepth 65536 in
theorem w_c6 : (Jvm.Cond.code ({ cls := "com/example/markup_to_tree/markuptotree/parser/OffsetsBeforePinLaw", name := "below", desc := "(IIII)I" } : Jvm.MethodName) method_4_code (4 : Nat) (Option.some Jvm.ClassFile.FieldType.int)).before args0 about1 = true := code_word (m := ⟨1, 3⟩) (meth := k1m3) (c := k1c3) (by decide +kernel) rfl rfl rfl (by decide +kernel)
set_option maxRecDepth 65536 in
theorem w_c7 : (Jvm.Cond.code ({ cls := "com/example/markup_to_tree/markuptotree/parser/EntityText$Offsets", name := "before", desc := "(I)I" } : Jvm.MethodName) prog_75_method_5_code (5 : Nat) (Option.some Jvm.ClassFile.FieldType.int)).before args0 about1 = true := code_word (m := ⟨3, 2⟩) (meth := k3m2) (c := k3c2) (by decide +kernel) rfl rfl rfl (by decide +kernel)
set_option maxRecDepth 65536 in
theorem w_c8 : (Jvm.Cond.code ({ cls := "com/example/markup_to_tree/markuptotree/parser/EntityText$Offsets", name := "add", desc := "(I)V" } : Jvm.MethodName) prog_75_method_2_code (2 : Nat) (Option.none : Option Jvm.ClassFile.FieldType)).before args0 about1 = true := code_word (m := ⟨3, 1⟩) (meth := k3m1) (c := k3c1) (by decide +kernel) rfl rfl rfl (by decide +kernel)
def codes1 : List Jvm.Cond := [Jvm.Cond.code x code maxLocals ret, Jvm.Cond.code ({ cls := "com/example/markup_to_tree/markuptotree/parser/OffsetsBeforePinLaw", name := "next", desc := "(IJI)I" } : Jvm.MethodName) method_3_code (6 : Nat) (Option.some Jvm.ClassFile.FieldType.int), Jvm.Cond.code ({ cls := "java/lang/Math", name := "min", desc := "(JJ)J" } : Jvm.MethodName) jdk_29_method_70_code (4 : Nat) (Option.some Jvm.ClassFile.FieldType.long), Jvm.Cond.code ({ cls := "java/lang/Math", name := "max", desc := "(JJ)J" } : Jvm.MethodName) jdk_29_method_66_code (4 : Nat) (Option.some Jvm.ClassFile.FieldType.long), Jvm.Cond.code ({ cls := "com/example/markup_to_tree/markuptotree/parser/EntityText$Offsets", name := "<init>", desc := "(Z)V" } : Jvm.MethodName) prog_75_method_1_code (2 : Nat) (Option.none : Option Jvm.ClassFile.FieldType), Jvm.Cond.code ({ cls := "java/lang/Object", name := "<init>", desc := "()V" } : Jvm.MethodName) object_method_1_code (1 : Nat) (Option.none : Option Jvm.ClassFile.FieldType), Jvm.Cond.code ({ cls := "com/example/markup_to_tree/markuptotree/parser/OffsetsBeforePinLaw", name := "below", desc := "(IIII)I" } : Jvm.MethodName) method_4_code (4 : Nat) (Option.some Jvm.ClassFile.FieldType.int), Jvm.Cond.code ({ cls := "com/example/markup_to_tree/markuptotree/parser/EntityText$Offsets", name := "before", desc := "(I)I" } : Jvm.MethodName) prog_75_method_5_code (5 : Nat) (Option.some Jvm.ClassFile.FieldType.int), Jvm.Cond.code ({ cls := "com/example/markup_to_tree/markuptotree/parser/EntityText$Offsets", name := "add", desc := "(I)V" } : Jvm.MethodName) prog_75_method_2_code (2 : Nat) (Option.none : Option Jvm.ClassFile.FieldType)]
set_option maxRecDepth 65536 in
theorem codes_eq : words1.filter isCode = codes1 := rfl
theorem w_codes : ∀ c ∈ words1.filter isCode, c.before args0 about1 = true := by
  rw [codes_eq]
  intro c hc
  simp only [codes1, List.mem_cons, List.not_mem_nil, or_false] at hc
  rcases hc with rfl | rfl | rfl | rfl | rfl | rfl | rfl | rfl | rfl
  · exact w_c0
  · exact w_c1
  · exact w_c2
  · exact w_c3
  · exact w_c4
  · exact w_c5
  · exact w_c6
  · exact w_c7
  · exact w_c8
set_option maxRecDepth 65536 in
theorem w_t1 : (words1.take 24).all (fun c => isCode c || c.before args0 about1) = true := by decide +kernel
set_option maxRecDepth 65536 in
theorem w_t2 : (words1.drop 24).all (fun c => isCode c || c.before args0 about1) = true := by decide +kernel
theorem w_tables : (allAtoms (Jvm.Cond.code x code maxLocals ret :: tables_1)).before args0 about1 = true := by
  rw [allAtoms_all]
  show words1.all (fun c => c.before args0 about1) = true
  refine all_split ?_ w_codes
  rw [← List.take_append_drop 24 words1, List.all_append, w_t1, w_t2]
  rfl
set_option maxRecDepth 65536 in
theorem w_case : (Jvm.Cond.and given_1 narrow_1).before args0 about1 = true := by decide +kernel
theorem w_applies : (headSpec (Jvm.Cond.code x code maxLocals ret :: tables_1) room_1).applies x e0.platform about1 = true :=
  (Spec.applies_iff w_frames).mpr ⟨w_running, w_runnable, w_alone, w_named, w_hears, w_ripe, w_room, w_tables⟩
theorem atStart : AtStart classFile x code maxLocals ret World_1 tables_1 room_1 Calls_1 rest_1 Pre_1 launch0 p0 e0 about1 theMethod args0 below0 :=
  ⟨lists_1, trivial, launch0.admits_env _ _ _, launch0.least_env, fairChoices_fair.cas, fairChoices_fair.clock, w_frames, w_args, w_heap, w_applies, trivial, trivial, w_case⟩
end start1
theorem witness_1 : WitnessClaimed_1 := ⟨start1.p0, start1.e0, start1.about1, start1.theMethod, start1.args0, start1.below0, start1.atStart⟩
end Jvm.Pilot.@@N@@
