import PyProof.Rows.All
import Wide.All
import OpenK.AllK
import Wide.FinOn
import PyProof.Draws
import PyProof.WalksMore
import PyProof.NsDelKeeps
import PyProof.RulesAs
import PyProof.ExcArgs
import PyProof.Rows.Catch
import PySem.Challenge.RW_op0086_01
set_option Elab.async false
set_option maxHeartbeats 0
set_option tactic.hygienic false
set_option compiler.extract_closed false
set_option maxRecDepth 100000
set_option linter.all false
namespace Mine
open PySem PySem.Calls
theorem jA {α : Type} {a : α} {s t : List α} : a ∈ s ++ t ↔ a ∈ s \/ a ∈ t := List.mem_append
theorem jS {α : Type} {a b : α} : a ∈ [b] ↔ a = b := List.mem_singleton
theorem jC {α : Type} {a : α} {l : List α} : a ∈ a :: l := List.mem_cons_self
theorem jT {α : Type} {a : α} (y : α) {l : List α} : a ∈ l -> a ∈ y :: l := List.mem_cons_of_mem y
theorem jM {α β : Type} {f : α -> β} {l : List α} {b : β} : b ∈ l.map f ↔ ∃ a, a ∈ l /\ f a = b := List.mem_map
theorem jK {α : Type} {a b : α} {l : List α} : a ∈ b :: l ↔ a = b \/ a ∈ l := List.mem_cons
theorem kA {α : Type} {a : α} {s t : List α} : a :: s ++ t = a :: (s ++ t) := rfl
theorem kN {α : Type} {s : List α} : [] ++ s = s := rfl
theorem jB {α β : Type} {M : Model} {A : Around} {m : Sem α} {f : α -> Sem β} {Q : β -> Shared -> Prop} {E : Value -> Shared -> Prop} {s : Shared} (h : wpAny M A m (fun a s' => wpAny M A (f a) Q E s') E s) : wpAny M A (m >>= f) Q E s := wpAny_bind h
theorem jP {α : Type} {M : Model} {A : Around} {a : α} {Q : α -> Shared -> Prop} {E : Value -> Shared -> Prop} {s : Shared} (h : Q a s) : wpAny M A (pure a) Q E s := wpAny_pure h
def tA : Lean.Syntax := Lean.Unhygienic.run `(Lean.Parser.Tactic.tacticSeq| first | kernel_rfl | (intros; first | rfl | exact ⟨_, rfl⟩ | size_fits | decide +kernel) | walk_at "v")

section
theorem bc {p : Prop} (h : ¬p -> False) : p := Classical.byContradiction h
noncomputable abbrev N (s : String) : Str := Str.ofString s
inductive D where
 | none
 | bool (b : Bool)
 | int (i : Int)
 | str (x : Str)
 | bytes (b : Array UInt8)
 | tuple (ds : List D)
 | list (ds : List D)
 | raw (v : Value)
 | range (a b c : Int)
 | slice (l u st : Option Int)
abbrev Gam := List (Str × D)
abbrev Mut := List (Addr × List D)
abbrev VP := Value -> Shared -> Prop
abbrev SV := Str -> Option Value
noncomputable def listO (vs : Array Value) (n : Nat) : Obj := { cls := .type "list", data := .seq vs n }
noncomputable def tupO (vs : Array Value) (n : Nat) : Obj := { cls := .type "tuple", data := .seq vs n }
mutual
inductive At (X : List Addr) (h : Heap) : Value -> D -> Prop
 | none : At X h .none .none
 | bool (b : Bool) : At X h (.bool b) (.bool b)
 | int (i : Int) (t : Tok) : At X h (.int i t) (.int i)
 | str (x : Str) (t : Tok) : At X h (.str x t) (.str x)
 | bytes (b : Array UInt8) (t : Tok) : At X h (.bytes b t) (.bytes b)
 | raw (v : Value) : At X h v (.raw v)
 | range {r : Addr} {a b c : Int} {t u v : Tok} : r ∉ X -> h.get? r = some { cls := .type "range", data := .fields #[.int a t, .int b u, .int c v] } -> At X h (.ref r) (.range a b c)
 | slice {r : Addr} {vl vu vs : Value} {l u st : Option Int} : r ∉ X -> h.get? r = some { cls := .type "slice", data := .fields #[vl, vu, vs] } -> IsPart vl l -> IsPart vu u -> IsPart vs st -> At X h (.ref r) (.slice l u st)
 | tuple {a : Addr} {vs : Array Value} {n : Nat} {ds : List D} : a ∉ X -> h.get? a = some (tupO vs n) -> Ats X h vs.toList ds -> At X h (.ref a) (.tuple ds)
 | list {a : Addr} {vs : Array Value} {n : Nat} {ds : List D} : a ∉ X -> h.get? a = some (listO vs n) -> Ats X h vs.toList ds -> At X h (.ref a) (.list ds)
inductive Ats (X : List Addr) (h : Heap) : List Value -> List D -> Prop
 | nil : Ats X h [] []
 | cons {v : Value} {vs : List Value} {d : D} {ds : List D} : At X h v d -> Ats X h vs ds -> Ats X h (v :: vs) (d :: ds)
end
noncomputable def Ext (h h' : Heap) : Prop := ∀ b o, h.get? b = some o -> h'.get? b = some o
noncomputable def Off (X : List Addr) (h h' : Heap) : Prop := ∀ b o, b ∉ X -> h.get? b = some o -> h'.get? b = some o
theorem Ext.refl (h : Heap) : Ext h h := fun zz zz e => e
theorem Ext.trans {h h' h'' : Heap} (a : Ext h h') (b : Ext h' h'') : Ext h h'' := fun x o e => b x o (a x o e)
theorem Ext.push (h : Heap) (o : Obj) : Ext h (h.push o) := fun zz zz e => Heap.get?_push_of_some _ e
theorem Ext.off {X : List Addr} {h h' : Heap} (a : Ext h h') : Off X h h' := fun b o zz e => a b o e
theorem Off.refl (X : List Addr) (h : Heap) : Off X h h := fun zz zz zz e => e
theorem Off.trans {X : List Addr} {h h' h'' : Heap} (a : Off X h h') (b : Off X h' h'') : Off X h h'' := fun x o hx e => b x o hx (a x o hx e)
theorem Off.mono {X Y : List Addr} {h h' : Heap} (a : Off X h h') (hs : ∀ x ∈ X, x ∈ Y) : Off Y h h' := fun x o hx e => a x o (fun m => hx (hs x m)) e
theorem Off.then {X Y : List Addr} {h h' h'' : Heap} (a : Off X h h') (b : Off Y h' h'') (hs : ∀ y ∈ Y, y ∈ X \/ h.get? y = .none) : Off X h h'' := fun x o hx e =>
 b x o (fun m => (hs x m).elim hx fun n => by rw [n] at e; cases e) (a x o hx e)
theorem Off.ext {h h' : Heap} (a : Off [] h h') : Ext h h' := fun x o e => a x o (fun m => nomatch m) e
theorem same_off {a : Addr} {h h' : Heap} (s : Heap.SameBut a h h') : Off [a] h h' := fun b o hb e => (s.2 b (fun e' => hb (e' ▸ jS.2 rfl))).trans e
theorem At.move {X X' : List Addr} {h h' : Heap} (hk : ∀ b o, b ∉ X -> h.get? b = some o -> b ∉ X' /\ h'.get? b = some o) {v : Value} {d : D} (a : At X h v d) : At X' h' v d :=
 At.rec (motive_1 := fun v d zz => At X' h' v d) (motive_2 := fun vs ds zz => Ats X' h' vs ds) .none (fun b => .bool b) (fun i t => .int i t) (fun x t => .str x t) (fun b t => .bytes b t) (fun v => .raw v) (fun hx e => .range (hk _ _ hx e).1 (hk _ _ hx e).2) (fun hx e a b c => .slice (hk _ _ hx e).1 (hk _ _ hx e).2 a b c) (fun hx e zz r => .tuple (hk _ _ hx e).1 (hk _ _ hx e).2 r) (fun hx e zz r => .list (hk _ _ hx e).1 (hk _ _ hx e).2 r) .nil (fun zz zz a r => .cons a r) a
theorem Ats.move {X X' : List Addr} {h h' : Heap} (hk : ∀ b o, b ∉ X -> h.get? b = some o -> b ∉ X' /\ h'.get? b = some o) {vs : List Value} {ds : List D} (a : Ats X h vs ds) : Ats X' h' vs ds :=
 Ats.rec (motive_1 := fun v d zz => At X' h' v d) (motive_2 := fun vs ds zz => Ats X' h' vs ds) .none (fun b => .bool b) (fun i t => .int i t) (fun x t => .str x t) (fun b t => .bytes b t) (fun v => .raw v) (fun hx e => .range (hk _ _ hx e).1 (hk _ _ hx e).2) (fun hx e a b c => .slice (hk _ _ hx e).1 (hk _ _ hx e).2 a b c) (fun hx e zz r => .tuple (hk _ _ hx e).1 (hk _ _ hx e).2 r) (fun hx e zz r => .list (hk _ _ hx e).1 (hk _ _ hx e).2 r) .nil (fun zz zz a r => .cons a r) a
section
variable {X X' : List Addr} {h h' : Heap} {v : Value} {d : D} {vs ws : List Value} {ds es : List D}
theorem At.ext (a : At X h v d) (e : Ext h h') : At X h' v d := a.move fun b o hb x => ⟨hb, e b o x⟩
theorem Ats.ext (a : Ats X h vs ds) (e : Ext h h') : Ats X h' vs ds := a.move fun b o hb x => ⟨hb, e b o x⟩
theorem At.off (a : At X h v d) (e : Off X h h') : At X h' v d := a.move fun b o hb x => ⟨hb, e b o hb x⟩
theorem Ats.off (a : Ats X h vs ds) (e : Off X h h') : Ats X h' vs ds := a.move fun b o hb x => ⟨hb, e b o hb x⟩
theorem At.sub (a : At X h v d) (s : ∀ y ∈ X', y ∈ X) : At X' h v d := a.move fun b o hb x => ⟨fun m => hb (s b m), x⟩
theorem Ats.sub (a : Ats X h vs ds) (s : ∀ y ∈ X', y ∈ X) : Ats X' h vs ds := a.move fun b o hb x => ⟨fun m => hb (s b m), x⟩
theorem At.more (a : At X h v d) (s : ∀ y ∈ X', y ∈ X \/ h.get? y = .none) : At X' h v d := a.move fun b o hb x => ⟨fun m => (s b m).elim hb fun n => (by rw [n] at x; cases x), x⟩
theorem Ats.more (a : Ats X h vs ds) (s : ∀ y ∈ X', y ∈ X \/ h.get? y = .none) : Ats X' h vs ds := a.move fun b o hb x => ⟨fun m => (s b m).elim hb fun n => (by rw [n] at x; cases x), x⟩
inductive ListIs (X : List Addr) (h : Heap) (v : Value) (ds : List D) : Prop
 | mk (l : Addr) (vs : Array Value) (n : Nat) (e : v = .ref l) (x : l ∉ X) (g : h.get? l = some (listO vs n)) (r : Ats X h vs.toList ds) : ListIs X h v ds
inductive TupIs (X : List Addr) (h : Heap) (v : Value) (ds : List D) : Prop
 | mk (l : Addr) (vs : Array Value) (n : Nat) (e : v = .ref l) (x : l ∉ X) (g : h.get? l = some (tupO vs n)) (r : Ats X h vs.toList ds) : TupIs X h v ds
inductive AtsIs (X : List Addr) (h : Heap) (vs : List Value) (d : D) (ds : List D) : Prop
 | mk (v : Value) (ws : List Value) (e : vs = v :: ws) (x : At X h v d) (r : Ats X h ws ds) : AtsIs X h vs d ds
noncomputable def AtV (X : List Addr) (h : Heap) (v : Value) : D -> Prop
 | .none => v = .none
 | .bool b => v = .bool b
 | .int i => ∃ t, v = .int i t
 | .str x => ∃ t, v = .str x t
 | .bytes b => ∃ t, v = .bytes b t
 | .raw u => v = u
 | .range a b c => ∃ r t u w, v = .ref r /\ r ∉ X /\ h.get? r = some { cls := .type "range", data := .fields #[.int a t, .int b u, .int c w] }
 | .slice l u st => ∃ r vl vu vs, v = .ref r /\ h.IsSliceOf r vl vu vs /\ IsPart vl l /\ IsPart vu u /\ IsPart vs st
 | .tuple ds => TupIs X h v ds
 | .list ds => ListIs X h v ds
noncomputable def AtsV (X : List Addr) (h : Heap) (vs : List Value) : List D -> Prop
 | [] => vs = []
 | d :: ds => AtsIs X h vs d ds
theorem At.inv (a : At X h v d) : AtV X h v d := At.casesOn (motive_1 := fun v d zz => AtV X h v d) a rfl (fun zz => rfl) (fun zz t => ⟨t, rfl⟩) (fun zz t => ⟨t, rfl⟩) (fun zz t => ⟨t, rfl⟩) (fun zz => rfl) (fun x e => ⟨_, _, _, _, rfl, x, e⟩) (fun zz e a b c => ⟨_, _, _, _, rfl, ⟨_, e, rfl, rfl⟩, a, b, c⟩) (fun x e r => ⟨_, _, _, rfl, x, e, r⟩) (fun x e r => ⟨_, _, _, rfl, x, e, r⟩)
theorem Ats.inv (a : Ats X h vs ds) : AtsV X h vs ds := Ats.casesOn (motive_2 := fun vs ds zz => AtsV X h vs ds) a rfl (fun x r => ⟨_, _, rfl, x, r⟩)
theorem Ats.nil_ (a : Ats X h vs []) : vs = [] := a.inv
theorem Ats.cons_ (a : Ats X h vs (d :: ds)) : AtsIs X h vs d ds := a.inv
theorem At.bool_ {b : Bool} (a : At X h v (.bool b)) : v = .bool b := a.inv
theorem At.raw_ {u : Value} (a : At X h v (.raw u)) : v = u := a.inv
theorem At.int_ {i : Int} (a : At X h v (.int i)) : ∃ t, v = .int i t := a.inv
theorem At.str_ {x : Str} (a : At X h v (.str x)) : ∃ t, v = .str x t := a.inv
theorem At.bytes_ {x : Array UInt8} (a : At X h v (.bytes x)) : ∃ t, v = .bytes x t := a.inv
theorem At.range_ {i j c : Int} (a : At X h v (.range i j c)) : ∃ r t u w, v = .ref r /\ r ∉ X /\ h.get? r = some { cls := .type "range", data := .fields #[.int i t, .int j u, .int c w] } := a.inv
theorem At.list_ (a : At X h v (.list ds)) : ListIs X h v ds := a.inv
theorem At.tuple_ (a : At X h v (.tuple ds)) : TupIs X h v ds := a.inv
theorem At.slice_ {l u st : Option Int} (a : At X h v (.slice l u st)) : ∃ r vl vu vs, v = .ref r /\ h.IsSliceOf r vl vu vs /\ IsPart vl l /\ IsPart vu u /\ IsPart vs st := a.inv
theorem Ats.length (a : Ats X h vs ds) : vs.length = ds.length := Ats.rec (motive_1 := fun zz zz zz => True) (motive_2 := fun vs ds _ => vs.length = ds.length) trivial (fun zz => trivial) (fun zz zz => trivial) (fun zz zz => trivial) (fun zz zz => trivial) (fun zz => trivial) (fun zz zz => trivial) (fun zz zz zz zz zz => trivial) (fun zz zz zz zz => trivial) (fun zz zz zz zz => trivial) rfl (fun _ _ _ e => congrArg (· + 1) e) a
theorem Ats.append (a : Ats X h vs ds) (b : Ats X h ws es) : Ats X h (vs ++ ws) (ds ++ es) := Ats.rec (motive_1 := fun zz zz zz => True) (motive_2 := fun vs ds _ => Ats X h (vs ++ ws) (ds ++ es)) trivial (fun zz => trivial) (fun zz zz => trivial) (fun zz zz => trivial) (fun zz zz => trivial) (fun zz => trivial) (fun zz zz => trivial) (fun zz zz zz zz zz => trivial) (fun zz zz zz zz => trivial) (fun zz zz zz zz => trivial) b (fun x zz zz e => .cons x e) a
theorem Ats.one (a : At X h v d) : Ats X h [v] [d] := .cons a .nil
theorem Ats.push (a : Ats X h vs ds) (b : At X h v d) : Ats X h (vs ++ [v]) (ds ++ [d]) := a.append (.one b)
theorem Ats.get (a : Ats X h vs ds) {k : Nat} {d : D} (hk : ds[k]? = some d) : ∃ v, vs[k]? = some v /\ At X h v d := by
 induction ds generalizing vs k with
 | nil => simp at hk
 | cons d' ds ih =>
  obtain ⟨v, ws, rfl, x, r⟩ := a.cons_
  cases k with
  | zero => simp at hk; subst hk; exact ⟨v, rfl, x⟩
  | succ k => simpa using ih r (by simpa using hk)
theorem Ats.get' (a : Ats X h vs ds) {k : Nat} {v : Value} (hk : vs[k]? = some v) : ∃ d, ds[k]? = some d /\ At X h v d := by
 induction ds generalizing vs k with
 | nil => rw [a.nil_] at hk; simp at hk
 | cons d' ds ih =>
  obtain ⟨v', ws, rfl, x, r⟩ := a.cons_
  cases k with
  | zero => simp at hk; subst hk; exact ⟨_, rfl, x⟩
  | succ k => simpa using ih r (by simpa using hk)
theorem Ats.drop (a : Ats X h vs ds) (k : Nat) : Ats X h (vs.drop k) (ds.drop k) := by
 induction k generalizing vs ds with
 | zero => exact a
 | succ k ih => cases ds with
  | nil => rw [a.nil_]; exact .nil
  | cons d ds => obtain ⟨_, _, rfl, _, r⟩ := a.cons_; exact ih r
theorem Ats.take (a : Ats X h vs ds) (k : Nat) : Ats X h (vs.take k) (ds.take k) := by
 induction k generalizing vs ds with
 | zero => rw [List.take_zero, List.take_zero]; exact .nil
 | succ k ih => cases ds with
  | nil => rw [a.nil_]; exact .nil
  | cons d ds => obtain ⟨_, _, rfl, x, r⟩ := a.cons_; exact .cons x (ih r)
theorem Ats.one_ (a : Ats X h vs [d]) : ∃ v, vs = [v] /\ At X h v d := by
 obtain ⟨v, _, rfl, x, r⟩ := a.cons_; rw [r.nil_]; exact ⟨_, rfl, x⟩
theorem Ats.two_ {e : D} (a : Ats X h vs [d, e]) : ∃ v u, vs = [v, u] /\ At X h v d /\ At X h u e := by
 obtain ⟨v, _, rfl, x, r⟩ := a.cons_; obtain ⟨u, rfl, y⟩ := r.one_; exact ⟨_, _, rfl, x, y⟩
theorem Ats.three_ {e f : D} (a : Ats X h vs [d, e, f]) : ∃ v u t, vs = [v, u, t] /\ At X h v d /\ At X h u e /\ At X h t f := by
 obtain ⟨v, _, rfl, x, r⟩ := a.cons_; obtain ⟨u, t, rfl, y, z⟩ := r.two_; exact ⟨_, _, _, rfl, x, y, z⟩
end
noncomputable def Var (U : Env) (h : Heap) (x : Str) (v : Value) : Prop :=
 (U.kindOf x = some .local /\ ∃ m, h.Ns U.locals m /\ m x = some v) \/
 ((U.kindOf x = some .cell \/ U.kindOf x = some .free) /\ ∃ c, U.cells.lookup x = some c /\ h.IsCell c (some v))
noncomputable def own (U : Env) (M : Mut) : List Addr := U.locals :: U.cells.map (·.2) ++ M.map (·.1)
structure EnvOk (U : Env) (h : Heap) : Prop where
 ns : ∃ m, h.Ns U.locals m
 cell : ∀ p ∈ U.cells, ∃ ov, h.IsCell p.2 ov
 apart : U.cells.Pairwise fun x y => x.2 ≠ y.2
 off : ∀ p ∈ U.cells, p.2 ≠ U.locals
structure EnvG (sc : Scope) (U : Env) : Prop where
 scope : U.scope = sc
 kind : sc.kind = .function
 globals : U.globals = mainGlobals
 builtins : U.builtins = builtinsNs
 cel : ∀ x, (sc.names.lookup x = some .cell \/ sc.names.lookup x = some .free) -> (U.cells.lookup x).isSome = true
inductive LAt (X : List Addr) (h : Heap) (a : Addr) (ds : List D) : Prop
 | mk (vs : Array Value) (n : Nat) (g : h.get? a = some (listO vs n)) (r : Ats X h vs.toList ds) : LAt X h a ds
theorem LAt.at_ {X : List Addr} {h : Heap} {a : Addr} {ds : List D} (l : LAt X h a ds) : LAt X h a ds := l
structure St (ba : Heap) (B : List Addr) (U : Env) (Γ : Gam) (M : Mut) (h : Heap) : Prop where
 keep : Ext ba h
 ok : EnvOk U h
 var : ∀ x d, Γ.lookup x = some d -> ∃ v, Var U h x v /\ At (B ++ own U M) h v d
 muts : ∀ p ∈ M, LAt (B ++ own U M) h p.1 p.2
 nod : (M.map (·.1)).Nodup
 dis : ∀ a ∈ M.map (·.1), a ≠ U.locals /\ a ∉ U.cells.map (·.2)
 bdis : ∀ a ∈ B, a ∉ own U M
 live : ∀ a ∈ B, ∃ o, h.get? a = some o
 out : ∀ a ∈ B ++ own U M, ba.get? a = .none
theorem Var.keep {U : Env} {h h' : Heap} {x : Str} {v : Value} (a : Var U h x v) (hk : ∀ b o, b = U.locals \/ b ∈ U.cells.map (·.2) -> h.get? b = some o -> h'.get? b = some o) : Var U h' x v := by
 rcases a with ⟨k, m, hn, hm⟩ | ⟨k, c, hc, o, ho, hd⟩
 ·obtain ⟨o, es, ep, e, r⟩ := hn
  exact .inl ⟨k, m, ⟨o, es, ep, hk _ _ (.inl rfl) e, r⟩, hm⟩
 ·exact .inr ⟨k, c, hc, o, hk _ _ (.inr (jM.2 ⟨_, mem_of_lookup hc, rfl⟩)) ho, hd⟩
theorem EnvOk.keep {U : Env} {h h' : Heap} (a : EnvOk U h) (hk : ∀ b o, b = U.locals \/ b ∈ U.cells.map (·.2) -> h.get? b = some o -> h'.get? b = some o) : EnvOk U h' where
 ns := let ⟨m, o, es, ep, e, r⟩ := a.ns; ⟨m, o, es, ep, hk _ _ (.inl rfl) e, r⟩
 cell := fun p hp => let ⟨ov, o, e, r⟩ := a.cell p hp; ⟨ov, o, hk _ _ (.inr (jM.2 ⟨p, hp, rfl⟩)) e, r⟩
 apart := a.apart
 off := a.off
theorem LAt.ext {X : List Addr} {h h' : Heap} {a : Addr} {ds : List D} (l : LAt X h a ds) (e : Ext h h') : LAt X h' a ds := let ⟨vs, n, g, r⟩ := l.at_; ⟨vs, n, e _ _ g, r.ext e⟩
theorem St.ext {ba : Heap} {B : List Addr} {U : Env} {Γ : Gam} {M : Mut} {h h' : Heap} (s : St ba B U Γ M h) (e : Ext h h') : St ba B U Γ M h' where
 keep := s.keep.trans e
 ok := s.ok.keep fun b o zz x => e b o x
 var := fun x d hx => let ⟨v, a, b⟩ := s.var x d hx; ⟨v, a.keep fun b o zz x => e b o x, b.ext e⟩
 muts := fun p hp => (s.muts p hp).ext e
 nod := s.nod
 dis := s.dis
 bdis := s.bdis
 live := fun a ha => let ⟨o, x⟩ := s.live a ha; ⟨o, e _ _ x⟩
 out := s.out
theorem St.allLive {ba : Heap} {B : List Addr} {U : Env} {Γ : Gam} {M : Mut} {h : Heap} (s : St ba B U Γ M h) : ∀ a ∈ B ++ own U M, ∃ o, h.get? a = some o := by
 intro a ha
 rcases jA.1 ha with ha | ha
 ·exact s.live a ha
 ·rcases jA.1 ha with ha | ha
  ·rcases jK.1 ha with rfl | ha
   ·obtain ⟨m, o, es, ep, e, _⟩ := s.ok.ns; exact ⟨o, e⟩
   ·obtain ⟨p, hp, rfl⟩ := jM.1 ha
    obtain ⟨_, o, e, _⟩ := s.ok.cell p hp; exact ⟨o, e⟩
  ·obtain ⟨p, hp, rfl⟩ := jM.1 ha
   obtain ⟨vs, n, e, _⟩ := (s.muts p hp).at_; exact ⟨_, e⟩
structure Ok (ba : Heap) (X : List Addr) (h : Heap) : Prop where
 keep : Ext ba h
 live : ∀ a ∈ X, ∃ o, h.get? a = some o
 out : ∀ a ∈ X, ba.get? a = .none
theorem St.toOk {ba : Heap} {B : List Addr} {U : Env} {Γ : Gam} {M : Mut} {h : Heap} (s : St ba B U Γ M h) : Ok ba (B ++ own U M) h := ⟨s.keep, s.allLive, s.out⟩
theorem fresh_none (h : Heap) : h.get? h.objs.size = .none := by
 cases e : h.get? h.objs.size with
 | none => rfl
 | some o => exact absurd (Heap.lt_size e) (Nat.lt_irrefl _)
theorem Ok.fresh {ba : Heap} {X : List Addr} {h : Heap} (o : Ok ba X h) : h.objs.size ∉ X := fun m => by
 obtain ⟨x, e⟩ := o.live _ m; rw [fresh_none] at e; cases e
structure Room (q : Bool) (k : Nat) (A : Around) : Prop where
 hd : q = true -> A.handled = .none
 depth : A.depth + k < recursionLimit
 units : A.units + 3 * k + 90 < cLine
noncomputable def Pu (pg : Program) (w : World) (q : Bool) (k : Nat) (t : Sem Value) (X : List Addr) (s : Shared) (d : D) : Prop :=
 ∀ (A : Around) (Q : VP) (E : VP), Room q k A ->
  (∀ v h' tk, Ext s.heap h' -> At X h' v d -> Q v { s with heap := h', toks := tk }) -> wpAny (model pg w) A t Q E s
noncomputable def Fun2 (pg : Program) (w : World) (ba : Heap) (q : Bool) (k : Nat) (f : Value -> Value -> Sem Value) (d_1 d_2 d : D) : Prop :=
 ∀ (s : Shared) (X : List Addr) (v_1 v_2 : Value), Ok ba X s.heap -> At X s.heap v_1 d_1 -> At X s.heap v_2 d_2 -> Pu pg w q k (f v_1 v_2) X s d
noncomputable def FunN (pg : Program) (w : World) (ba : Heap) (q : Bool) (k : Nat) (f : List Value -> Sem Value) (ds : List D) (d : D) : Prop :=
 ∀ (s : Shared) (X : List Addr) (vs : List Value), Ok ba X s.heap -> Ats X s.heap vs ds -> Pu pg w q k (f vs) X s d
noncomputable def Ev (pg : Program) (w : World) (ba : Heap) (q : Bool) (k : Nat) (sc : Scope) (Γ : Gam) (e : Expr) (d : D) : Prop :=
 ∀ (U : Env) (s : Shared) (B : List Addr) (M : Mut), EnvG sc U -> St ba B U Γ M s.heap -> Pu pg w q k (eval e U) (B ++ own U M) s d
noncomputable def Tr (pg : Program) (w : World) (ba : Heap) (q : Bool) (k : Nat) (sc : Scope) (Γ : Gam) (e : Expr) (b : Bool) : Prop :=
 ∀ (U : Env) (s : Shared) (B : List Addr) (M : Mut) (A : Around) (Q : Bool -> Shared -> Prop) (E : VP),
  EnvG sc U -> St ba B U Γ M s.heap -> Room q k A -> (∀ h' tk, Ext s.heap h' -> Q b { s with heap := h', toks := tk }) -> wpAny (model pg w) A (isTrue e U (eval e U)) Q E s
end
variable {pg : Program} {w : World} {ba : Heap} {mg : SV} {mb : SV} {sc : Scope} {Γ : Gam} {Γ' : Gam} {U : Env} {B : List Addr} {q : Bool} {csc : Scope} {pos : Pos} {ds : List D} {h : Heap} {h' : Heap} {X : List Addr} {A : Around} {s : Shared} {α : Type} {k : Nat} {n : Nat} {ss : List Stmt} {a : Addr} {v : Value} {vs : List Value} {c : Bool} {d : D} {x : Str} {i : Nat} {M : Mut} {E : VP} {xs : List α} {body : List Stmt} {enc : α -> D} {e : Expr} {g : List Nat} {target : Expr} {elt : Expr} {value : Expr} {iter : Expr} {px : Pos} {Z : List Addr} {R : Out -> Gam -> Mut -> Prop} {RE : String -> D -> Gam -> Mut -> Prop} {ok : α -> Prop}
section
structure Gl (ba : Heap) (mg mb : SV) : Prop where
 g : ba.Ns mainGlobals mg
 b : ba.Ns builtinsNs mb
 nolimit : ba.NoLimit
theorem Room.mono {k' : Nat} (r : Room q k A) (h : k' <= k) : Room q k' A := ⟨r.hd, by have := r.depth; lia, by have := r.units; lia⟩
theorem Room.deeper (r : Room q (k + 1) A) (U : Env) : Room q k (A.deeper U) :=
 ⟨r.hd, by have := r.depth; show A.depth + 1 + k < recursionLimit; lia, by have := r.units; show A.units + 3 + 3 * k + 90 < cLine; lia⟩
theorem Room.u (r : Room q k A) : A.units < cLine := by have := r.units; lia
theorem Room.u64 (r : Room q k A) : A.units + 64 < cLine := by have := r.units; lia
section
theorem Var.load {M : Model} {Q : VP} (G : EnvG sc U) (hv : Var U s.heap x v) (hn : (x == ("__classdict__" : Str)) = false) (h : Q v s) :
  wpAny M A (loadName U x) Q E s := by
 have hk : U.scope.kind = .function := by rw [G.scope]; exact G.kind
 rcases hv with ⟨hl, m, hm, e⟩ | ⟨hl | hl, c, hc, hcell⟩
 ·exact wpAny_loadName_local hk hl hm e h
 ·exact wpAny_loadName_cell hk hl hc hcell h
 ·exact wpAny_loadName_free hk hl hc hcell h hn
theorem Pu.bind {t : Sem Value} (h : Pu pg w q k t X s d) (R : Room q k A) {Q : VP}
  (hQ : ∀ v h' tk, Ext s.heap h' -> At X h' v d -> Q v { s with heap := h', toks := tk }) : wpAny (model pg w) A t Q E s := h A Q E R hQ
theorem Pu.bindR {t : Sem Value} {u : Value} (h : Pu pg w q k t X s (.raw u)) (R : Room q k A) {Q : VP}
  (hQ : ∀ h' tk, Ext s.heap h' -> Q u { s with heap := h', toks := tk }) : wpAny (model pg w) A t Q E s := h A Q E R fun v h' tk e a => a.raw_ ▸ hQ h' tk e
theorem Pu.bindB {t : Sem Value} {b : Bool} (h : Pu pg w q k t X s (.bool b)) (R : Room q k A) {Q : VP}
  (hQ : ∀ h' tk, Ext s.heap h' -> Q (.bool b) { s with heap := h', toks := tk }) : wpAny (model pg w) A t Q E s := h A Q E R fun v h' tk e a => a.bool_ ▸ hQ h' tk e
theorem Pu.up {t : Sem Value} {k' : Nat} (h : Pu pg w q k t X s d) (hk : k <= k') : Pu pg w q k' t X s d := fun A Q E R hQ => h A Q E (R.mono hk) hQ
theorem Ev.var (h : Γ.lookup x = some d) (hx : (x == ("__debug__" : Str) || x == ("__classdict__" : Str)) = false) : Ev pg w ba q k sc Γ (.Name x pos) d := by
 intro U s B M G S A Q E R hQ
 rw [Bool.or_eq_false_iff] at hx
 obtain ⟨v, hv, ha⟩ := S.var x d h
 exact wpAny_Name (hv.load G hx.2 (hQ v s.heap s.toks (Ext.refl _) ha)) hx.1
theorem Ev.glob (L : Gl ba mg mb) (hx : sc.names.lookup x = some .globalImplicit) (hg : mg x = some v) (hd : (x == ("__debug__" : Str)) = false) : Ev pg w ba q k sc Γ (.Name x pos) (.raw v) := by
 intro U s B M G S A Q E R hQ
 refine Name_function_global (by rw [G.scope]; exact G.kind) (by rw [Env.kindOf, G.scope]; exact hx) (loadGlobal_global (by rw [G.globals]; exact L.g.keeps S.keep) hg (hQ v s.heap s.toks (Ext.refl _) (.raw v))) hd
theorem Ev.bi (L : Gl ba mg mb) (hx : sc.names.lookup x = some .globalImplicit) (hm : mg x = none) (hg : mb x = some v) (hd : (x == ("__debug__" : Str)) = false) : Ev pg w ba q k sc Γ (.Name x pos) (.raw v) := by
 intro U s B M G S A Q E R hQ
 refine Name_function_global (by rw [G.scope]; exact G.kind) (by rw [Env.kindOf, G.scope]; exact hx) (loadGlobal_builtin (by rw [G.globals]; exact L.g.keeps S.keep) hm (by rw [G.builtins]; exact L.b.keeps S.keep) hg (hQ v s.heap s.toks (Ext.refl _) (.raw v))) hd
theorem Ev.int {i : Int} {c : Nat} : Ev pg w ba q k sc Γ (.Constant (.int i) c pos) (.int i) := by
 intro U s B M G S A Q E R hQ
 exact wpAny_Constant_int (hQ _ s.heap _ (Ext.refl _) (.int _ _))
theorem Ev.str {c : Nat} : Ev pg w ba q k sc Γ (.Constant (.str x) c pos) (.str x) := by
 intro U s B M G S A Q E R hQ
 exact Constant_str (hQ _ s.heap _ (Ext.refl _) (.str _ _))
theorem Ev.bool {b : Bool} {c : Nat} : Ev pg w ba q k sc Γ (.Constant (.bool b) c pos) (.bool b) := by
 intro U s B M G S A Q E R hQ
 exact jP (hQ _ s.heap s.toks (Ext.refl _) (.bool _))
theorem Ev.bin {l r : Expr} {op : Operator} {d_1 d_2 : D} (h_1 : Ev pg w ba q k sc Γ l d_1) (h_2 : Ev pg w ba q k sc Γ r d_2) (h : Fun2 pg w ba q k (binaryOp op) d_1 d_2 d) : Ev pg w ba q k sc Γ (.BinOp l op r pos) d := by
 intro U s B M G S A Q E R hQ
 refine wpAny_BinOp ((h_1 U s B M G S).bind R fun v_1 g_1 t_1 e_1 a_1 => (h_2 U _ B M G (S.ext e_1)).bind R fun v_2 g_2 t_2 e_2 a_2 => ?_)
 exact (h _ _ _ _ ((S.ext e_1).ext e_2).toOk (a_1.ext e_2) a_2).bind R fun v g t e a => hQ v g t ((e_1.trans e_2).trans e) a
theorem Ev.cmp {l r : Expr} {op : CmpOp} {d_1 d_2 : D} (h_1 : Ev pg w ba q k sc Γ l d_1) (h_2 : Ev pg w ba q k sc Γ r d_2) (h : Fun2 pg w ba q k (compareOp op) d_1 d_2 d) (hm : behindInMarks op r = false) :
  Ev pg w ba q k sc Γ (.Compare l [op] [r] pos) d := by
 intro U s B M G S A Q E R hQ
 refine wpAny_Compare1 ((h_1 U s B M G S).bind R fun v_1 g_1 t_1 e_1 a_1 => (h_2 U _ B M G (S.ext e_1)).bind R fun v_2 g_2 t_2 e_2 a_2 => ?_) hm
 exact (h _ _ _ _ ((S.ext e_1).ext e_2).toOk (a_1.ext e_2) a_2).bind R fun v g t e a => hQ v g t ((e_1.trans e_2).trans e) a
theorem Tr.cmp {l r : Expr} {op : CmpOp} {d_1 d_2 : D} {b : Bool} (h_1 : Ev pg w ba q k sc Γ l d_1) (h_2 : Ev pg w ba q k sc Γ r d_2) (h : Fun2 pg w ba q k (compareOp op) d_1 d_2 (.bool b)) (hm : behindInMarks op r = false) :
  Tr pg w ba q k sc Γ (.Compare l [op] [r] pos) b := by
 intro U s B M A Q E G S R hQ
 refine wpAny_isTrue_Compare1 ((h_1 U s B M G S).bind R fun v_1 g_1 t_1 e_1 a_1 => (h_2 U _ B M G (S.ext e_1)).bind R fun v_2 g_2 t_2 e_2 a_2 => ?_) hm
 refine (h _ _ _ _ ((S.ext e_1).ext e_2).toOk (a_1.ext e_2) a_2).bindB R fun g t e => ?_
 exact wpAny_truthy_bool (hQ g t ((e_1.trans e_2).trans e))
noncomputable def Truth (pg : Program) (w : World) (ba : Heap) (d : D) (b : Bool) : Prop :=
 ∀ (s : Shared) (X : List Addr) (v : Value) (A : Around) (Q : Bool -> Shared -> Prop) (E : VP), Ok ba X s.heap -> At X s.heap v d -> (∀ h' tk, Ext s.heap h' -> Q b { s with heap := h', toks := tk }) -> wpAny (model pg w) A (truthy v) Q E s
theorem Tr.val {b : Bool} (h : Ev pg w ba q k sc Γ e d) (ht : Truth pg w ba d b) (he : autoParam (∀ U whole, isTrue e U whole = (do let v <- whole; standAt e.pos; holding [v] (truthy v))) tA) :
  Tr pg w ba q k sc Γ e b := by
 intro U s B M A Q E G S R hQ
 rw [he]
 refine jB ((h U s B M G S).bind R fun v g t e a => jB (wpAny_standAt (wpAny_holding ?_)))
 exact ht _ _ _ _ _ _ (S.ext e).toOk a fun h' tk e' => hQ h' tk (e.trans e')
theorem Tr.not {b : Bool} (h : Tr pg w ba q k sc Γ e b) : Tr pg w ba q k sc Γ (.UnaryOp .Not e pos) (!b) := by
 intro U s B M A Q E G S R hQ
 show wpAny _ _ (do return !(<- isTrue e U (eval e U))) _ _ _
 exact jB (h U s B M A _ E G S R fun h' tk e => jP (hQ h' tk e))
noncomputable def TrL (pg : Program) (w : World) (ba : Heap) (q : Bool) (k : Nat) (sc : Scope) (Γ : Gam) (op : BoolOp) (es : List Expr) (b : Bool) : Prop :=
 ∀ (U : Env) (s : Shared) (B : List Addr) (M : Mut) (A : Around) (Q : Bool -> Shared -> Prop) (E : VP),
  EnvG sc U -> St ba B U Γ M s.heap -> Room q k A -> (∀ h' tk, Ext s.heap h' -> Q b { s with heap := h', toks := tk }) -> wpAny (model pg w) A (allTrue op es U) Q E s
theorem TrL.nil {op : BoolOp} : TrL pg w ba q k sc Γ op [] (op == .And) := by
 intro U s B M A Q E G S R hQ
 exact jP (hQ s.heap s.toks (Ext.refl _))
theorem TrL.and {es : List Expr} {b : Bool} (h : Tr pg w ba q k sc Γ e b) (r : b = true -> TrL pg w ba q k sc Γ .And es c) : TrL pg w ba q k sc Γ .And (e :: es) (b && c) := by
 intro U s B M A Q E G S R hQ
 show wpAny _ _ (do match BoolOp.And, <- isTrue e U (eval e U) with | .And, false => pure false | .Or, true => pure true | _, _ => allTrue .And es U) _ _ _
 refine jB (h U s B M A _ E G S R fun h' tk e => ?_)
 cases b with
 | false => exact jP (hQ h' tk e)
 | true => exact r rfl U _ B M A _ E G (S.ext e) R fun h'' tk' e' => hQ h'' tk' (e.trans e')
theorem TrL.or {es : List Expr} {b : Bool} (h : Tr pg w ba q k sc Γ e b) (r : b = false -> TrL pg w ba q k sc Γ .Or es c) : TrL pg w ba q k sc Γ .Or (e :: es) (b || c) := by
 intro U s B M A Q E G S R hQ
 show wpAny _ _ (do match BoolOp.Or, <- isTrue e U (eval e U) with | .And, false => pure false | .Or, true => pure true | _, _ => allTrue .Or es U) _ _ _
 refine jB (h U s B M A _ E G S R fun h' tk e => ?_)
 cases b with
 | true => exact jP (hQ h' tk e)
 | false => exact r rfl U _ B M A _ E G (S.ext e) R fun h'' tk' e' => hQ h'' tk' (e.trans e')
theorem Tr.boolOp {op : BoolOp} {es : List Expr} {b : Bool} (h : TrL pg w ba q k sc Γ op es b) : Tr pg w ba q k sc Γ (.BoolOp op es pos) b := by
 intro U s B M A Q E G S R hQ
 show wpAny _ _ (allTrue op es U) _ _ _
 exact h U s B M A Q E G S R hQ
theorem Ev.ife {t a b : Expr} {p : Bool} {x y : D} (ht : Tr pg w ba q k sc Γ t p) (ha : p = true -> Ev pg w ba q k sc Γ a x) (hb : p = false -> Ev pg w ba q k sc Γ b y) :
  Ev pg w ba q k sc Γ (.IfExp t a b pos) (if p then x else y) := by
 intro U s B M G S A Q E R hQ
 show wpAny _ _ (do if <- isTrue t U (eval t U) then eval a U else eval b U) _ _ _
 refine jB (ht U s B M A _ E G S R fun h' tk e => ?_)
 cases p with
 | true => exact (ha rfl U _ B M G (S.ext e)).bind R fun v g t e' a => hQ v g t (e.trans e') a
 | false => exact (hb rfl U _ B M G (S.ext e)).bind R fun v g t e' a => hQ v g t (e.trans e') a
theorem Ev.and2 {e_1 e_2 : Expr} {b : Bool} (h_1 : Ev pg w ba q k sc Γ e_1 (.bool b)) (h_2 : b = true -> Ev pg w ba q k sc Γ e_2 (.bool c)) : Ev pg w ba q k sc Γ (.BoolOp .And [e_1, e_2] pos) (.bool (b && c)) := by
 intro U s B M G S A Q E R hQ
 show wpAny _ _ (boolOp pos .And [eval e_1 U, eval e_2 U]) _ _ _
 unfold boolOp
 refine jB ((h_1 U s B M G S).bindB R fun g t e => jB (wpAny_standAt ?_))
 refine jB (wpAny_holding (wpAny_truthy_bool ?_))
 cases b with
 | false => exact jP (hQ _ g t e (.bool _))
 | true =>
  show wpAny _ _ (boolOp pos .And [eval e_2 U]) _ _ _
  unfold boolOp
  exact (h_2 rfl U _ B M G (S.ext e)).bind R fun v g t e' a => hQ v g t (e.trans e') a
noncomputable def EvL (pg : Program) (w : World) (ba : Heap) (q : Bool) (k : Nat) (sc : Scope) (Γ : Gam) (pos : Pos) (es : List Expr) (ds : List D) : Prop :=
 ∀ (U : Env) (s : Shared) (B : List Addr) (M : Mut) (A : Around) (Q : List Value -> Shared -> Prop) (E : VP),
  EnvG sc U -> St ba B U Γ M s.heap -> Room q k A -> (∀ vs h' tk, Ext s.heap h' -> Ats (B ++ own U M) h' vs ds -> Q vs { s with heap := h', toks := tk }) -> wpAny (model pg w) A (spliced (backTo pos (starEach es U))) Q E s
theorem EvL.nil : EvL pg w ba q k sc Γ pos [] [] := by
 intro U s B M A Q E G S R hQ
 exact spliced_nil (hQ [] s.heap s.toks (Ext.refl _) .nil)
theorem EvL.cons {es : List Expr} (h : Ev pg w ba q k sc Γ e d) (r : EvL pg w ba q k sc Γ pos es ds)
  (he : autoParam (∀ U, backTo pos (starEach (e :: es) U) = (false, eval e U) :: backTo pos (starEach es U)) tA) : EvL pg w ba q k sc Γ pos (e :: es) (d :: ds) := by
 intro U s B M A Q E G S R hQ
 rw [he]
 refine spliced_cons ((h U s B M G S).bind R fun v g t e a => ?_)
 exact r U _ B M A _ E G (S.ext e) R fun vs g' t' e' as => hQ (v :: vs) g' t' (e.trans e') (.cons (a.ext e') as)
theorem new_list (o : Ok ba X s.heap) (a : Ats X s.heap vs ds) (hsz : vs.length <= sizeLine) : Pu pg w q k (newList vs) X s (.list ds) := by
 intro A Q E R hQ
 refine wpAny_newObj_type (hQ _ _ s.toks (Ext.push _ _) (At.list o.fresh (n := 0) (Heap.get?_push_size _ rfl) ?_)) (by show vs.toArray.size <= sizeLine; simpa using hsz)
 simpa using a.ext (Ext.push _ _)
theorem new_tuple (o : Ok ba X s.heap) (a : Ats X s.heap vs ds) (hsz : vs.length <= sizeLine) : Pu pg w q k (newTuple vs) X s (.tuple ds) := by
 intro A Q E R hQ
 refine wpAny_newObj_type (hQ _ _ s.toks (Ext.push _ _) (At.tuple o.fresh (n := 0) (Heap.get?_push_size _ rfl) ?_)) (by show vs.toArray.size <= sizeLine; simpa using hsz)
 simpa using a.ext (Ext.push _ _)
theorem Ev.list {es : List Expr} (h : EvL pg w ba q k sc Γ pos es ds) (hsz : ds.length <= sizeLine) : Ev pg w ba q k sc Γ (.List es pos) (.list ds) := by
 intro U s B M G S A Q E R hQ
 refine PyProof.Rows.List_ (h U s B M A _ E G S R fun vs g t e as => ?_)
 exact (new_list (S.ext e).toOk as (by rw [as.length]; exact hsz)).bind R fun v g' t' e' a => hQ v g' t' (e.trans e') a
theorem Ev.tuple {es : List Expr} {c : Nat} (h : EvL pg w ba q k sc Γ pos es ds) (hsz : ds.length <= sizeLine) : Ev pg w ba q k sc Γ (.Tuple es c pos) (.tuple ds) := by
 intro U s B M G S A Q E R hQ
 refine PyProof.Rows.Tuple_ (h U s B M A _ E G S R fun vs g t e as => ?_)
 exact (new_tuple (S.ext e).toOk as (by rw [as.length]; exact hsz)).bind R fun v g' t' e' a => hQ v g' t' (e.trans e') a
structure Item (pg : Program) (w : World) (ba : Heap) (q : Bool) (k : Nat) (d_1 d_2 d : D) : Prop where
 typ : ∀ (s : Shared) (X : List Addr) (v : Value), At X s.heap v d_1 -> ∃ T id, s.TypeIs v T /\ typeLookup (.type T) "__getitem__" = pure (some (.builtin id))
 get : Fun2 pg w ba q k getItem d_1 d_2 d
theorem Ev.sub {slice : Expr} {d_1 d_2 : D} (h_1 : Ev pg w ba q k sc Γ value d_1) (h_2 : Ev pg w ba q k sc Γ slice d_2) (h : Item pg w ba q k d_1 d_2 d)
  (hs : autoParam (∀ o i, (∃ vs, subscripted slice false o i = operate vs (getItem o i))) tA) : Ev pg w ba q k sc Γ (.Subscript value slice pos) d := by
 intro U s B M G S A Q E R hQ
 rw [eval_Subscript]
 refine jB ((h_1 U s B M G S).bind R fun o g_1 t_1 e_1 a_1 => jB (wpAny_holding ((h_2 U _ B M G (S.ext e_1)).bind R fun i g_2 t_2 e_2 a_2 => jB (wpAny_standAt ?_))))
 obtain ⟨T, id, hT, hl⟩ := h.typ ({ s with heap := g_2, toks := t_2 } : Shared) _ o (a_1.ext e_2)
 refine jB ?_
 rw [getitemInPython_of_ne hT.not_modules]
 refine jB (wpAny_specialOf hT hl ?_)
 refine jP (jB ?_)
 obtain ⟨vs, he⟩ := hs o i
 rw [he]
 refine wpAny_operating ((h.get _ _ _ _ ((S.ext e_1).ext e_2).toOk (a_1.ext e_2) a_2).bind R fun v g t e a => ?_)
 exact jB (wpAny_letTemporaryGo (jP (hQ v g t ((e_1.trans e_2).trans e) a)))
end
end
section
section
theorem isList_of {l : Addr} {vs : Array Value} (e : h.get? l = some (listO vs n)) : h.IsList l vs := ⟨_, e, rfl, n, rfl⟩
theorem isTuple_of {l : Addr} {vs : Array Value} (e : h.get? l = some (tupO vs n)) : h.IsTuple l vs := ⟨_, e, rfl, n, rfl⟩
theorem add_ii {a b : Int} : Fun2 pg w ba q k (binaryOp .Add) (.int a) (.int b) (.int (a + b)) := by
 intro s X v_1 v_2 o a_1 a_2 A Q E R hQ
 obtain ⟨t, rfl⟩ := a_1.int_; obtain ⟨u, rfl⟩ := a_2.int_
 exact PyProof.Rows.add_int (hQ _ s.heap _ (Ext.refl _) (.int _ _))
theorem sub_ii {a b : Int} : Fun2 pg w ba q k (binaryOp .Sub) (.int a) (.int b) (.int (a - b)) := by
 intro s X v_1 v_2 o a_1 a_2 A Q E R hQ
 obtain ⟨t, rfl⟩ := a_1.int_; obtain ⟨u, rfl⟩ := a_2.int_
 exact PyProof.Rows.sub_int (hQ _ s.heap _ (Ext.refl _) (.int _ _))
theorem mul_ii {a b : Int} (hm : IntMulOk a b) : Fun2 pg w ba q k (binaryOp .Mult) (.int a) (.int b) (.int (a * b)) := by
 intro s X v_1 v_2 o a_1 a_2 A Q E R hQ
 obtain ⟨t, rfl⟩ := a_1.int_; obtain ⟨u, rfl⟩ := a_2.int_
 exact PyProof.Rows.mul_int (hQ _ s.heap _ (Ext.refl _) (.int _ _)) hm
theorem fdiv_ii {a b : Int} (hb : b ≠ 0) (hs : b.natAbs < 1073741824) : Fun2 pg w ba q k (binaryOp .FloorDiv) (.int a) (.int b) (.int (a.fdiv b)) := by
 intro s X v_1 v_2 o a_1 a_2 A Q E R hQ
 obtain ⟨t, rfl⟩ := a_1.int_; obtain ⟨u, rfl⟩ := a_2.int_
 exact PyProof.Rows.floordiv_int hb (hQ _ s.heap _ (Ext.refl _) (.int _ _)) (hp := .inl (PyProof.noPylong_small hs))
theorem mod_ii {a b : Int} (hb : b ≠ 0) : Fun2 pg w ba q k (binaryOp .Mod) (.int a) (.int b) (.int (a.fmod b)) := by
 intro s X v_1 v_2 o a_1 a_2 A Q E R hQ
 obtain ⟨t, rfl⟩ := a_1.int_; obtain ⟨u, rfl⟩ := a_2.int_
 exact PyProof.Rows.mod_int' hb (hQ _ s.heap _ (Ext.refl _) (.int _ _))
theorem and_ii {a b : Int} : Fun2 pg w ba q k (binaryOp .BitAnd) (.int a) (.int b) (.int (Builtin.bitAnd a b)) := by
 intro s X v_1 v_2 o a_1 a_2 A Q E R hQ
 obtain ⟨t, rfl⟩ := a_1.int_; obtain ⟨u, rfl⟩ := a_2.int_
 exact PyProof.Rows.and_int (hQ _ s.heap _ (Ext.refl _) (.int _ _))
theorem or_ii {a b : Int} : Fun2 pg w ba q k (binaryOp .BitOr) (.int a) (.int b) (.int (Builtin.bitOr a b)) := by
 intro s X v_1 v_2 o a_1 a_2 A Q E R hQ
 obtain ⟨t, rfl⟩ := a_1.int_; obtain ⟨u, rfl⟩ := a_2.int_
 exact PyProof.Rows.or_int (hQ _ s.heap _ (Ext.refl _) (.int _ _))
theorem lt_ii {a b : Int} : Fun2 pg w ba q k (compareOp .Lt) (.int a) (.int b) (.bool (decide (a < b))) := by
 intro s X v_1 v_2 o a_1 a_2 A Q E R hQ
 obtain ⟨t, rfl⟩ := a_1.int_; obtain ⟨u, rfl⟩ := a_2.int_
 exact PyProof.Rows.lt_int (hQ _ s.heap s.toks (Ext.refl _) (.bool _))
theorem gt_ii {a b : Int} : Fun2 pg w ba q k (compareOp .Gt) (.int a) (.int b) (.bool (decide (b < a))) := by
 intro s X v_1 v_2 o a_1 a_2 A Q E R hQ
 obtain ⟨t, rfl⟩ := a_1.int_; obtain ⟨u, rfl⟩ := a_2.int_
 exact PyProof.Rows.gt_int (hQ _ s.heap s.toks (Ext.refl _) (.bool _))
theorem ge_ii {a b : Int} : Fun2 pg w ba q k (compareOp .GtE) (.int a) (.int b) (.bool (decide (b <= a))) := by
 intro s X v_1 v_2 o a_1 a_2 A Q E R hQ
 obtain ⟨t, rfl⟩ := a_1.int_; obtain ⟨u, rfl⟩ := a_2.int_
 exact PyProof.Rows.ge_int (hQ _ s.heap s.toks (Ext.refl _) (.bool _))
theorem eq_ii {a b : Int} : Fun2 pg w ba q k (compareOp .Eq) (.int a) (.int b) (.bool (a == b)) := by
 intro s X v_1 v_2 o a_1 a_2 A Q E R hQ
 obtain ⟨t, rfl⟩ := a_1.int_; obtain ⟨u, rfl⟩ := a_2.int_
 exact PyProof.Rows.eq_int (hQ _ s.heap s.toks (Ext.refl _) (.bool _))
theorem add_ss {y : Str} (hsz : x.length + y.length <= sizeLine) : Fun2 pg w ba q k (binaryOp .Add) (.str x) (.str y) (.str (x ++ y)) := by
 intro s X v_1 v_2 o a_1 a_2 A Q E R hQ
 obtain ⟨t, rfl⟩ := a_1.str_; obtain ⟨u, rfl⟩ := a_2.str_
 exact PyProof.Rows.add_str (fun t' tk => hQ _ s.heap tk (Ext.refl _) (.str _ _)) hsz
theorem in_ss {y : Str} : Fun2 pg w ba q k (compareOp .In) (.str y) (.str x) (.bool (!(Builtin.Str.occurrences x y 0 x.length 1).isEmpty)) := by
 intro s X v_1 v_2 o a_1 a_2 A Q E R hQ
 obtain ⟨t, rfl⟩ := a_1.str_; obtain ⟨u, rfl⟩ := a_2.str_
 exact P.in_str (hQ _ s.heap s.toks (Ext.refl _) (.bool _))
theorem truth_int {a : Int} : Truth pg w ba (.int a) (a != 0) := by
 intro s X v A Q E o a hQ
 obtain ⟨t, rfl⟩ := a.int_
 exact PyProof.Rows.truthy_int (hQ s.heap s.toks (Ext.refl _))
theorem truth_bool {b : Bool} : Truth pg w ba (.bool b) b := by
 intro s X v A Q E o a hQ
 obtain rfl := a.bool_
 exact wpAny_truthy_bool (hQ s.heap s.toks (Ext.refl _))
theorem size_of_ats {vs : Array Value} (a : Ats X h vs.toList ds) : vs.size = ds.length := by rw [<- a.length]; simp
theorem isEmpty_of_ats {vs : Array Value} (a : Ats X h vs.toList ds) : vs.isEmpty = ds.isEmpty := by
 have hz := size_of_ats a
 rw [Array.isEmpty, hz]; cases ds <;> simp
theorem truth_list (hsz : ds.length <= sizeLine) : Truth pg w ba (.list ds) (!ds.isEmpty) := by
 intro s X v A Q E o a hQ
 obtain ⟨l, vs, n, rfl, _, e, as⟩ := a.list_
 have hz := size_of_ats as
 refine wpAny_truthy_list (isList_of e) (by rw [hz]; rw [sizeLine_eq] at hsz; lia) ?_
 rw [isEmpty_of_ats as]
 exact hQ s.heap _ (Ext.refl _)
theorem truth_bytes {b : Array UInt8} (hsz : b.size <= sizeLine) : Truth pg w ba (.bytes b) ((b.size : Int) != 0) := by
 intro s X v A Q E o a hQ
 obtain ⟨t, rfl⟩ := a.bytes_
 exact PySem.W.truthy_bytes (by rw [sizeLine_eq] at hsz; lia) (hQ s.heap _ (Ext.refl _))
theorem add_ll {es : List D} (hsz : ds.length + es.length <= sizeLine) : Fun2 pg w ba q k (binaryOp .Add) (.list ds) (.list es) (.list (ds ++ es)) := by
 intro s X v_1 v_2 o a_1 a_2 A Q E R hQ
 obtain ⟨l, vs, n, rfl, _, e, as⟩ := a_1.list_
 obtain ⟨l', vs', n', rfl, _, e', as'⟩ := a_2.list_
 refine P.add_list (items := vs) (items2 := vs') e e' (hQ _ _ s.toks (Ext.push _ _) (At.list o.fresh (n := 0) (Heap.get?_push_size _ rfl) ?_)) (by rw [size_of_ats as, size_of_ats as']; exact hsz)
 rw [Array.toList_append]
 exact (as.append as').ext (Ext.push _ _)
theorem typ_list (s : Shared) (X : List Addr) (v : Value) (a : At X s.heap v (.list ds)) : ∃ T id, s.TypeIs v T /\ typeLookup (.type T) "__getitem__" = pure (some (.builtin id)) := by
 obtain ⟨l, vs, n, rfl, _, e, as⟩ := a.list_
 exact ⟨"list", _, ⟨_, e, rfl⟩, slot_list_getitem.lookup⟩
theorem typ_tuple (s : Shared) (X : List Addr) (v : Value) (a : At X s.heap v (.tuple ds)) : ∃ T id, s.TypeIs v T /\ typeLookup (.type T) "__getitem__" = pure (some (.builtin id)) := by
 obtain ⟨l, vs, n, rfl, _, e, as⟩ := a.tuple_
 exact ⟨"tuple", _, ⟨_, e, rfl⟩, F.slot_tuple_getitem.lookup⟩
theorem typ_str (s : Shared) (X : List Addr) (v : Value) (a : At X s.heap v (.str x)) : ∃ T id, s.TypeIs v T /\ typeLookup (.type T) "__getitem__" = pure (some (.builtin id)) := by
 obtain ⟨t, rfl⟩ := a.str_
 exact ⟨"str", _, rfl, F.slot_str_getitem.lookup⟩
theorem item_list {i : Int} (h0 : 0 <= i) (hi : ds[i.toNat]? = some d) (hsz : ds.length <= sizeLine) : Item pg w ba q k (.list ds) (.int i) d := ⟨typ_list, by
 intro s X v_1 v_2 o a_1 a_2 A Q E R hQ
 obtain ⟨l, vs, n, rfl, _, e, as⟩ := a_1.list_
 obtain ⟨u, rfl⟩ := a_2.int_
 obtain ⟨v, hv, av⟩ := as.get hi
 have hlt : i.toNat < ds.length := (List.getElem?_eq_some_iff.1 hi).1
 exact wpAny_getItem_list (isList_of e) h0 (by rw [sizeLine_eq] at hsz; lia) (by simpa using hv) (hQ v s.heap s.toks (Ext.refl _) av)⟩
theorem item_tuple {i : Int} (h0 : 0 <= i) (hi : ds[i.toNat]? = some d) (hsz : ds.length <= sizeLine) : Item pg w ba q k (.tuple ds) (.int i) d := ⟨typ_tuple, by
 intro s X v_1 v_2 o a_1 a_2 A Q E R hQ
 obtain ⟨l, vs, n, rfl, _, e, as⟩ := a_1.tuple_
 obtain ⟨u, rfl⟩ := a_2.int_
 obtain ⟨v, hv, av⟩ := as.get hi
 have hlt : i.toNat < ds.length := (List.getElem?_eq_some_iff.1 hi).1
 have hz := size_of_ats as
 rw [sizeLine_eq] at hsz
 exact P.getItem_tuple (items := vs) e (by lia) (by lia) (seqIndex_of h0 (by lia)) (by simpa using hv) (hQ v s.heap s.toks (Ext.refl _) av)⟩
theorem item_str {i : Int} {c : Nat} (h0 : 0 <= i) (hi : x.cps[i.toNat]? = some c) (hsz : x.length <= sizeLine) : Item pg w ba q k (.str x) (.int i) (.str ⟨#[c]⟩) := ⟨typ_str, by
 intro s X v_1 v_2 o a_1 a_2 A Q E R hQ
 obtain ⟨t, rfl⟩ := a_1.str_
 obtain ⟨u, rfl⟩ := a_2.int_
 have hlt : i.toNat < x.cps.size := (Array.getElem?_eq_some_iff.1 hi).1
 have hl : x.length = x.cps.size := rfl
 rw [sizeLine_eq] at hsz
 refine P.getItem_str (c := c) (by simp; lia) ?_ ?_
 ·rw [seqIndex_of h0 (by lia)]; exact hi
 ·exact hQ _ s.heap _ (Ext.refl _) (.str _ _)⟩
end
end
section
mutual
noncomputable def py : D -> PyData
 | .none => .none
 | .bool b => .bool b
 | .int i => .int i
 | .str x => .str x
 | .bytes _ => .none
 | .raw _ => .none
 | .range _ _ _ => .none
 | .slice _ _ _ => .none
 | .tuple ds => .tuple (pys ds)
 | .list ds => .list (pys ds)
noncomputable def pys : List D -> List PyData
 | [] => []
 | d :: ds => py d :: pys ds
end
mutual
noncomputable def pyOk : D -> Bool
 | .none => true
 | .bool _ => true
 | .int _ => true
 | .str x => PyData.strOk x
 | .bytes _ => false
 | .raw _ => false
 | .range _ _ _ => false
 | .slice _ _ _ => false
 | .tuple ds => pysOk ds
 | .list ds => pysOk ds
noncomputable def pysOk : List D -> Bool
 | [] => true
 | d :: ds => pyOk d && pysOk ds
end
theorem pys_map (ds : List D) : pys ds = ds.map py := by
 induction ds with
 | nil => rfl
 | cons d ds ih => exact congrArg (py d :: ·) ih
theorem pysOk_all (ds : List D) : pysOk ds = ds.all pyOk := by
 induction ds with
 | nil => rfl
 | cons d ds ih => exact congrArg (pyOk d && ·) ih
theorem no_ {p : Prop} (h : false = true) : p := Bool.noConfusion h
theorem At.reads (a : At X h v d) : pyOk d = true -> ∃ as, Reads h v (py d) as :=
 At.rec (motive_1 := fun v d zz => pyOk d = true -> ∃ as, Reads h v (py d) as) (motive_2 := fun vs ds zz => pysOk ds = true -> ∃ as, ReadsAll h vs (pys ds) as)
  (fun zz => ⟨_, .none⟩) (fun b zz => ⟨_, .bool b⟩) (fun i t zz => ⟨_, .int i t⟩) (fun x t zz => ⟨_, .str x t⟩) (fun zz zz k => no_ k) (fun zz k => no_ k) (fun zz zz k => no_ k) (fun zz zz zz zz zz k => no_ k)
  (fun zz e zz ih k => (ih k).elim fun as q => ⟨_, Reads.tuple e rfl rfl q⟩) (fun zz e zz ih k => (ih k).elim fun as q => ⟨_, Reads.list e rfl rfl q⟩)
  (fun zz => ⟨_, .nil⟩) (fun zz zz ih ih' k => (ih (Bool.and_eq_true_iff.1 k).1).elim fun as q => (ih' (Bool.and_eq_true_iff.1 k).2).elim fun bs p => ⟨_, .cons q p⟩) a
theorem Ats.reads : ∀ {ds : List D} {vs : List Value}, Ats X h vs ds -> pysOk ds = true -> ∃ as, ReadsAll h vs (pys ds) as := by
 intro ds
 induction ds with
 | nil => intro vs a zz; rw [a.nil_]; exact ⟨_, .nil⟩
 | cons d ds ih =>
  intro vs a k
  obtain ⟨v, ws, rfl, x, r⟩ := a.cons_
  have k' := Bool.and_eq_true_iff.1 k
  exact (x.reads k'.1).elim fun as q => (ih r k'.2).elim fun bs p => ⟨_, .cons q p⟩
theorem an {a b : Bool} (h : a = true) (k : b = true) : (a && b) = true := by rw [h, k]; rfl
theorem py_can (d : D) : pyOk d = true -> (py d).canLay0 = true :=
 D.rec (motive_1 := fun d => pyOk d = true -> (py d).canLay0 = true) (motive_2 := fun ds => pysOk ds = true -> PyData.canLayAll0 (pys ds) = true)
  (fun zz => rfl) (fun zz zz => rfl) (fun zz zz => rfl) (fun x h => h) (fun zz zz => rfl) (fun ds h => h) (fun ds h => h) (fun zz zz => rfl) (fun zz zz zz zz => rfl) (fun zz zz zz zz => rfl)
  (fun zz => rfl) (fun d ds h1 h2 k => an (h1 (Bool.and_eq_true_iff.1 k).1) (h2 (Bool.and_eq_true_iff.1 k).2)) d
theorem pys_can (h : pysOk ds = true) : PyData.canLayAll0 (pys ds) = true := py_can (.tuple ds) h
structure Lay {α : Type} [DecidableEq α] (enc : α -> D) (ok : α -> Prop) (n : Nat) : Prop where
 can : ∀ x, ok x -> pyOk (enc x) = true
 dep : ∀ x, ok x -> (py (enc x)).depth <= n
 eq : ∀ x y, ok x -> ok y -> PyData.eqv (py (enc x)) (py (enc y)) = decide (x = y)
theorem Lay.nat : Lay (fun n : Nat => D.int n) (fun zz => True) 0 := ⟨fun zz zz => rfl, fun zz zz => Nat.le_refl _, fun x y zz zz => by show ((x : Int) == (y : Int)) = _; rw [Bool.eq_iff_iff]; simp; lia⟩
theorem Lay.bool : Lay D.bool (fun zz => True) 0 := ⟨fun zz zz => rfl, fun zz zz => Nat.le_refl _, fun x y zz zz => by show (x == y) = _; rw [Bool.eq_iff_iff]; simp⟩
theorem Lay.str : Lay D.str (fun x => PyData.strOk x = true) 0 := ⟨fun zz h => h, fun zz zz => Nat.le_refl _, fun x y zz zz => by show (x == y) = _; rw [Bool.eq_iff_iff]; simp⟩
theorem Lay.list [DecidableEq α] (L : Lay enc ok n) : Lay (fun xs : List α => D.list (xs.map enc)) (fun xs => ∀ x ∈ xs, ok x) (n + 1) where
 can := fun xs h => by
  show pysOk (xs.map enc) = true
  rw [pysOk_all, List.all_map, List.all_eq_true]
  exact fun x hx => L.can x (h x hx)
 dep := fun xs h => by
  show PyData.depthAll (pys (xs.map enc)) + 1 <= n + 1
  rw [pys_map]
  have : PyData.depthAll ((xs.map enc).map py) <= n := by
   induction xs with
   | nil => exact Nat.zero_le _
   | cons x xs ih =>
    rw [List.map_cons, List.map_cons, PyData.depthAll]
    exact Nat.max_le.2 ⟨L.dep x (h x (.head _)), ih fun y hy => h y (.tail _ hy)⟩
  exact Nat.succ_le_succ this
 eq := fun xs ys h h' => by
  show PyData.eqvAll (pys (xs.map enc)) (pys (ys.map enc)) = _
  rw [pys_map, pys_map]
  induction xs generalizing ys with
  | nil => cases ys <;> simp [PyData.eqvAll]
  | cons x xs ih =>
   cases ys with
   | nil => simp [PyData.eqvAll]
   | cons y ys =>
    rw [List.map_cons, List.map_cons, List.map_cons, List.map_cons, PyData.eqvAll, L.eq x y (h x (.head _)) (h' y (.head _)), ih ys (fun z hz => h z (.tail _ hz)) fun z hz => h' z (.tail _ hz)]
    rw [Bool.eq_iff_iff]; simp
theorem mx {a b m : Nat} (h : a <= n) (k : b <= m) : max a b <= max n m := Nat.max_le.2 ⟨Nat.le_trans h (Nat.le_max_left _ _), Nat.le_trans k (Nat.le_max_right _ _)⟩
theorem dec2 {β : Type} [DecidableEq α] [DecidableEq β] {x x' : α} {y y' : β} : (decide (x = x') && (decide (y = y') && true)) = decide ((x, y) = (x', y')) := by
 rw [Bool.eq_iff_iff]; simp
theorem dec3 {β γ : Type} [DecidableEq α] [DecidableEq β] [DecidableEq γ] {x x' : α} {y y' : β} {z z' : γ} : (decide (x = x') && (decide (y = y') && (decide (z = z') && true))) = decide ((x, y, z) = (x', y', z')) := by
 rw [Bool.eq_iff_iff]; simp
section
variable {β γ : Type} [DecidableEq α] [DecidableEq β] [DecidableEq γ] {enc' : β -> D} {ok' : β -> Prop} {n' : Nat} {enc'' : γ -> D} {ok'' : γ -> Prop} {n'' : Nat} (L : Lay enc ok n) (L' : Lay enc' ok' n') (L'' : Lay enc'' ok'' n'')
include L L'
theorem Lay.pair : Lay (fun p : α × β => D.tuple [enc p.1, enc' p.2]) (fun p => ok p.1 /\ ok' p.2) (max n n' + 1) where
 can := fun p h => an (L.can _ h.1) (an (L'.can _ h.2) rfl)
 dep := fun p h => Nat.succ_le_succ (mx (L.dep _ h.1) (Nat.max_le.2 ⟨L'.dep _ h.2, Nat.zero_le _⟩))
 eq := fun p p' h h' => by
  show (_ && (_ && _)) = _
  rw [L.eq _ _ h.1 h'.1, L'.eq _ _ h.2 h'.2]
  exact dec2
theorem Lay.lpair : Lay (fun p : α × β => D.list [enc p.1, enc' p.2]) (fun p => ok p.1 /\ ok' p.2) (max n n' + 1) := ⟨(L.pair L').can, (L.pair L').dep, (L.pair L').eq⟩
include L''
theorem Lay.ltriple : Lay (fun p : α × β × γ => D.list [enc p.1, enc' p.2.1, enc'' p.2.2]) (fun p => ok p.1 /\ ok' p.2.1 /\ ok'' p.2.2) (max n (max n' n'') + 1) where
 can := fun p h => an (L.can _ h.1) (an (L'.can _ h.2.1) (an (L''.can _ h.2.2) rfl))
 dep := fun p h => Nat.succ_le_succ (mx (L.dep _ h.1) (mx (L'.dep _ h.2.1) (Nat.max_le.2 ⟨L''.dep _ h.2.2, Nat.zero_le _⟩)))
 eq := fun p p' h h' => by
  show (_ && (_ && (_ && _))) = _
  rw [L.eq _ _ h.1 h'.1, L'.eq _ _ h.2.1 h'.2.1, L''.eq _ _ h.2.2 h'.2.2]
  exact dec3
end
section
variable [DecidableEq α]
theorem eqv_at (L : Lay enc ok n) {v_1 v_2 : Value} {x y : α} (hx : ok x) (hy : ok y) (a_1 : At X s.heap v_1 (enc x)) (a_2 : At X s.heap v_2 (enc y)) (hu : A.units + n < cLine) : SeqAt.EqAt A s v_1 v_2 (decide (x = y)) := by
 obtain ⟨as, r_1⟩ := a_1.reads (L.can x hx)
 obtain ⟨bs, r_2⟩ := a_2.reads (L.can y hy)
 have := SeqAt.eqAt_reads _ _ A s v_1 v_2 as bs r_1 r_2 (py_can _ (L.can x hx)) (py_can _ (L.can y hy)) (by have := L.dep x hx; lia)
 rwa [L.eq x y hx hy] at this
theorem eq_dd (L : Lay enc ok n) (hn : n <= 60) {x y : α} (hx : ok x) (hy : ok y) : Fun2 pg w ba q k (compareOp .Eq) (enc x) (enc y) (.bool (decide (x = y))) := by
 intro s X v_1 v_2 o a_1 a_2 A Q E R hQ
 obtain ⟨as, r_1⟩ := a_1.reads (L.can x hx)
 obtain ⟨bs, r_2⟩ := a_2.reads (L.can y hy)
 refine SeqAt.eqOverData pg w A E s v_1 v_2 _ _ as bs Q r_1 r_2 (py_can _ (L.can x hx)) (py_can _ (L.can y hy)) (by have := L.dep x hx; have := R.u64; lia) ?_
 rw [L.eq x y hx hy]
 exact hQ _ s.heap s.toks (Ext.refl _) (.bool _)
theorem ne_dd (L : Lay enc ok n) (hn : n <= 60) {x y : α} (hx : ok x) (hy : ok y) : Fun2 pg w ba q k (compareOp .NotEq) (enc x) (enc y) (.bool (!decide (x = y))) := by
 intro s X v_1 v_2 o a_1 a_2 A Q E R hQ
 obtain ⟨as, r_1⟩ := a_1.reads (L.can x hx)
 obtain ⟨bs, r_2⟩ := a_2.reads (L.can y hy)
 refine SeqAt.neOverData pg w A E s v_1 v_2 _ _ as bs Q r_1 r_2 (py_can _ (L.can x hx)) (py_can _ (L.can y hy)) (by have := L.dep x hx; have := R.u64; lia) ?_
 rw [L.eq x y hx hy]
 exact hQ _ s.heap s.toks (Ext.refl _) (.bool _)
theorem items_e (L : Lay enc ok n) {vs : Array Value} {x : α} (as : Ats X s.heap vs.toList (xs.map enc)) (hxs : ∀ y ∈ xs, ok y) (hx : ok x) (ax : At X s.heap v (enc x))
 (hu : A.units + 1 + n < cLine) : ∃ e : Value -> Bool, (∀ y, y ∈ vs -> SeqAt.EqAt A.in1 s y v (e y)) /\ vs.toList.map e = xs.map fun y => decide (y = x) := by
 have hok : pysOk (xs.map enc) = true := by rw [pysOk_all, List.all_map, List.all_eq_true]; exact fun y hy => L.can y (hxs y hy)
 obtain ⟨as', r⟩ := as.reads hok
 obtain ⟨bs, rx⟩ := ax.reads (L.can x hx)
 refine ⟨fun y => PyData.eqv (SeqAt.readOf s.heap y) (py (enc x)), SeqAt.items_eqAt r rx (pys_can hok) (py_can _ (L.can x hx)) (by have := L.dep x hx; lia), ?_⟩
 have hm := SeqAt.readsAll_map _ _ _ (pys_can hok) r
 have e1 : vs.toList.map (fun y => PyData.eqv (SeqAt.readOf s.heap y) (py (enc x))) = (vs.toList.map (SeqAt.readOf s.heap)).map fun y => PyData.eqv y (py (enc x)) := by rw [List.map_map]; rfl
 rw [e1, hm, pys_map, List.map_map, List.map_map]
 exact List.map_congr_left fun y hy => L.eq y x (hxs y hy) hx
theorem any_of_map {vs : Array Value} {e : Value -> Bool} {x : α} (h : vs.toList.map e = xs.map fun y => decide (y = x)) : vs.any e = decide (x ∈ xs) := by
 have h1 : vs.any e = vs.toList.any e := by rw [Array.any_toList]
 have h2 : vs.toList.any e = (vs.toList.map e).any id := by rw [List.any_map]; rfl
 rw [h1, h2, h, List.any_map, Bool.eq_iff_iff, List.any_eq_true, decide_eq_true_iff]
 constructor
 ·rintro ⟨y, hy, e⟩
  have e' : y = x := of_decide_eq_true e
  exact e' ▸ hy
 ·exact fun hx => ⟨x, hx, decide_eq_true rfl⟩
theorem in_dd (L : Lay enc ok n) (hn : n <= 60) {x : α} (hx : ok x) (hxs : ∀ y ∈ xs, ok y) : Fun2 pg w ba q k (compareOp .In) (enc x) (.list (xs.map enc)) (.bool (decide (x ∈ xs))) := by
 intro s X v_1 v_2 o a_1 a_2 A Q E R hQ
 obtain ⟨l, vs, m, rfl, _, e, as⟩ := a_2.list_
 obtain ⟨f, hf, hm⟩ := items_e L as hxs hx a_1 (A := A) (by have := R.u64; lia)
 refine SeqAt.in_listAt f (isList_of e) hf ?_
 rw [any_of_map hm]
 exact hQ _ s.heap s.toks (Ext.refl _) (.bool _)
theorem notIn_dd (L : Lay enc ok n) (hn : n <= 60) {x : α} (hx : ok x) (hxs : ∀ y ∈ xs, ok y) : Fun2 pg w ba q k (compareOp .NotIn) (enc x) (.list (xs.map enc)) (.bool (!decide (x ∈ xs))) := by
 intro s X v_1 v_2 o a_1 a_2 A Q E R hQ
 obtain ⟨l, vs, m, rfl, _, e, as⟩ := a_2.list_
 obtain ⟨f, hf, hm⟩ := items_e L as hxs hx a_1 (A := A) (by have := R.u64; lia)
 refine SeqAt.notIn_listAt f (isList_of e) hf ?_
 rw [any_of_map hm]
 exact hQ _ s.heap s.toks (Ext.refl _) (.bool _)
structure Meth1 (pg : Program) (w : World) (ba : Heap) (q : Bool) (k : Nat) (name : Str) (d_1 d_2 d : D) : Prop where
 run : ∀ (s : Shared) (X : List Addr) (v_1 : Value), Ok ba X s.heap -> At X s.heap v_1 d_1 -> ∃ T id, PlainAttrs T /\ Slot T name id /\ typeOf (.builtin id) = pure (.type "method_descriptor") /\ s.TypeIs v_1 T /\
  (∀ a, v_1 = .ref a -> ∃ ob, s.heap.get? a = some ob /\ ob.dict = .none) /\
  ∀ (A : Around) (pos : Pos) (x : Sem Value) (Q : VP) (E : VP), Room q k A ->
   wpAny (model pg w) A x (fun v_2 s_1 => ∃ h' tk, s_1 = { s with heap := h', toks := tk } /\ Ext s.heap h' /\ At X h' v_2 d_2 /\
    ∀ v h'' tk', Ext h' h'' -> At X h'' v d -> Q v { s with heap := h'', toks := tk' }) E s -> wpAny (model pg w) A (callWith pos (.builtin id) [v_1] [(false, x)] []) Q E s
theorem Ev.meth1 {o : Expr} {name : Str} {apos : Pos} {d_1 d_2 : D} (h_1 : Ev pg w ba q k sc Γ o d_1) (h_2 : Ev pg w ba q k sc Γ e d_2) (hm : Meth1 pg w ba q k name d_1 d_2 d)
  (hbase : autoParam (∀ U, attributeBase o name U (eval o U) = eval o U) tA) (hline : autoParam ((apos.endLine == pos.line) = true) tA)
  (htrees : autoParam (∀ U, backTo pos (starEach [e] U) = [(false, eval e U)]) tA) : Ev pg w ba q k sc Γ (.Call (.Attribute o name apos) [e] [] pos) d := by
 intro U s B M G S A Q E R hQ
 refine wpAny_Call_method1_late (hbase U) hline (htrees U) ((h_1 U s B M G S).bind R fun v_1 g_1 t_1 e_1 a_1 => ?_)
 obtain ⟨T, id, pa, sl, ty, hT, hd, run⟩ := hm.run ({ s with heap := g_1, toks := t_1 } : Shared) _ v_1 (S.ext e_1).toOk a_1
 refine ⟨T, id, pa, sl, ty, hT, hd, run A pos _ Q E R ?_⟩
 exact (h_2 U _ B M G (S.ext e_1)).bind R fun v_2 g_2 t_2 e_2 a_2 => ⟨g_2, t_2, rfl, e_2, a_2, fun v g t e a => hQ v g t ((e_1.trans e_2).trans e) a⟩
theorem index_dd (L : Lay enc ok n) (hn : n <= 60) {x : α} (hx : ok x) (hxs : ∀ y ∈ xs, ok y) (hin : x ∈ xs) (hsz : xs.length <= sizeLine) : Meth1 pg w ba q k "index" (.list (xs.map enc)) (enc x) (.int (xs.idxOf x)) where
 run := fun s X v_1 o a_1 => by
  obtain ⟨l, vs, m, rfl, hX, e, as⟩ := a_1.list_
  refine ⟨"list", "list.index", F.plainAttrs_list, F.slot_list_index, F.type_list_index, ⟨_, e, rfl⟩, ?_, ?_⟩
  ·intro a ha; cases ha; exact ⟨_, e, rfl⟩
  ·intro A pos xx Q E R h
   refine seqMethod1_meets F.slot_list_index F.entry_list_index (wpAny_mono h (fun v_2 s_1 h_1 => ?_) fun zz zz e => e)
   obtain ⟨h', tk, rfl, e', a_2, hQ⟩ := h_1
   have as' := as.ext e'
   obtain ⟨f, hf, hm⟩ := items_e L (s := ({ s with heap := h', toks := tk } : Shared)) as' hxs hx a_2 (A := A) (by have := R.u64; lia)
   have hlen : vs.size = xs.length := by have := congrArg List.length hm; simpa using this
   have hj : xs.idxOf x < vs.size := by rw [hlen]; exact List.idxOf_lt_length_of_mem hin
   have hat : ∀ (i : Nat) (hi : i < vs.size) (hi' : i < xs.length), f vs[i] = decide (xs[i] = x) := fun i hi hi' => by
    have := congrArg (fun l => l[i]?) hm
    simpa [hi, hi'] using this
   have hjx : xs.idxOf x < xs.length := by rw [<- hlen]; exact hj
   refine ⟨⟨_, e' _ _ e, rfl⟩, F.args_list_index_2 _ _, _, SeqAt.list_indexAt l vs m .none #[] v_2 f (xs.idxOf x) hj (by rw [sizeLine_eq] at hsz; lia) ?_ ?_, e' _ _ e, hf, ?_⟩
   ·rw [hat _ hj hjx, decide_eq_true_iff]; exact List.getElem_idxOf hjx
   ·intro i hi hlt
    rw [hat i hi (by lia), decide_eq_false_iff_not]
    intro he
    have h2 := List.not_of_lt_findIdx (p := fun y => y == x) (xs := xs) hlt
    rw [he] at h2
    simp at h2
   ·exact hQ _ _ _ (Ext.refl _) (.int _ _)
theorem countP_of_map {e : Value -> Bool} {x : α} (h : vs.map e = xs.map fun y => decide (y = x)) : vs.countP e = xs.count x := by
 have h1 : vs.countP e = (vs.map e).countP id := by rw [List.countP_map]; rfl
 rw [h1, h, List.countP_map, List.count]
 refine List.countP_congr fun y zz => ?_
 simp
theorem count_dd (L : Lay enc ok n) (hn : n <= 60) {x : α} (hx : ok x) (hxs : ∀ y ∈ xs, ok y) : Meth1 pg w ba q k "count" (.list (xs.map enc)) (enc x) (.int (xs.count x)) where
 run := fun s X v_1 o a_1 => by
  obtain ⟨l, vs, m, rfl, hX, e, as⟩ := a_1.list_
  refine ⟨"list", "list.count", F.plainAttrs_list, F.slot_list_count, F.type_list_count, ⟨_, e, rfl⟩, ?_, ?_⟩
  ·intro a ha; cases ha; exact ⟨_, e, rfl⟩
  ·intro A pos xx Q E R h
   refine seqMethod1_meets F.slot_list_count F.entry_list_count (wpAny_mono h (fun v_2 s_1 h_1 => ?_) fun zz zz e => e)
   obtain ⟨h', tk, rfl, e', a_2, hQ⟩ := h_1
   have as' := as.ext e'
   obtain ⟨f, hf, hm⟩ := items_e L (s := ({ s with heap := h', toks := tk } : Shared)) as' hxs hx a_2 (A := A) (by have := R.u64; lia)
   refine ⟨⟨_, e' _ _ e, rfl⟩, F.args_list_count_2 _ _, _, SeqAt.list_countAt l vs m .none #[] v_2 f, e' _ _ e, hf, ?_⟩
   rw [countP_of_map hm]
   exact hQ _ _ _ (Ext.refl _) (.int _ _)
end
end
section
theorem ns_unique {m m' : SV} (x : h.Ns a m) (y : h.Ns a m') : m = m' := by
 obtain ⟨o, es, ep, e, d, _, f⟩ := x
 obtain ⟨o', es', ep', e', d', _, f'⟩ := y
 rw [e] at e'; cases e'
 rw [d] at d'; cases d'
 funext n; rw [<- f n, <- f' n]
theorem mem_own_locals (U : Env) (M : Mut) : U.locals ∈ own U M := by simp [own]
theorem mem_own_cell {c : Addr} (h : U.cells.lookup x = some c) : c ∈ own U M := by
 have : c ∈ U.cells.map (·.2) := jM.2 ⟨_, mem_of_lookup h, rfl⟩
 simp only [own, List.cons_append, List.mem_cons, List.mem_append]
 exact .inr (.inl this)
theorem mem_own_mut {p : Addr × List D} (h : p ∈ M) : p.1 ∈ own U M := by
 have : p.1 ∈ M.map (·.1) := jM.2 ⟨_, h, rfl⟩
 simp only [own, List.cons_append, List.mem_cons, List.mem_append]
 exact .inr (.inr this)
theorem mem_own : a ∈ own U M ↔ a = U.locals \/ a ∈ U.cells.map (·.2) \/ a ∈ M.map (·.1) := by
 simp only [own, List.cons_append, List.mem_cons, List.mem_append]
noncomputable def slot (U : Env) (x : Str) : Addr := if U.kindOf x = some .local then U.locals else (U.cells.lookup x).getD 0
noncomputable def storable (sc : Scope) (x : Str) : Bool := sc.names.lookup x == some .local || sc.names.lookup x == some .cell
section
theorem St.store (S : St ba B U Γ M s.heap) (G : EnvG sc U) (hx : storable sc x = true) (a : At (B ++ own U M) s.heap v d) {Q : Unit -> Shared -> Prop}
  (hQ : ∀ h' tk, St ba B U ((x, d) :: Γ) M h' -> Off (own U M) s.heap h' -> Off [slot U x] s.heap h' -> Q () { s with heap := h', toks := tk }) : wpAny (model pg w) A (storeName U x v) Q E s := by
 have hk : U.scope.kind = .function := by rw [G.scope]; exact G.kind
 have key : ∀ (c : Addr) (h' : Heap) (tk : Nat), c ∈ own U M -> c = slot U x -> c ∉ M.map (·.1) -> Heap.SameBut c s.heap h' -> EnvOk U h' -> Var U h' x v -> (∀ y u, y ≠ x -> Var U s.heap y u -> Var U h' y u) -> Q () { s with heap := h', toks := tk } := by
  intro c h' tk hc hcs hcM hs ok' hv hy
  have off : Off (own U M) s.heap h' := (same_off hs).mono fun y hy => by rw [jS.1 hy]; exact hc
  have offX : Off (B ++ own U M) s.heap h' := off.mono fun y hy => jA.2 (.inr hy)
  refine hQ h' tk ⟨fun b o e => hs.extBut b o (fun e' => ?_) (S.keep b o e), ok', fun y e hl => ?_, fun p hp => ?_, S.nod, S.dis, S.bdis, fun b hb => ?_, S.out⟩ off (hcs ▸ same_off hs)
  ·have := S.out b (jA.2 (.inr (e' ▸ hc))); rw [this] at e; cases e
  ·rw [List.lookup_cons] at hl
   cases hyx : y == x with
   | true => rw [hyx] at hl; cases hl; rw [beq_iff_eq.1 hyx]; exact ⟨v, hv, a.off offX⟩
   | false =>
    rw [hyx] at hl
    obtain ⟨u, hu, au⟩ := S.var y e hl
    exact ⟨u, hy y u (fun e' => by rw [e'] at hyx; simp at hyx) hu, au.off offX⟩
  ·obtain ⟨vs, n, g, r⟩ := (S.muts p hp).at_
   exact ⟨vs, n, hs.extBut _ _ (fun e' => hcM (e' ▸ jM.2 ⟨p, hp, rfl⟩)) g, r.off offX⟩
  ·obtain ⟨o, e⟩ := S.live b hb
   exact ⟨o, hs.extBut _ _ (fun e' => S.bdis b hb (e' ▸ hc)) e⟩
 rw [storable, Bool.or_eq_true, beq_iff_eq, beq_iff_eq] at hx
 rcases hx with hx | hx
 ·have hl : U.kindOf x = some .local := by rw [Env.kindOf, G.scope]; exact hx
  obtain ⟨m, hn⟩ := S.ok.ns
  refine wpAny_storeName_local hl hn (fun h' hn' hs' => key U.locals h' _ (mem_own_locals _ _) (by rw [slot, if_pos hl]) (fun hm => (S.dis _ hm).1 rfl) hs' ⟨⟨_, hn'⟩, fun p hp => ?_, S.ok.apart, S.ok.off⟩ (.inl ⟨hl, _, hn', by simp⟩) fun y u hy hu => ?_) (by rw [hk]; rfl)
  ·obtain ⟨ov, c⟩ := S.ok.cell p hp
   exact ⟨ov, c.sameBut hs' (S.ok.off p hp)⟩
  ·rcases hu with ⟨hk', m', hm', e⟩ | ⟨hk', c, hc, hcell⟩
   ·exact .inl ⟨hk', _, hn', by rw [if_neg hy, ns_unique hn hm']; exact e⟩
   ·exact .inr ⟨hk', c, hc, hcell.sameBut hs' (S.ok.off _ (mem_of_lookup hc))⟩
 ·have hl : U.kindOf x = some .cell := by rw [Env.kindOf, G.scope]; exact hx
  obtain ⟨c, hc⟩ := Option.isSome_iff_exists.1 (G.cel x (.inl hx))
  obtain ⟨ov, hcell⟩ := S.ok.cell _ (mem_of_lookup hc)
  have hcL : c ≠ U.locals := S.ok.off _ (mem_of_lookup hc)
  refine wpAny_storeName_cell hk hl hc hcell (fun h' hc' hs' => key c h' _ (mem_own_cell hc) (by rw [slot, if_neg (by rw [hl]; decide), hc]; rfl) (fun hm => (S.dis _ hm).2 (jM.2 ⟨_, mem_of_lookup hc, rfl⟩)) hs' ⟨?_, fun p hp => ?_, S.ok.apart, S.ok.off⟩ (.inr ⟨.inl hl, c, hc, hc'⟩) fun y u hy hu => ?_)
  ·obtain ⟨m, hn⟩ := S.ok.ns
   exact ⟨m, hn.sameBut hs' (Ne.symm hcL)⟩
  ·by_cases e : p.2 = c
   ·rw [e]; exact ⟨_, hc'⟩
   ·obtain ⟨ov', c'⟩ := S.ok.cell p hp
    exact ⟨ov', c'.sameBut hs' e⟩
  ·rcases hu with ⟨hk', m', hm', e⟩ | ⟨hk', c', hc'', hcell'⟩
   ·exact .inl ⟨hk', m', hm'.sameBut hs' (Ne.symm hcL), e⟩
   ·exact .inr ⟨hk', c', hc'', hcell'.sameBut hs' fun e => hy (name_of_addr S.ok.apart (mem_of_lookup hc'') (e ▸ mem_of_lookup hc))⟩
noncomputable def Sub (Γ0 Γ : Gam) : Prop := ∀ x d, Γ0.lookup x = some d -> Γ.lookup x = some d
theorem Sub.refl (Γ : Gam) : Sub Γ Γ := fun zz zz h => h
theorem Sub.nil : Sub [] Γ := fun zz zz h => nomatch h
theorem Sub.cons {Γ0 : Gam} (h : Γ.lookup x = some d) (r : Sub Γ0 Γ) : Sub ((x, d) :: Γ0) Γ := fun y e hy => by
 rw [List.lookup_cons] at hy
 cases hyx : y == x with
 | true => rw [hyx] at hy; cases hy; rw [beq_iff_eq.1 hyx]; exact h
 | false => rw [hyx] at hy; exact r y e hy
theorem Sub.trans {Γ0 Γ1 Γ_2 : Gam} (a : Sub Γ0 Γ1) (b : Sub Γ1 Γ_2) : Sub Γ0 Γ_2 := fun x d h => b x d (a x d h)
noncomputable abbrev Dup (p : Prop) := p -> p
theorem look_here : ((x, d) :: Γ).lookup x = some d := by rw [List.lookup_cons, beq_self_eq_true]
theorem look_there {y : Str} {e : D} (h : (x == y) = false) (r : Γ.lookup x = some d) : ((y, e) :: Γ).lookup x = some d := by rw [List.lookup_cons, h]; exact r
theorem St.sub {Γ0 : Gam} (S : St ba B U Γ M h) (hs : Sub Γ0 Γ) : St ba B U Γ0 M h := ⟨S.keep, S.ok, fun x d hx => S.var x d (hs x d hx), S.muts, S.nod, S.dis, S.bdis, S.live, S.out⟩
theorem own_sub {M0 : Mut} (hs : M0.Sublist M) : ∀ a ∈ own U M0, a ∈ own U M := fun a ha => by
 rw [mem_own] at ha ⊢
 exact ha.imp id (Or.imp id fun h => (hs.map _).subset h)
theorem St.subM {M0 : Mut} (S : St ba B U Γ M h) (hs : M0.Sublist M) : St ba B U Γ M0 h := by
 have sX : ∀ a ∈ B ++ own U M0, a ∈ B ++ own U M := fun a ha => jA.2 ((jA.1 ha).imp id (own_sub hs a))
 exact ⟨S.keep, S.ok, fun x d hx => let ⟨v, a, b⟩ := S.var x d hx; ⟨v, a, b.sub sX⟩, fun p hp => let ⟨vs, n, g, r⟩ := (S.muts p (hs.subset hp)).at_; ⟨vs, n, g, r.sub sX⟩, S.nod.sublist (hs.map _), fun a ha => S.dis a ((hs.map _).subset ha),
  fun a ha hm => S.bdis a ha (own_sub hs a hm), S.live, fun a ha => S.out a (sX a ha)⟩
noncomputable def Grow (h : Heap) (X X' : List Addr) : Prop := ∀ y ∈ X', y ∈ X \/ h.get? y = .none
theorem Grow.refl (h : Heap) (X : List Addr) : Grow h X X := fun y hy => .inl hy
theorem Grow.trans {X' X'' : List Addr} (a : Grow h X X') (o : Off X h h') (b : Grow h' X' X'') : Grow h X X'' := fun y hy => by
 rcases b y hy with hy' | hn
 ·exact a y hy'
 ·by_cases hX : y ∈ X
  ·exact .inl hX
  ·cases e : h.get? y with
   | none => exact .inr rfl
   | some ob => rw [o y ob hX e] at hn; cases hn
theorem Grow.sub {X' X'' : List Addr} (a : Grow h X X') (s : ∀ y ∈ X'', y ∈ X') : Grow h X X'' := fun y hy => a y (s y hy)
inductive Out where
 | next | brk | cont
 | ret (d : D)
noncomputable def FlowAt (X : List Addr) (h : Heap) : Flow -> Out -> Prop
 | .next, .next => True
 | .brk, .brk => True
 | .cont, .cont => True
 | .ret v, .ret d => At X h v d
 | _, _ => False
noncomputable def Then (ba : Heap) (B : List Addr) (U : Env) (M : Mut) (s : Shared) (R : Out -> Gam -> Mut -> Prop) (Q : Flow -> Shared -> Prop) : Prop :=
 ∀ f o h' tk Γ' M', FlowAt (B ++ own U M') h' f o -> St ba B U Γ' M' h' -> Off (own U M) s.heap h' -> Grow s.heap (own U M) (own U M') -> R o Γ' M' -> Q f { s with heap := h', toks := tk }
noncomputable def Ex (pg : Program) (w : World) (ba : Heap) (q : Bool) (k : Nat) (sc : Scope) (Γ : Gam) (M : Mut) (ss : List Stmt) (R : Out -> Gam -> Mut -> Prop) : Prop :=
 ∀ (U : Env) (s : Shared) (B : List Addr) (A : Around) (Q : Flow -> Shared -> Prop) (E : VP), EnvG sc U -> St ba B U Γ M s.heap -> Room q k A -> Then ba B U M s R Q -> wpAny (model pg w) A (execs ss U) Q E s
noncomputable def Ex1 (pg : Program) (w : World) (ba : Heap) (q : Bool) (k : Nat) (sc : Scope) (Γ : Gam) (M : Mut) (st : Stmt) (R : Out -> Gam -> Mut -> Prop) : Prop :=
 ∀ (U : Env) (s : Shared) (B : List Addr) (A : Around) (Q : Flow -> Shared -> Prop) (E : VP), EnvG sc U -> St ba B U Γ M s.heap -> Room q k A -> Then ba B U M s R Q -> wpAny (model pg w) A (exec st U) Q E s
theorem Then.step {Q : Flow -> Shared -> Prop} {M' : Mut} {tk : Nat} (T : Then ba B U M s R Q) (o : Off (own U M) s.heap h') (g : Grow s.heap (own U M) (own U M')) :
  Then ba B U M' ({ s with heap := h', toks := tk } : Shared) R Q := fun f out h'' tk' Γ'' M'' hf S' o' g' r =>
 T f out h'' tk' Γ'' M'' hf S' (o.then o' g) (g.trans o g') r
theorem Ex.nil (h : R .next Γ M) : Ex pg w ba q k sc Γ M [] R := by
 intro U s B A Q E G S Rm T
 exact wpAny_execs_nil (T .next .next s.heap s.toks Γ M trivial S (Off.refl _ _) (Grow.refl _ _) h)
theorem Ex.cons {st : Stmt} {R1 : Out -> Gam -> Mut -> Prop} (h : Ex1 pg w ba q k sc Γ M st R1)
  (r : ∀ o Γ' M', R1 o Γ' M' -> match o with | .next => Ex pg w ba q k sc Γ' M' ss R | o => R o Γ' M') : Ex pg w ba q k sc Γ M (st :: ss) R := by
 intro U s B A Q E G S Rm T
 refine wpAny_execs_cons (h U s B A _ E G S Rm fun f o h' tk Γ' M' hf S' off gr hr => ?_)
 have hr' := r o Γ' M' hr
 cases f <;> cases o <;> first | exact hf.elim | skip
 ·exact hr' U _ B A Q E G S' Rm (T.step off gr)
 ·exact T .brk .brk h' tk Γ' M' trivial S' off gr hr'
 ·exact T .cont .cont h' tk Γ' M' trivial S' off gr hr'
 ·exact T (.ret _) (.ret _) h' tk Γ' M' hf S' off gr hr'
theorem Ex.seq {st : Stmt} {P : Gam -> Mut -> Prop} (h : Ex1 pg w ba q k sc Γ M st (fun o Γ' M' => o = .next /\ P Γ' M')) (r : ∀ Γ' M', P Γ' M' -> Ex pg w ba q k sc Γ' M' ss R) : Ex pg w ba q k sc Γ M (st :: ss) R :=
 Ex.cons h fun o Γ' M' ⟨e, hp⟩ => by subst e; exact r Γ' M' hp
theorem Ex.mono {R' : Out -> Gam -> Mut -> Prop} (h : Ex pg w ba q k sc Γ M ss R) (hr : ∀ o Γ' M', R o Γ' M' -> R' o Γ' M') : Ex pg w ba q k sc Γ M ss R' :=
 fun U s B A Q E G S Rm T => h U s B A Q E G S Rm fun f o h' tk Γ' M' hf S' off gr r => T f o h' tk Γ' M' hf S' off gr (hr _ _ _ r)
theorem Ex.sub {Γ0 : Gam} (h : Ex pg w ba q k sc Γ0 M ss R) (hs : Sub Γ0 Γ) : Ex pg w ba q k sc Γ M ss R :=
 fun U s B A Q E G S Rm T => h U s B A Q E G (S.sub hs) Rm T
theorem Ex.subM {M0 : Mut} (h : Ex pg w ba q k sc Γ M0 ss R) (hs : M0.Sublist M) : Ex pg w ba q k sc Γ M ss R :=
 fun U s B A Q E G S Rm T => h U s B A Q E G (S.subM hs) Rm fun f o h' tk Γ' M' hf S' off gr r => T f o h' tk Γ' M' hf S' (off.mono (own_sub hs)) (fun y hy => (gr y hy).imp (own_sub hs y) id) r
theorem Ex1.assign (h : Ev pg w ba q k sc Γ value d) (hx : storable sc x = true) (hr : R .next ((x, d) :: Γ) M)
  (hs : autoParam (∀ U, swapsWith value (some (.Name x px)) pos.line U = pure false) tA) : Ex1 pg w ba q k sc Γ M (.Assign [.Name x px] value pos) R := by
 intro U s B A Q E G S Rm T
 refine wpAny_Assign_Name ((h U s B M G S).bind Rm fun v g t e a => ?_) (hs U)
 refine (S.ext e).store G hx a fun h' tk S' off zz => ?_
 exact T .next .next h' tk _ M trivial S' (e.off.trans off) (Grow.refl _ _) hr
theorem Ex1.ret (h : Ev pg w ba q k sc Γ e d) (hr : R (.ret d) Γ M) : Ex1 pg w ba q k sc Γ M (.Return (some e) pos) R := by
 intro U s B A Q E G S Rm T
 exact wpAny_Return_some ((h U s B M G S).bind Rm fun v g t e a => T (.ret v) (.ret d) g t Γ M a (S.ext e) e.off (Grow.refl _ _) hr)
theorem Ex1.brk (hr : R .brk Γ M) : Ex1 pg w ba q k sc Γ M (.Break pos) R := by
 intro U s B A Q E G S Rm T
 exact jB (wpAny_standAt (jP (T .brk .brk s.heap s.toks Γ M trivial S (Off.refl _ _) (Grow.refl _ _) hr)))
theorem Ex1.ife {t : Expr} {a b : List Stmt} {p : Bool} (ht : Tr pg w ba q k sc Γ t p) (ha : p = true -> Ex pg w ba q k sc Γ M a R) (hb : p = false -> Ex pg w ba q k sc Γ M b R) : Ex1 pg w ba q k sc Γ M (.If t a b pos) R := by
 intro U s B A Q E G S Rm T
 refine wpAny_If (ht U s B M A _ E G S Rm fun h' tk e => ?_)
 have T' : Then ba B U M ({ s with heap := h', toks := tk } : Shared) R Q := T.step e.off (Grow.refl _ _)
 cases p with
 | true => exact ha rfl U _ B A Q E G (S.ext e) Rm T'
 | false => exact hb rfl U _ B A Q E G (S.ext e) Rm T'
theorem St.freeze (S : St ba B U Γ ((a, ds) :: M) h) (hx : Γ.lookup x = some (.raw (.ref a))) : St ba B U ((x, .list ds) :: Γ) M h := by
 have S' := S.subM (List.sublist_cons_self (a, ds) M)
 refine ⟨S'.keep, S'.ok, fun y e hl => ?_, S'.muts, S'.nod, S'.dis, S'.bdis, S'.live, S'.out⟩
 rw [List.lookup_cons] at hl
 cases hyx : y == x with
 | true =>
  rw [hyx] at hl; cases hl; rw [beq_iff_eq.1 hyx]
  obtain ⟨v, hv, av⟩ := S.var x _ hx
  obtain rfl := av.raw_
  obtain ⟨vs, n, g, r⟩ := (S.muts _ (jC)).at_
  refine ⟨_, hv, .list (fun hm => ?_) g (r.sub fun b hb => ?_)⟩
  ·rcases jA.1 hm with hm | hm
   ·exact S.bdis _ hm (mem_own_mut jC)
   ·rw [mem_own] at hm
    rcases hm with hm | hm | hm
    ·exact (S.dis a (by simp)).1 hm
    ·exact (S.dis a (by simp)).2 hm
    ·have := S.nod; rw [List.map_cons, List.nodup_cons] at this; exact this.1 hm
  ·exact jA.2 ((jA.1 hb).imp id (own_sub (List.sublist_cons_self (a, ds) M) b))
 | false => rw [hyx] at hl; exact S'.var y e hl
theorem Ex.freeze (hx : Γ.lookup x = some (.raw (.ref a))) (h : Ex pg w ba q k sc ((x, .list ds) :: Γ) M ss R) : Ex pg w ba q k sc Γ ((a, ds) :: M) ss R :=
 fun U s B A Q E G S Rm T => h U s B A Q E G (S.freeze hx) Rm fun f o h' tk Γ' M' hf S' off gr r =>
  T f o h' tk Γ' M' hf S' (off.mono (own_sub (List.sublist_cons_self _ _))) (fun y hy => (gr y hy).imp (own_sub (List.sublist_cons_self _ _) y) id) r
end
end
section
noncomputable def ownsTuples (T : String) : Bool := ["enumerate", "zip", "dict_itemiterator", "dict_reverseitemiterator", "odict_iterator", "itertools.zip_longest", "itertools.pairwise"].contains T
structure Src (pg : Program) (w : World) (A : Around) (X : List Addr) (h : Heap) (I : Addr) (ds : List D) : Prop where
 src : ∃ fp P St, Walks pg w A I fp [I] ds.length P St /\ St 0 h /\ (∀ b ∈ fp, b ≠ I -> b ∉ X /\ ∃ o, h.get? b = some o) /\
  (∀ i v d, P i v -> ds[i]? = some d -> At (I :: X) h v d) /\ (∀ i h', St i h' -> ∃ T o, h'.get? I = some o /\ o.cls = .type T /\ ownsTuples T = false) /\ I ∈ fp /\ ∀ b ∈ fp, ∀ i h', St i h' -> ∀ o, h'.get? b = some o -> (∀ es ep, o.data ≠ .dict es ep) /\ o.cls ≠ .none /\ o.cls ≠ .type "code"
noncomputable def EvS (pg : Program) (w : World) (ba : Heap) (q : Bool) (k : Nat) (sc : Scope) (Γ : Gam) (e : Expr) (ds : List D) : Prop :=
 ∀ (U : Env) (s : Shared) (B : List Addr) (M : Mut) (A : Around) (Q : VP) (E : VP),
  EnvG sc U -> St ba B U Γ M s.heap -> Room q k A -> (∀ I h' tk, Ext s.heap h' -> s.heap.get? I = .none -> Src pg w A (B ++ own U M) h' I ds -> Q (.ref I) { s with heap := h', toks := tk }) ->
  wpAny (model pg w) A (eval e U) (fun x s_1 => wpAny (model pg w) A (pyIter x) Q E s_1) E s
section
theorem none_of_ext (e : Ext h h') (hn : h'.get? a = .none) : h.get? a = .none := by
 cases x : h.get? a with
 | none => rfl
 | some o => rw [e _ _ x] at hn; cases hn
theorem src_list (o : Ok ba X s.heap) (a : At X s.heap v (.list ds)) (hh : A.handled = .none) {Q : VP}
  (hQ : ∀ I h', Ext s.heap h' -> s.heap.get? I = .none -> Src pg w A X h' I ds -> Q (.ref I) { s with heap := h' }) : wpAny (model pg w) A (pyIter v) Q E s := by
 obtain ⟨l, vs, n, rfl, hX, e, as⟩ := a.list_
 have hne : l ≠ s.heap.objs.size := Nat.ne_of_lt (Heap.lt_size e)
 refine wpAny_pyIter_list (isList_of e) (hQ _ _ (Ext.push _ _) (fresh_none _) ⟨[s.heap.objs.size, l], (fun i v => vs[i]? = some v), (fun i h => h.IsListIter s.heap.objs.size l i /\ h.IsList l vs), ?_, ⟨⟨_, Heap.get?_push_size _ rfl, rfl, rfl⟩, (isList_of e).push _⟩, ?_, ?_, ?_, by simp, fun b hb i h' st o ho => ?_⟩)
 ·rw [<- size_of_ats as]; exact Walks.list hh _ l hne vs
 ·intro b hb hbI
  simp only [List.mem_cons, List.not_mem_nil, or_false] at hb
  rcases hb with hb | hb
  ·exact absurd hb hbI
  ·rw [hb]; exact ⟨hX, _, Heap.get?_push_of_some _ e⟩
 ·intro i v d hv hd
  obtain ⟨d', hd', av⟩ := as.get' (k := i) (v := v) (by simpa using hv)
  rw [hd] at hd'; cases hd'
  exact (av.more (X' := s.heap.objs.size :: X) fun y hy => (jK.1 hy).elim (fun e => .inr (e ▸ fresh_none _)) .inl).ext (Ext.push _ _)
 ·rintro i h' ⟨⟨o, ho, hc, _⟩, _⟩
  exact ⟨_, o, ho, hc, by decide⟩
 ·simp only [List.mem_cons, List.not_mem_nil, or_false] at hb
  rcases hb with rfl | rfl
  ·obtain ⟨⟨o', ho', hc', hd'⟩, _⟩ := st
   rw [ho] at ho'; cases ho'
   refine ⟨fun es ep q => ?_, (by rw [hc']; intro q; cases q), fun q => by rw [hc'] at q; injection q with q; exact absurd q (by decide)⟩
   rw [q] at hd'; cases hd'
  ·obtain ⟨_, o', ho', hc', n', hd'⟩ := st
   rw [ho] at ho'; cases ho'
   refine ⟨fun es ep q => ?_, (by rw [hc']; intro q; cases q), fun q => by rw [hc'] at q; injection q with q; exact absurd q (by decide)⟩
   rw [q] at hd'; cases hd'
theorem src_tuple (o : Ok ba X s.heap) (a : At X s.heap v (.tuple ds)) (hh : A.handled = .none) {Q : VP}
  (hQ : ∀ I h', Ext s.heap h' -> s.heap.get? I = .none -> Src pg w A X h' I ds -> Q (.ref I) { s with heap := h' }) : wpAny (model pg w) A (pyIter v) Q E s := by
 obtain ⟨l, vs, n, rfl, hX, e, as⟩ := a.tuple_
 have hne : l ≠ s.heap.objs.size := Nat.ne_of_lt (Heap.lt_size e)
 refine wpAny_pyIter_tuple (isTuple_of e) (hQ _ _ (Ext.push _ _) (fresh_none _) ⟨[s.heap.objs.size, l], (fun i v => vs[i]? = some v), (fun i h => h.IsTupleIter s.heap.objs.size l i /\ h.IsTuple l vs), ?_, ⟨⟨_, Heap.get?_push_size _ rfl, rfl, rfl⟩, (isTuple_of e).push _⟩, ?_, ?_, ?_, by simp, fun b hb i h' st o ho => ?_⟩)
 ·rw [<- size_of_ats as]; exact Walks.tuple hh _ l hne vs
 ·intro b hb hbI
  simp only [List.mem_cons, List.not_mem_nil, or_false] at hb
  rcases hb with hb | hb
  ·exact absurd hb hbI
  ·rw [hb]; exact ⟨hX, _, Heap.get?_push_of_some _ e⟩
 ·intro i v d hv hd
  obtain ⟨d', hd', av⟩ := as.get' (k := i) (v := v) (by simpa using hv)
  rw [hd] at hd'; cases hd'
  exact (av.more (X' := s.heap.objs.size :: X) fun y hy => (jK.1 hy).elim (fun e => .inr (e ▸ fresh_none _)) .inl).ext (Ext.push _ _)
 ·rintro i h' ⟨⟨o, ho, hc, _⟩, _⟩
  exact ⟨_, o, ho, hc, by decide⟩
 ·simp only [List.mem_cons, List.not_mem_nil, or_false] at hb
  rcases hb with rfl | rfl
  ·obtain ⟨⟨o', ho', hc', hd'⟩, _⟩ := st
   rw [ho] at ho'; cases ho'
   refine ⟨fun es ep q => ?_, (by rw [hc']; intro q; cases q), fun q => by rw [hc'] at q; injection q with q; exact absurd q (by decide)⟩
   rw [q] at hd'; cases hd'
  ·obtain ⟨_, o', ho', hc', n', hd'⟩ := st
   rw [ho] at ho'; cases ho'
   refine ⟨fun es ep q => ?_, (by rw [hc']; intro q; cases q), fun q => by rw [hc'] at q; injection q with q; exact absurd q (by decide)⟩
   rw [q] at hd'; cases hd'
theorem src_range (o : Ok ba X s.heap) {a b c : Int} {m : Nat} (at_ : At X s.heap v (.range a b c)) (hsm : Builtin.Range.small a b c = true) (hm : Builtin.Range.rangeSize a b c = (m : Int)) (hh : A.handled = .none)
  {Q : VP}
  (hQ : ∀ I h', Ext s.heap h' -> s.heap.get? I = .none -> Src pg w A X h' I ((List.range m).map fun i : Nat => D.int (a + i * c)) -> Q (.ref I) { s with heap := h' }) : wpAny (model pg w) A (pyIter v) Q E s := by
 obtain ⟨r, t, u, w', rfl, hX, e⟩ := at_.range_
 refine wpAny_pyIter_range e hsm (hQ _ _ (Ext.push _ _) (fresh_none _) ⟨[s.heap.objs.size], (fun i v => i < m /\ ∃ t, v = .int (a + i * c) t), (fun i h => IsRangeIter h s.heap.objs.size (a + (i : Nat) * c) ((m : Int) - (i : Nat)) c), ?_, ?_, ?_, ?_, ?_, by simp, fun b hb i h' st o ho => ?_⟩)
 ·have := (Walks.range (prog := pg) (w := w) (A := A) hh s.heap.objs.size a c m).bound
  rw [List.length_map, List.length_range]; exact this
 ·show IsRangeIter _ _ _ _ _
  rw [hm]; simpa using Heap.get?_push_size _ rfl
 ·intro b hb hbI
  exact absurd (jS.1 hb) hbI
 ·rintro i v d ⟨hi, t, rfl⟩ hd
  rw [List.getElem?_map, List.getElem?_range hi] at hd
  simp only [Option.map_some, Option.some.injEq] at hd
  subst hd
  exact .int _ _
 ·intro i h' hst
  exact ⟨_, _, hst, rfl, by decide⟩
 ·obtain rfl := jS.1 hb
  have hst : h'.get? s.heap.objs.size = some _ := st
  rw [ho] at hst; cases hst
  exact ⟨fun es ep q => (by cases q), (by intro q; cases q), (by intro q; injection q with q; exact absurd q (by decide))⟩
theorem EvS.list (h : Ev pg w ba true k sc Γ e (.list ds)) : EvS pg w ba true k sc Γ e ds := by
 intro U s B M A Q E G S R hQ
 refine (h U s B M G S).bind R fun v g t e a => src_list (S.ext e).toOk a (R.hd rfl) fun I h' e' hn sr => hQ I h' t (e.trans e') (none_of_ext e hn) sr
theorem EvS.tuple (h : Ev pg w ba true k sc Γ e (.tuple ds)) : EvS pg w ba true k sc Γ e ds := by
 intro U s B M A Q E G S R hQ
 refine (h U s B M G S).bind R fun v g t e a => src_tuple (S.ext e).toOk a (R.hd rfl) fun I h' e' hn sr => hQ I h' t (e.trans e') (none_of_ext e hn) sr
theorem EvS.range {a b c : Int} {m : Nat} (h : Ev pg w ba true k sc Γ e (.range a b c)) (hsm : Builtin.Range.small a b c = true) (hm : Builtin.Range.rangeSize a b c = (m : Int)) :
  EvS pg w ba true k sc Γ e ((List.range m).map fun i : Nat => D.int (a + i * c)) := by
 intro U s B M A Q E G S R hQ
 refine (h U s B M G S).bind R fun v g t e a => src_range (S.ext e).toOk a hsm hm (R.hd rfl) fun I h' e' hn sr => hQ I h' t (e.trans e') (none_of_ext e hn) sr
noncomputable def As (pg : Program) (w : World) (ba : Heap) (q : Bool) (k : Nat) (sc : Scope) (t : Expr) (d : D) (bs : Gam) : Prop :=
 ∀ (U : Env) (s : Shared) (B : List Addr) (Γ : Gam) (M : Mut) (v : Value) (A : Around) (Q : Unit -> Shared -> Prop) (E : VP),
  EnvG sc U -> St ba B U Γ M s.heap -> Room q k A -> At (B ++ own U M) s.heap v d -> (∀ h' tk, St ba B U (bs ++ Γ) M h' -> Off (own U M) s.heap h' -> Off (bs.map fun p => slot U p.1) s.heap h' -> Q () { s with heap := h', toks := tk }) ->
  wpAny (model pg w) A (assign t U v) Q E s
theorem As.name (hx : autoParam (storable sc x = true) tA) : As pg w ba q k sc (.Name x pos) d [(x, d)] := by
 intro U s B Γ M v A Q E G S R a hQ
 exact wpAny_assign_Name (S.store G hx a hQ)
theorem St.addB (S : St ba B U Γ M h) (e : Ext h h') {I : Addr} (hn : h.get? I = .none) (hl : ∃ o, h'.get? I = some o) : St ba (I :: B) U Γ M h' := by
 have S' := S.ext e
 have hI : I ∉ B ++ own U M := fun hm => by obtain ⟨o, x⟩ := S.allLive I hm; rw [hn] at x; cases x
 have mv : ∀ b o, b ∉ B ++ own U M -> h.get? b = some o -> b ∉ I :: B ++ own U M /\ h'.get? b = some o := fun b o hb x => ⟨fun hm => (jK.1 hm).elim (fun e => by rw [e, hn] at x; cases x) hb, e b o x⟩
 refine ⟨S'.keep, S'.ok, fun x d hx => ?_, fun p hp => ?_, S.nod, S.dis, fun a ha hm => ?_, fun a ha => ?_, fun a ha => ?_⟩
 ·obtain ⟨v, hv, av⟩ := S.var x d hx
  exact ⟨v, hv.keep fun b o zz x => e b o x, av.move mv⟩
 ·obtain ⟨vs, n, g, r⟩ := (S.muts p hp).at_
  exact ⟨vs, n, e _ _ g, r.move mv⟩
 ·rcases jK.1 ha with rfl | ha
  ·exact hI (jA.2 (.inr hm))
  ·exact S.bdis a ha hm
 ·rcases jK.1 ha with rfl | ha
  ·exact hl
  ·exact S'.live a ha
 ·rcases jK.1 ha with rfl | ha
  ·exact none_of_ext S.keep hn
  ·exact S.out a ha
theorem St.dropB {I : Addr} (S : St ba (I :: B) U Γ M h) : St ba B U Γ M h := by
 have sX : ∀ a ∈ B ++ own U M, a ∈ I :: B ++ own U M := fun a ha => jT _ ha
 exact ⟨S.keep, S.ok, fun x d hx => let ⟨v, a, b⟩ := S.var x d hx; ⟨v, a, b.sub sX⟩, fun p hp => let ⟨vs, n, g, r⟩ := (S.muts p hp).at_; ⟨vs, n, g, r.sub sX⟩, S.nod, S.dis,
  fun a ha => S.bdis a (jT _ ha), fun a ha => S.live a (jT _ ha), fun a ha => S.out a (sX a ha)⟩
theorem St.offB {I : Addr} (S : St ba (I :: B) U Γ M h) (o : Off [I] h h') (hl : ∃ x, h'.get? I = some x) : St ba (I :: B) U Γ M h' := by
 have hIX : I ∈ I :: B ++ own U M := jC
 have hI : I ∉ own U M := S.bdis I jC
 have offX : Off (I :: B ++ own U M) h h' := o.mono fun y hy => by rw [jS.1 hy]; exact hIX
 have ho : ∀ b x, b ∈ own U M -> h.get? b = some x -> h'.get? b = some x := fun b x hb e => o b x (fun hm => hI (jS.1 hm ▸ hb)) e
 refine ⟨fun b x e => o b x (fun hm => ?_) (S.keep b x e), S.ok.keep fun b x hb e => ho b x (mem_own.2 (hb.imp id .inl)) e, fun x d hx => ?_, fun p hp => ?_, S.nod, S.dis, S.bdis, fun a ha => ?_, S.out⟩
 ·have := S.out I hIX; rw [<- jS.1 hm] at this; rw [this] at e; cases e
 ·obtain ⟨v, hv, av⟩ := S.var x d hx
  exact ⟨v, hv.keep fun b x hb e => ho b x (mem_own.2 (hb.imp id .inl)) e, av.off offX⟩
 ·obtain ⟨vs, n, g, r⟩ := (S.muts p hp).at_
  exact ⟨vs, n, ho _ _ (mem_own_mut hp) g, r.off offX⟩
 ·by_cases e : a = I
  ·rw [e]; exact hl
  ·obtain ⟨x, g⟩ := S.live a ha
   exact ⟨x, o a x (fun hm => e (jS.1 hm)) g⟩
theorem St.offOut {I : Addr} (S : St ba (I :: B) U Γ M h) (o : Off [I] h h') (hIB : I ∉ B) : St ba B U Γ M h' := by
 have S0 := S.dropB
 have hI : I ∉ own U M := S.bdis I jC
 have ho : ∀ b x, b ∈ own U M -> h.get? b = some x -> h'.get? b = some x := fun b x hb e => o b x (fun hm => hI (jS.1 hm ▸ hb)) e
 have mv : ∀ b x, b ∉ I :: B ++ own U M -> h.get? b = some x -> b ∉ B ++ own U M /\ h'.get? b = some x := fun b x hb e => ⟨fun hm => hb (jT _ hm), o b x (fun hm => hb (jS.1 hm ▸ jC)) e⟩
 refine ⟨fun b x e => o b x (fun hm => ?_) (S.keep b x e), S.ok.keep fun b x hb e => ho b x (mem_own.2 (hb.imp id .inl)) e, fun x d hx => ?_, fun p hp => ?_, S0.nod, S0.dis, S0.bdis, fun a ha => ?_, S0.out⟩
 ·have := S.out I (jC); rw [<- jS.1 hm] at this; rw [this] at e; cases e
 ·obtain ⟨v, hv, av⟩ := S.var x d hx
  exact ⟨v, hv.keep fun b x hb e => ho b x (mem_own.2 (hb.imp id .inl)) e, av.move mv⟩
 ·obtain ⟨vs, n, g, r⟩ := (S.muts p hp).at_
  exact ⟨vs, n, ho _ _ (mem_own_mut hp) g, r.move mv⟩
 ·obtain ⟨x, g⟩ := S0.live a ha
  exact ⟨x, o a x (fun hm => hIB (jS.1 hm ▸ ha)) g⟩
theorem letOwned_ok {I : Addr} {Q : Unit -> Shared -> Prop} (hI : ∃ T o, s.heap.get? I = some o /\ o.cls = .type T /\ ownsTuples T = false) (h : Q () s) :
  wpAny (model pg w) A (letOwnedTupleGo target (.ref I) v) Q E s := by
 obtain ⟨T, o, ho, hc, hT⟩ := hI
 have body : wpAny (model pg w) A (do
   let (.ref r, .ref a) := (Value.ref I, v) | return
   let o <- load r
   match o.cls, o.data with
   | .type n, .fields vs =>
    if ["enumerate", "zip", "dict_itemiterator", "dict_reverseitemiterator", "odict_iterator", "itertools.zip_longest", "itertools.pairwise"].contains n && vs[0]? == some (rawInt a) then
     rule "for.unpacks-the-owned-tuple"
     updateField r 0 .none
   | _, _ => pure ()) Q E s := by
  cases v <;> first | exact jP h | skip
  refine jB (wpAny_load ho ?_)
  rw [hc]
  cases o.data <;> first | exact jP h | skip
  dsimp only
  have hT' : ["enumerate", "zip", "dict_itemiterator", "dict_reverseitemiterator", "odict_iterator", "itertools.zip_longest", "itertools.pairwise"].contains T = false := hT
  rw [hT', Bool.false_and]
  exact jP h
 unfold letOwnedTupleGo
 cases target <;> first | exact body | exact jP h
end
inductive LoopV (s s' : Shared) (n N : Nat) (P : Nat -> Heap -> Array Value -> Nat -> Prop) : Prop
 | mk (i : Nat) (h' : Heap) (tk : Nat) (vs : Array Value) (m : Nat) (e : s' = { s with heap := h', toks := tk }) (hi : i <= N) (hn : n = N + 1 - i) (r : P i h' vs m) : LoopV s s' n N P
inductive LoopH (s s' : Shared) (N : Nat) (P : Nat -> Heap -> Prop) : Prop
 | mk (i : Nat) (h' : Heap) (tk : Nat) (e : s' = { s with heap := h', toks := tk }) (hi : i <= N) (r : P i h') : LoopH s s' N P
end
section
section
theorem for_loop {Rr : Result -> Shared -> Prop} {it : Value} {orelse : List Stmt} (I : Nat -> Shared -> Prop)
  (turn : ∀ n s, I n s -> ∀ E', wpAny (model pg w) A (pyNext it) (fun r s_1 => match r with
   | none => wpAny (model pg w) A (execs orelse U) (fun f s3 => Rr (.ok f) s3) E' s_1
   | some v => wpAny (model pg w) A (letOwnedTupleGo target it v) (fun zz s_2 => wpAny (model pg w) A (assign target U v) (fun zz s3 => wpAny (model pg w) A (execs body U) (fun f s4 => match f with
     | .next | .cont => ∃ m, m < n /\ I m s4
     | .brk => Rr (.ok .next) s4
     | .ret v => Rr (.ok (.ret v)) s4) E' s3) E' s_2) E' s_1) E' s)
  (n : Nat) (h : I n s) : codeAny (model pg w) A (.forLoop target it body orelse U) Rr s := by
 refine codeAny_loop' rfl I (fun n s hI => ?_) n h
 show wpAny _ _ ((forTurn target it body orelse U).onRaise (fun x => do noteFrame x U; theTreesLotGoes x)) _ _ s
 refine wpAny_noted ?_
 unfold forTurn
 refine jB (wpAny_standAt (jB (wpAny_onRaise (wpAny_mono (turn n s hI _) (fun r s_1 h_1 => ?_) fun zz zz h' => wpAny_standAt h'))))
 cases r with
 | none => exact jP (.inr ⟨rfl, codeAny_block h_1⟩)
 | some v =>
  refine jB (wpAny_mono h_1 (fun zz s_2 h_2 => ?_) fun zz zz h' => h')
  refine jB (wpAny_mono h_2 (fun zz s3 h_3 => jB (wpAny_mono h_3 (fun f s4 h_4 => ?_) fun zz zz h' => h')) fun zz zz h' => h')
  cases f with
  | next => exact jP (.inl ⟨rfl, h_4⟩)
  | cont => exact jP (.inl ⟨rfl, h_4⟩)
  | brk => exact jP h_4
  | ret v => exact jP h_4
end
section
theorem Ex1.forJ {orelse : List Stmt} {bs : D -> Gam} (h : EvS pg w ba true k sc Γ iter ds) (ht : ∀ (i : Nat) d, ds[i]? = some d -> As pg w ba true k sc target d (bs d))
  (J : Nat -> Prop) (j0 : J 0) (Γs : Nat -> Gam) (Ms : Nat -> Mut) (h0 : Sub (Γs 0) Γ) (hm0 : (Ms 0).Sublist M)
  (turn : ∀ (i : Nat) d, ds[i]? = some d -> J i -> Ex pg w ba true k sc (bs d ++ Γs i) (Ms i) body (fun o Γ' M' => match o with
   | .next | .cont => (Sub (Γs (i + 1)) Γ' /\ (Ms (i + 1)).Sublist M') /\ J (i + 1)
   | .brk => R .next Γ' M'
   | .ret d => R (.ret d) Γ' M'))
  (done : J ds.length -> Ex pg w ba true k sc (Γs ds.length) (Ms ds.length) orelse R)
  (hs : autoParam (∀ U x, foldedSetIterable iter U x = pure x) tA) : Ex1 pg w ba true k sc Γ M (.For target iter body orelse pos) R := by
 intro U s B A Q E G S Rm T
 refine wpAny_For (h U s B M A _ E G S Rm fun I h_2 tk_2 e_2 hnI sr => ?_) (hs U)
 obtain ⟨fp, P, St', W, st0, hfp, hval, hcls, hIfp⟩ := sr.src
 have live2 : ∃ o, h_2.get? I = some o := let ⟨_, o, ho, _⟩ := hcls 0 h_2 st0; ⟨o, ho⟩
 have S2 := (S.addB e_2 hnI live2)
 have hIown : I ∉ own U M := S2.bdis I jC
 refine for_loop (fun n s' => LoopH s s' ds.length fun i h' => J i /\ n = ds.length - i /\ St' i h' /\ St ba (I :: B) U (Γs i) (Ms i) h' /\ Off (I :: own U M) h_2 h' /\ Grow h_2 (own U M) (own U (Ms i))) ?_ ds.length
  ⟨0, h_2, tk_2, rfl, Nat.zero_le _, j0, rfl, st0, (S2.sub h0).subM hm0, Off.refl _ _, (Grow.refl _ _).sub (own_sub hm0)⟩
 intro n s' hI E'
 refine bc fun hn => ?_
 obtain ⟨i, h', tk, rfl, hi, hJ, rfl, sti, Si, off, gr⟩ := hI
 refine hn ?_
 have hfrozen : ∀ b, b ∈ fp -> b ≠ I -> b ∉ own U (Ms i) := fun b hb hbI hm => by
  obtain ⟨hX, o, ho⟩ := hfp b hb hbI
  rcases gr b hm with hm' | hn
  ·exact hX (jA.2 (.inr hm'))
  ·rw [hn] at ho; cases ho
 have finish : ∀ {h'' : Heap} {M' : Mut}, Off (I :: own U M) h_2 h'' -> Grow h_2 (own U M) (own U M') -> Off (own U M) s.heap h'' /\ Grow s.heap (own U M) (own U M') := fun o' g' =>
  ⟨(e_2.off (X := own U M)).then o' fun y hy => (jK.1 hy).elim (fun e => .inr (e ▸ hnI)) .inl, fun y hy => (g' y hy).imp id fun hn => none_of_ext e_2 hn⟩
 by_cases hlt : i < ds.length
 ·obtain ⟨d, hd⟩ : ∃ d, ds[i]? = some d := ⟨ds[i], List.getElem?_eq_getElem hlt⟩
  refine W.item i _ _ _ hlt sti fun v h_3 tk_3 hP st_3 hk_3 => ?_
  have o3 : Off [I] h' h_3 := fun b o hb e => hk_3 b o hb e
  have live3 : ∃ T o, h_3.get? I = some o /\ o.cls = .type T /\ ownsTuples T = false := hcls (i + 1) h_3 st_3
  have S3 := Si.offB o3 (let ⟨_, o, ho, _⟩ := live3; ⟨o, ho⟩)
  refine letOwned_ok live3 ?_
  have off3 : Off (I :: own U M) h_2 h_3 := off.trans (o3.mono fun y hy => by rw [jS.1 hy]; exact jC)
  have av : At (I :: B ++ own U (Ms i)) h_3 v d := by
   refine (hval i v d hP hd).move fun b o hb ho => ⟨fun hm => ?_, off3 b o (fun hm => ?_) ho⟩
   ·rcases jA.1 hm with hm | hm
    ·exact hb (by rcases jK.1 hm with e | hm; exact e ▸ jC; exact jT _ (jA.2 (.inl hm)))
    ·rcases gr b hm with hm' | hn
     ·exact hb (jT _ (jA.2 (.inr hm')))
     ·rw [hn] at ho; cases ho
   ·rcases jK.1 hm with e | hm
    ·exact hb (e ▸ jC)
    ·exact hb (jT _ (jA.2 (.inr hm)))
  refine ht i d hd U _ (I :: B) (Γs i) (Ms i) v A _ E' G S3 Rm av fun h_4 tk_4 S4 o4 zz => ?_
  refine turn i d hd hJ U _ (I :: B) A _ E' G S4 Rm fun f out h_5 tk_5 Γ' M' hf S5 o5 g5 hr => ?_
  have oTurn : Off (own U (Ms i)) h_3 h_5 := o4.trans o5
  have offAll : Off (I :: own U M) h_2 h_5 := off3.then oTurn fun y hy => (gr y hy).imp (jT _) id
  have gAll : Grow h_2 (own U M) (own U M') := fun y hy => by
   rcases g5 y hy with hy' | hn
   ·exact gr y hy'
   ·by_cases hm : y ∈ own U M
    ·exact .inl hm
    ·cases e : h_2.get? y with
     | none => exact .inr rfl
     | some ob =>
      by_cases hyI : y = I
      ·exact absurd (hyI ▸ hy) (S5.bdis I jC)
      ·have := (off3.then o4 fun y hy => (gr y hy).imp (jT _) id) y ob (fun hm' => (jK.1 hm').elim hyI hm) e
       rw [this] at hn; cases hn
  have st5 : St' (i + 1) h_5 := W.frame _ _ _ st_3 fun b hb o e => oTurn b o (fun hm => by
   by_cases hbI : b = I
   ·exact Si.bdis I jC (hbI ▸ hm)
   ·exact hfrozen b hb hbI hm) e
  have loopOn : (Sub (Γs (i + 1)) Γ' /\ (Ms (i + 1)).Sublist M') /\ J (i + 1) -> ∃ m, m < ds.length - i /\ LoopH s ({ s with heap := h_5, toks := tk_5 } : Shared) ds.length fun i' h' => J i' /\ m = ds.length - i' /\ St' i' h' /\ St ba (I :: B) U (Γs i') (Ms i') h' /\ Off (I :: own U M) h_2 h' /\ Grow h_2 (own U M) (own U (Ms i')) := fun hh =>
   ⟨ds.length - (i + 1), by lia, i + 1, h_5, tk_5, rfl, by lia, hh.2, rfl, st5, (S5.sub hh.1.1).subM hh.1.2, offAll, gAll.sub (own_sub hh.1.2)⟩
  have fin := finish offAll gAll
  have aX : ∀ {v : Value} {d : D}, At (I :: B ++ own U M') h_5 v d -> At (B ++ own U M') h_5 v d := fun a => a.sub fun y hy => jT _ hy
  cases f <;> cases out <;> first | exact hf.elim | skip
  ·exact loopOn hr
  ·exact T .next .next h_5 tk_5 Γ' M' trivial S5.dropB fin.1 fin.2 hr
  ·exact loopOn hr
  ·exact T (.ret _) (.ret _) h_5 tk_5 Γ' M' (aX hf) S5.dropB fin.1 fin.2 hr
 ·have hie : i = ds.length := by lia
  subst hie
  refine W.done _ _ _ sti fun h_3 tk_3 hk_3 => ?_
  have o3 : Off [I] h' h_3 := fun b o hb e => hk_3 b o hb e
  have hIB : I ∉ B := fun hm => by obtain ⟨o, x⟩ := S.live I hm; rw [hnI] at x; cases x
  have S3 := Si.offOut o3 hIB
  refine done hJ U _ B A _ E' G S3 Rm fun f out h_5 tk_5 Γ' M' hf S5 o5 g5 hr => ?_
  have offAll : Off (I :: own U M) h_2 h_5 := (off.trans (o3.mono fun y hy => by rw [jS.1 hy]; exact jC)).then o5 fun y hy => (gr y hy).imp (jT _) id
  have off3 : Off (I :: own U M) h_2 h_3 := off.trans (o3.mono fun y hy => by rw [jS.1 hy]; exact jC)
  have o1 : Off (own U M) s.heap h_3 := (e_2.off (X := own U M)).then off3 fun y hy => (jK.1 hy).elim (fun e => .inr (e ▸ hnI)) .inl
  have g1 : Grow s.heap (own U M) (own U (Ms ds.length)) := fun y hy => (gr y hy).imp id fun hn => none_of_ext e_2 hn
  exact T f out h_5 tk_5 Γ' M' hf S5 (o1.then o5 g1) (g1.trans o1 g5) hr
theorem Ex1.for {orelse : List Stmt} {bs : D -> Gam} (h : EvS pg w ba true k sc Γ iter ds) (ht : ∀ (i : Nat) d, ds[i]? = some d -> As pg w ba true k sc target d (bs d))
  (Γs : Nat -> Gam) (Ms : Nat -> Mut) (h0 : Sub (Γs 0) Γ) (hm0 : (Ms 0).Sublist M)
  (turn : ∀ (i : Nat) d, ds[i]? = some d -> Ex pg w ba true k sc (bs d ++ Γs i) (Ms i) body (fun o Γ' M' => match o with
   | .next | .cont => Sub (Γs (i + 1)) Γ' /\ (Ms (i + 1)).Sublist M'
   | .brk => R .next Γ' M'
   | .ret d => R (.ret d) Γ' M'))
  (done : Ex pg w ba true k sc (Γs ds.length) (Ms ds.length) orelse R)
  (hs : autoParam (∀ U x, foldedSetIterable iter U x = pure x) tA) : Ex1 pg w ba true k sc Γ M (.For target iter body orelse pos) R :=
 Ex1.forJ h ht (fun zz => True) trivial Γs Ms h0 hm0 (fun i d hd zz => (turn i d hd).mono fun o zz zz r => by cases o <;> first | exact ⟨r, trivial⟩ | exact r) (fun zz => done) hs
end
end
section
noncomputable def relab (csc sc : Scope) : Scope :=
 { csc with names := csc.names.map fun (n, k) => if (k == .free && sc.kind == .function && sc.names.lookup n == some .cell) then (n, .cell) else (n, k) }
theorem relab_eq (h : U.scope = sc) : relabel csc U = relab csc sc := by subst h; rfl
noncomputable def isFree (k : Option NameKind) : Bool := k == some .free || k == some .cell
noncomputable def compOk (csc sc : Scope) : Bool :=
 csc.kind == .function && sc.kind == .function && decide (csc.names.map (·.1)).Nodup && csc.names.all fun p => p.2 != .free || isFree (sc.names.lookup p.1)
theorem lookup_relab (f : Str × NameKind -> NameKind) : ∀ (names : List (Str × NameKind)) (x : Str), (names.map fun p => (p.1, f p)).lookup x = (names.find? fun p => x == p.1).map f
 | [], _ => rfl
 | (n, k) :: r, x => by
  rw [List.map_cons, List.lookup_cons, List.find?_cons]
  dsimp only
  cases h : x == n with
  | true => rfl
  | false => exact lookup_relab f r x
theorem lookup_find : ∀ (names : List (Str × NameKind)) (x : Str), names.lookup x = (names.find? fun p => x == p.1).map (·.2)
 | [], _ => rfl
 | (n, k) :: r, x => by
  rw [List.lookup_cons, List.find?_cons]
  dsimp only
  cases h : x == n with
  | true => rfl
  | false => exact lookup_find r x
noncomputable def clOf (U : Env) : List (Str × NameKind) -> List (Str × Addr) -> List (Str × Addr)
 | [], acc => acc
 | (n, k) :: r, acc => clOf U r (if k == .free then (n, (U.cells.lookup n).getD 0) :: acc else acc)
theorem clOf_c {n : Str} {k : NameKind} {r : List (Str × NameKind)} {acc : List (Str × Addr)} : clOf U ((n, k) :: r) acc = clOf U r (if k == .free then (n, (U.cells.lookup n).getD 0) :: acc else acc) := rfl
theorem closure_loop (f : Str × NameKind -> List (Str × Addr) -> Sem (ForInStep (List (Str × Addr))))
  (hf : ∀ n k cs, f (n, k) cs = if k == .free then (do let c <- cellOf U n; pure (.yield ((n, c) :: cs))) else pure (.yield cs)) :
  ∀ (names : List (Str × NameKind)) (acc : List (Str × Addr)), (∀ p ∈ names, p.2 = .free -> (U.cells.lookup p.1).isSome = true) -> forIn names acc f = pure (clOf U names acc)
 | [], acc, _ => by rw [List.forIn_nil]; rfl
 | (n, k) :: r, acc, h => by
  have ih := closure_loop f hf r
  rw [List.forIn_cons, hf, clOf_c]
  cases hk : k == NameKind.free with
  | true =>
   obtain ⟨c, hc⟩ := Option.isSome_iff_exists.1 (h (n, k) jC (beq_iff_eq.1 hk))
   simp only [if_true, cellOf, hc, pure_bind, Option.getD_some]
   exact ih _ fun p hp => h p (jT _ hp)
  | false =>
   simp only [Bool.false_eq_true, if_false, pure_bind]
   exact ih _ fun p hp => h p (jT _ hp)
theorem closureFor_eq (h : ∀ p ∈ csc.names, p.2 = .free -> (U.cells.lookup p.1).isSome = true) : closureFor csc U = pure (clOf U csc.names []) := by
 unfold closureFor
 dsimp only
 rw [closure_loop (U := U) _ (fun n k cs => by cases hk : k == NameKind.free <;> simp [hk]) _ _ h]
 rfl
set_option tactic.hygienic true in
theorem clOf_mem : ∀ (names : List (Str × NameKind)) (acc : List (Str × Addr)), (∀ p ∈ names, p.2 = .free -> (U.cells.lookup p.1).isSome = true) -> (∀ p ∈ acc, U.cells.lookup p.1 = some p.2) -> ∀ p ∈ clOf U names acc, U.cells.lookup p.1 = some p.2
 | [], _, _, h => h
 | (n, k) :: r, acc, hn, h => by
  refine clOf_mem r _ (fun p hp => hn p (jT _ hp)) fun p hp => ?_
  split at hp
  ·rename_i hk
   rcases jK.1 hp with rfl | hp
   ·obtain ⟨c, hc⟩ := Option.isSome_iff_exists.1 (hn (n, k) jC (beq_iff_eq.1 hk))
    rw [hc]; rfl
   ·exact h p hp
  ·exact h p hp
theorem clOf_lookup : ∀ (names : List (Str × NameKind)) (acc : List (Str × Addr)), (names.map (·.1)).Nodup -> ((x, NameKind.free) ∈ names \/ (acc.lookup x = U.cells.lookup x /\ (∀ p ∈ names, p.1 ≠ x))) -> (U.cells.lookup x).isSome = true -> (clOf U names acc).lookup x = U.cells.lookup x
 | [], acc, _, h, _ => by rcases h with h | h; cases h; exact h.1
 | (n, k) :: r, acc, hn, h, hs => by
  rw [List.map_cons, List.nodup_cons] at hn
  rw [clOf_c]
  refine clOf_lookup r _ hn.2 ?_ hs
  rcases h with h | ⟨h1, h2⟩
  ·rcases jK.1 h with e | h
   ·cases e
    obtain ⟨c, hc⟩ := Option.isSome_iff_exists.1 hs
    refine .inr ⟨?_, fun p hp e => hn.1 (e ▸ jM.2 ⟨p, hp, rfl⟩)⟩
    simp [hc]
   ·exact .inl h
  ·refine .inr ⟨?_, fun p hp => h2 p (jT _ hp)⟩
   have hne : n ≠ x := h2 (n, k) jC
   split
   ·rw [List.lookup_cons, beq_eq_false_iff_ne.2 (Ne.symm hne)]; exact h1
   ·exact h1
theorem clOf_pair : ∀ (names : List (Str × NameKind)) (acc : List (Str × Addr)), (names.map (·.1)).Nodup -> (acc.map (·.1)).Nodup -> (∀ p ∈ acc, ∀ r ∈ names, p.1 ≠ r.1) -> ((clOf U names acc).map (·.1)).Nodup
 | [], _, _, h, _ => h
 | (n, k) :: r, acc, hn, h, hd => by
  rw [List.map_cons, List.nodup_cons] at hn
  rw [clOf_c]
  refine clOf_pair r _ hn.2 ?_ ?_
  ·split
   ·rw [List.map_cons, List.nodup_cons]
    refine ⟨fun hm => ?_, h⟩
    obtain ⟨p, hp, e⟩ := jM.1 hm
    exact hd p hp (n, k) jC e
   ·exact h
  ·intro p hp q hq
   split at hp
   ·rcases jK.1 hp with rfl | hp
    ·exact fun e => hn.1 (jM.2 ⟨q, hq, e.symm⟩)
    ·exact hd p hp q (jT _ hq)
   ·exact hd p hp q (jT _ hq)
theorem cellsFrom_app : ∀ (names : List (Str × NameKind)) (n : Nat) (acc : List (Str × Addr)), cellsFrom n names acc = cellsFrom n names [] ++ acc
 | [], _, _ => rfl
 | (x, k) :: r, n, acc => by
  unfold cellsFrom
  split
  ·rw [cellsFrom_app r (n + 1) ((x, n) :: acc), cellsFrom_app r (n + 1) [(x, n)], List.append_assoc]; rfl
  ·exact cellsFrom_app r n acc
set_option tactic.hygienic true in
theorem cellsFrom_names : ∀ (names : List (Str × NameKind)) (n : Nat), ∀ p ∈ cellsFrom n names [], (p.1, NameKind.cell) ∈ names
 | [], _, p, hp => nomatch hp
 | (x, k) :: r, n, p, hp => by
  unfold cellsFrom at hp
  split at hp
  ·rename_i hk
   rw [cellsFrom_app] at hp
   rcases jA.1 hp with hp | hp
   ·exact jT _ (cellsFrom_names r _ p hp)
   ·rw [jS.1 hp, beq_iff_eq.1 hk]; exact jC
  ·exact jT _ (cellsFrom_names r _ p hp)
theorem lookup_app_none : ∀ (l r : List (Str × α)), (∀ p ∈ l, p.1 ≠ x) -> (l ++ r).lookup x = r.lookup x
 | [], _, _ => rfl
 | (n, a) :: l, r, h => by
  rw [List.cons_append, List.lookup_cons, beq_eq_false_iff_ne.2 (Ne.symm (h (n, a) jC))]
  exact lookup_app_none l r fun p hp => h p (jT _ hp)
theorem lookup_app_some : ∀ (l r : List (Str × α)), (l.lookup x).isSome = true -> (l ++ r).lookup x = l.lookup x
 | [], _, h => nomatch h
 | (n, a) :: l, r, h => by
  rw [List.cons_append, List.lookup_cons, List.lookup_cons]
  rw [List.lookup_cons] at h
  cases hx : x == n with
  | true => rfl
  | false => rw [hx] at h; exact lookup_app_some l r h
noncomputable def cEnv (csc : Scope) (U : Env) (C : Addr) : Env :=
 { scope := relabel csc U, locals := C, globals := U.globals, cells := cellsFrom (C + 1) csc.names (clOf U csc.names []), qual := U.qual, func := .none, code := U.code, frame := U.frame, builtins := U.builtins }
theorem newEnv_comp {M : Model} {cl : List (Str × Addr)} {Q : Env -> Shared -> Prop}
  (h : Q { scope := csc, locals := s.heap.objs.size, globals := U.globals, cells := cellsFrom (s.heap.objs.size + 1) csc.names cl, qual := U.qual, func := .none, code := U.code, frame := U.frame, builtins := U.builtins }
   { s with heap := pushCells (s.heap.push { cls := .type "dict", data := .dict #[] }) csc.names }) :
  wpAny M A (newFunctionEnv csc U.globals cl [] U.qual .none .none (some U)) Q E s := by
 simp only [newFunctionEnv, Option.isSome_some, if_true]
 refine jB (wpAny_alloc ?_)
 refine jB (wpAny_layCells _ (fun name kind cells => by cases hkc : kind == NameKind.cell <;> simp) _ _ _ _ ?_)
 rw [show ({ s with heap := s.heap.push { cls := .type "dict", data := .dict #[] } } : Shared).heap.objs.size = s.heap.objs.size + 1 from Heap.size_push ..]
 exact jB (jP (jP h))
noncomputable def SubC (csc sc : Scope) (Γ' Γ : Gam) : Prop := ∀ x d, Γ'.lookup x = some d -> Γ.lookup x = some d /\ csc.names.lookup x = some .free /\ isFree (sc.names.lookup x) = true
theorem SubC.nil : SubC csc sc [] Γ := fun zz zz h => nomatch h
theorem SubC.cons (h : Γ.lookup x = some d) (hc : (csc.names.lookup x == some .free && isFree (sc.names.lookup x)) = true) (r : SubC csc sc Γ' Γ) : SubC csc sc ((x, d) :: Γ') Γ := fun y e hy => by
 rw [List.lookup_cons] at hy
 rw [Bool.and_eq_true, beq_iff_eq] at hc
 cases hyx : y == x with
 | true => rw [hyx] at hy; cases hy; rw [beq_iff_eq.1 hyx]; exact ⟨h, hc⟩
 | false => rw [hyx] at hy; exact r y e hy
end
section
noncomputable def restC (csc : Scope) (U : Env) : List Addr := (U.locals :: U.cells.map (·.2)).filter fun a => !((clOf U csc.names []).map (·.2)).contains a
noncomputable abbrev bC (D I : Nat) (B : List Addr) (csc : Scope) (U : Env) : List Addr := D :: I :: (B ++ restC csc U)
noncomputable def h3 (h : Heap) : Heap := h.push (listO #[] 0)
noncomputable def h4 (csc : Scope) (h : Heap) : Heap := pushCells ((h3 h).push { cls := .type "dict", data := .dict #[] }) csc.names
theorem h3_size (h : Heap) : (h3 h).objs.size = h.objs.size + 1 := Heap.size_push ..
theorem h4_ext (csc : Scope) (h : Heap) : Ext h (h4 csc h) := fun b o e => pushCells_keeps _ _ b o (Heap.get?_push_of_some _ (Heap.get?_push_of_some _ e))
theorem h4_acc (csc : Scope) (h : Heap) : (h4 csc h).get? h.objs.size = some (listO #[] 0) := pushCells_keeps _ _ _ _ (Heap.get?_push_of_some _ (Heap.get?_push_size _ rfl))
theorem h4_ns (csc : Scope) (h : Heap) : (h4 csc h).Ns (h.objs.size + 1) (fun zz => .none) := by
 have := (Heap.Ns.new (h3 h) (.type "dict")).keeps (pushCells_keeps csc.names _)
 rw [h3_size] at this
 exact this
theorem h4_cells (csc : Scope) (h : Heap) : CellsOk (h4 csc h) (h.objs.size + 2) (cellsFrom (h.objs.size + 2) csc.names []) := by
 have sz : ((h3 h).push { cls := .type "dict", data := .dict #[] }).objs.size = h.objs.size + 2 := by rw [Heap.size_push, h3_size]
 have := cellsFrom_ok csc.names ((h3 h).push { cls := .type "dict", data := .dict #[] }) (h.objs.size + 2) [] ⟨fun zz zz hm => (nomatch hm), List.Pairwise.nil⟩ (by rw [sz]; exact Nat.le_refl _)
 rw [sz] at this
 exact this
theorem none_of_le (ha : h.objs.size <= a) : h.get? a = .none := by
 cases e : h.get? a with
 | none => rfl
 | some o => exact absurd (Heap.lt_size e) (Nat.not_lt.2 ha)
structure CompFacts (csc sc : Scope) (U : Env) : Prop where
 kind : csc.kind = .function
 nod : (csc.names.map (·.1)).Nodup
 free : ∀ p ∈ csc.names, p.2 = .free -> (U.cells.lookup p.1).isSome = true
theorem compFacts (hok : compOk csc sc = true) (G : EnvG sc U) : CompFacts csc sc U := by
 simp only [compOk, Bool.and_eq_true, beq_iff_eq, decide_eq_true_eq, List.all_eq_true] at hok
 refine ⟨hok.1.1.1, hok.1.2, fun p hp hf => G.cel p.1 ?_⟩
 have := hok.2 p hp
 rw [hf] at this
 simp only [bne_self_eq_false, Bool.false_or, isFree, Bool.or_eq_true, beq_iff_eq] at this
 exact this.symm
theorem mem_names {k : NameKind} (h : csc.names.lookup x = some k) : (x, k) ∈ csc.names := mem_of_lookup h
section
theorem cEnv_lookup (F : CompFacts csc sc U) {C : Addr} (hx : csc.names.lookup x = some .free) : (cEnv csc U C).cells.lookup x = U.cells.lookup x := by
 show (cellsFrom (C + 1) csc.names (clOf U csc.names [])).lookup x = _
 rw [cellsFrom_app, lookup_app_none]
 ·exact clOf_lookup csc.names [] F.nod (.inl (mem_names hx)) (F.free _ (mem_names hx) rfl)
 ·intro p hp e
  have h1 := cellsFrom_names csc.names _ p hp
  have h2 := mem_names hx
  rw [e] at h1
  have := F.nod
  have key : ∀ (l : List (Str × NameKind)), (l.map (·.1)).Nodup -> (x, NameKind.cell) ∈ l -> (x, NameKind.free) ∈ l -> False := by
   intro l
   induction l with
   | nil => intro _ h; cases h
   | cons q l ih =>
    intro hn a b
    rw [List.map_cons, List.nodup_cons] at hn
    rcases jK.1 a with a | a <;> rcases jK.1 b with b | b
    ·rw [<- a] at b; cases b
    ·exact hn.1 (jM.2 ⟨_, b, by rw [<- a]⟩)
    ·exact hn.1 (jM.2 ⟨_, a, by rw [<- b]⟩)
    ·exact ih hn.2 a b
  exact key _ this h1 h2
theorem EnvG.comp (G : EnvG sc U) (hok : compOk csc sc = true) (C : Addr) : EnvG (relab csc sc) (cEnv csc U C) where
 scope := relab_eq G.scope
 kind := (compFacts hok G).kind
 globals := G.globals
 builtins := G.builtins
 cel := fun x hx => by
  have F := compFacts hok G
  have hl : (relab csc sc).names.lookup x = (csc.names.find? fun p => x == p.1).map fun p => if (p.2 == .free && sc.kind == .function && sc.names.lookup p.1 == some .cell) then NameKind.cell else p.2 := by
   rw [<- lookup_relab]
   show (csc.names.map _).lookup x = _
   congr 1
   refine List.map_congr_left fun p zz => ?_
   obtain ⟨n, k⟩ := p
   dsimp only
   split <;> rfl
  have hk : csc.names.lookup x = some .cell \/ csc.names.lookup x = some .free := by
   rw [lookup_find]
   rw [hl] at hx
   cases hf : csc.names.find? fun p => x == p.1 with
   | none => rw [hf] at hx; simp at hx
   | some p =>
    rw [hf] at hx
    simp only [Option.map_some, Option.some.injEq] at hx ⊢
    cases hp : p.2 <;> rw [hp] at hx <;> simp at hx ⊢
  rcases hk with hk | hk
  ·show ((cellsFrom (C + 1) csc.names (clOf U csc.names [])).lookup x).isSome = true
   rw [cellsFrom_app]
   have h1 : ((cellsFrom (C + 1) csc.names []).lookup x).isSome = true := PySem.W.cellsFrom_some _ _ _ (.inl hk)
   rw [lookup_app_some _ _ h1]; exact h1
  ·rw [cEnv_lookup F hk]; exact F.free _ (mem_names hk) rfl
theorem mem_cells_split {C : Addr} : a ∈ (cEnv csc U C).cells.map (·.2) ↔ a ∈ (cellsFrom (C + 1) csc.names []).map (·.2) \/ a ∈ (clOf U csc.names []).map (·.2) := by
 show a ∈ (cellsFrom (C + 1) csc.names (clOf U csc.names [])).map (·.2) ↔ _
 rw [cellsFrom_app, List.map_append, List.mem_append]
theorem clOf_cells (F : CompFacts csc sc U) (h : a ∈ (clOf U csc.names []).map (·.2)) : a ∈ U.cells.map (·.2) := by
 obtain ⟨p, hp, rfl⟩ := jM.1 h
 exact jM.2 ⟨_, mem_of_lookup (clOf_mem csc.names [] F.free (fun zz h => nomatch h) p hp), rfl⟩
theorem mem_restC : a ∈ restC csc U ↔ (a = U.locals \/ a ∈ U.cells.map (·.2)) /\ a ∉ (clOf U csc.names []).map (·.2) := by
 simp [restC, List.mem_filter]
theorem compX {C D I a : Nat} (S : St ba B U Γ M h) (F : CompFacts csc sc U) : a ∈ B ++ own U M -> a ∈ bC D I B csc U ++ own (cEnv csc U C) M := by
 intro ha
 rcases jA.1 ha with ha | ha
 ·simp [ha]
 ·rw [mem_own] at ha
  by_cases hc : a ∈ (clOf U csc.names []).map (·.2)
  ·refine jA.2 (.inr (mem_own.2 (.inr (.inl (mem_cells_split.2 (.inr hc))))))
  ·rcases ha with ha | ha | ha
   ·have : a ∈ restC csc U := mem_restC.2 ⟨.inl ha, hc⟩
    simp [this]
   ·have : a ∈ restC csc U := mem_restC.2 ⟨.inr ha, hc⟩
    simp [this]
   ·exact jA.2 (.inr (mem_own.2 (.inr (.inr ha))))
theorem compX' {C D I a : Nat} (S : St ba B U Γ M h) (F : CompFacts csc sc U) : a ∈ bC D I B csc U ++ own (cEnv csc U C) M -> a = D \/ a = I \/ a = C \/ a ∈ (cellsFrom (C + 1) csc.names []).map (·.2) \/ a ∈ B ++ own U M := by
 intro ha
 rcases jA.1 ha with ha | ha
 ·rcases jK.1 ha with ha | ha
  ·exact .inl ha
  ·rcases jK.1 ha with ha | ha
   ·exact .inr (.inl ha)
   ·refine .inr (.inr (.inr (.inr ?_)))
    rcases jA.1 ha with ha | ha
    ·exact jA.2 (.inl ha)
    ·exact jA.2 (.inr (mem_own.2 ((mem_restC.1 ha).1.imp id .inl)))
 ·rcases mem_own.1 ha with ha | ha | ha
  ·exact .inr (.inr (.inl ha))
  ·rcases mem_cells_split.1 ha with ha | ha
   ·exact .inr (.inr (.inr (.inl ha)))
   ·exact .inr (.inr (.inr (.inr (jA.2 (.inr (mem_own.2 (.inr (.inl (clOf_cells F ha)))))))))
  ·exact .inr (.inr (.inr (.inr (jA.2 (.inr (mem_own.2 (.inr (.inr ha))))))))
theorem St.comp {h_0 h_2 : Heap} (S : St ba B U Γ M h_0) (G : EnvG sc U) (hok : compOk csc sc = true) (hs : SubC csc sc Γ' Γ) (e : Ext h_0 h_2) {I : Nat} (hnI : h_0.get? I = .none) (hlI : ∃ o, h_2.get? I = some o) :
  St ba (bC h_2.objs.size I B csc U) (cEnv csc U (h_2.objs.size + 1)) Γ' M (h4 csc h_2) := by
 have F := compFacts hok G
 have E4 := h4_ext csc h_2
 have E0 : Ext h_0 (h4 csc h_2) := e.trans E4
 have CO := h4_cells csc h_2
 have lt0 : ∀ a : Nat, a ∈ B ++ own U M -> a < h_2.objs.size := fun a ha => by obtain ⟨o, x⟩ := S.allLive a ha; exact Heap.lt_size (e _ _ x)
 have ltI : I < h_2.objs.size := by obtain ⟨o, x⟩ := hlI; exact Heap.lt_size x
 have geC : ∀ a : Nat, a ∈ (cellsFrom (h_2.objs.size + 1 + 1) csc.names []).map (·.2) -> h_2.objs.size + 2 <= a := fun a ha => by obtain ⟨p, hp, rfl⟩ := jM.1 ha; exact (CO.empty p.1 p.2 hp).2
 have nI : I ∉ B ++ own U M := fun hm => by obtain ⟨o, x⟩ := S.allLive I hm; rw [hnI] at x; cases x
 have mv : ∀ (b : Nat) (o : Obj), b ∉ B ++ own U M -> h_0.get? b = some o -> b ∉ bC h_2.objs.size I B csc U ++ own (cEnv csc U (h_2.objs.size + 1)) M /\ (h4 csc h_2).get? b = some o := fun b o hb x => by
  refine ⟨fun hm => ?_, E0 b o x⟩
  have hlt : b < h_2.objs.size := Heap.lt_size (e b o x)
  rcases compX' S F hm with hb' | hb' | hb' | hb' | hb'
  ·lia
  ·rw [hb', hnI] at x; cases x
  ·lia
  ·have := geC b hb'; lia
  ·exact hb hb'
 refine ⟨S.keep.trans E0, ⟨⟨_, h4_ns csc h_2⟩, fun p hp => ?_, ?_, fun p hp => ?_⟩, fun x d hx => ?_, fun p hp => ?_, S.nod, fun (a : Nat) ha => ⟨fun hc => ?_, fun hc => ?_⟩, fun (a : Nat) ha hm => ?_, fun (a : Nat) ha => ?_, fun (a : Nat) ha => ?_⟩
 ·have hp' : p ∈ cellsFrom (h_2.objs.size + 1 + 1) csc.names (clOf U csc.names []) := hp
  rw [cellsFrom_app] at hp'
  rcases jA.1 hp' with hp' | hp'
  ·exact ⟨_, (CO.empty p.1 p.2 hp').1⟩
  ·obtain ⟨ov, c⟩ := S.ok.cell (p.1, p.2) (mem_of_lookup (clOf_mem csc.names [] F.free (fun zz h => nomatch h) p hp'))
   exact ⟨ov, c.keeps E0⟩
 ·show (cellsFrom (h_2.objs.size + 1 + 1) csc.names (clOf U csc.names [])).Pairwise _
  rw [cellsFrom_app, List.pairwise_append]
  refine ⟨CO.apart, ?_, fun p hp q hq => ?_⟩
  ·have nd := clOf_pair (U := U) csc.names [] F.nod List.nodup_nil (fun zz h => nomatch h)
   rw [List.Nodup, List.pairwise_map] at nd
   refine nd.imp_of_mem fun {p q} hp hq hne he => hne ?_
   have h1 := mem_of_lookup (clOf_mem csc.names [] F.free (fun zz h => nomatch h) p hp)
   have h2 := mem_of_lookup (clOf_mem csc.names [] F.free (fun zz h => nomatch h) q hq)
   exact name_of_addr S.ok.apart h1 (he ▸ h2)
  ·have h1 : h_2.objs.size + 2 <= (p.2 : Nat) := (CO.empty p.1 p.2 hp).2
   refine PySem.W.neN ?_
   have h2 := lt0 q.2 (jA.2 (.inr (mem_own.2 (.inr (.inl (clOf_cells F (jM.2 ⟨q, hq, rfl⟩)))))))
   lia
 ·show p.2 ≠ h_2.objs.size + 1
  refine PySem.W.neN ?_
  have hp' : p.2 ∈ (cEnv csc U (h_2.objs.size + 1)).cells.map (·.2) := jM.2 ⟨p, hp, rfl⟩
  rcases mem_cells_split.1 hp' with hp' | hp'
  ·have := geC _ hp'; lia
  ·have := lt0 _ (jA.2 (.inr (mem_own.2 (.inr (.inl (clOf_cells F hp')))))); lia
 ·obtain ⟨h1, h2, h3⟩ := hs x d hx
  obtain ⟨v, hv, av⟩ := S.var x d h1
  refine ⟨v, ?_, av.move mv⟩
  have hfree : isFree (sc.names.lookup x) = true := h3
  rcases hv with ⟨hl, _⟩ | ⟨_, c, hc, hcell⟩
  ·rw [Env.kindOf, G.scope] at hl; rw [hl] at hfree; simp [isFree] at hfree
  ·refine .inr ⟨?_, c, ?_, hcell.keeps E0⟩
   ·show (relabel csc U).names.lookup x = _ \/ (relabel csc U).names.lookup x = _
    rw [relab_eq G.scope]
    have hl : (relab csc sc).names.lookup x = (csc.names.find? fun p => x == p.1).map fun p => if (p.2 == .free && sc.kind == .function && sc.names.lookup p.1 == some .cell) then NameKind.cell else p.2 := by
     rw [<- lookup_relab]
     show (csc.names.map _).lookup x = _
     congr 1
     refine List.map_congr_left fun p zz => ?_
     obtain ⟨n, k⟩ := p
     dsimp only
     split <;> rfl
    rw [hl]
    rw [lookup_find] at h2
    cases hf : csc.names.find? fun p => x == p.1 with
    | none => rw [hf] at h2; cases h2
    | some p =>
     rw [hf] at h2
     simp only [Option.map_some, Option.some.injEq] at h2 ⊢
     rw [h2]
     by_cases hcc : (NameKind.free == NameKind.free && sc.kind == ScopeKind.function && List.lookup p.fst sc.names == some NameKind.cell) = true
     ·rw [if_pos hcc]; exact .inl rfl
     ·rw [if_neg hcc]; exact .inr rfl
   ·rw [cEnv_lookup F h2]; exact hc
 ·obtain ⟨vs, n, g, r⟩ := (S.muts p hp).at_
  exact ⟨vs, n, E0 _ _ g, r.move mv⟩
 ·have hc' : @Eq Nat a (h_2.objs.size + 1) := hc
  have := lt0 a (jA.2 (.inr (mem_own.2 (.inr (.inr ha))))); lia
 ·rcases mem_cells_split.1 hc with hc | hc
  ·have := geC _ hc
   have := lt0 a (jA.2 (.inr (mem_own.2 (.inr (.inr ha))))); lia
  ·exact (S.dis a ha).2 (clOf_cells F hc)
 ·have hm' := mem_own.1 hm
  have hC : (cEnv csc U (h_2.objs.size + 1)).locals = h_2.objs.size + 1 := rfl
  rw [hC] at hm'
  have old : a ∈ (clOf U csc.names []).map (·.2) \/ a ∈ M.map (·.1) -> a ∈ own U M := fun h => h.elim (fun h => mem_own.2 (.inr (.inl (clOf_cells F h)))) fun h => mem_own.2 (.inr (.inr h))
  have cases3 : @Eq Nat a (h_2.objs.size + 1) \/ h_2.objs.size + 2 <= a \/ (a ∈ (clOf U csc.names []).map (·.2) \/ a ∈ M.map (·.1)) := by
   rcases hm' with h | h | h
   ·exact .inl h
   ·rcases mem_cells_split.1 h with h | h
    ·exact .inr (.inl (geC _ h))
    ·exact .inr (.inr (.inl h))
   ·exact .inr (.inr (.inr h))
  rcases jK.1 ha with ha | ha
  ·have ha : @Eq Nat a h_2.objs.size := ha
   rcases cases3 with h | h | h
   ·lia
   ·lia
   ·have := lt0 a (jA.2 (.inr (old h))); lia
  ·rcases jK.1 ha with ha | ha
   ·have ha : @Eq Nat a I := ha
    rcases cases3 with h | h | h
    ·lia
    ·lia
    ·exact nI (ha ▸ jA.2 (.inr (old h)))
   ·have hlt : a < h_2.objs.size := by
     rcases jA.1 ha with ha | ha
     ·exact lt0 a (jA.2 (.inl ha))
     ·exact lt0 a (jA.2 (.inr (mem_own.2 ((mem_restC.1 ha).1.imp id .inl))))
    rcases cases3 with h | h | h
    ·lia
    ·lia
    ·rcases jA.1 ha with ha | ha
     ·exact S.bdis a ha (old h)
     ·rcases h with h | h
      ·exact (mem_restC.1 ha).2 h
      ·rcases (mem_restC.1 ha).1 with h' | h'
       ·exact (S.dis a h).1 h'
       ·exact (S.dis a h).2 h'
 ·rcases jK.1 ha with ha | ha
  ·rw [ha]; exact ⟨_, h4_acc csc h_2⟩
  ·rcases jK.1 ha with ha | ha
   ·obtain ⟨o, x⟩ := hlI; rw [ha]; exact ⟨o, E4 _ _ x⟩
   ·have hin : a ∈ B ++ own U M := by
     rcases jA.1 ha with ha | ha
     ·exact jA.2 (.inl ha)
     ·exact jA.2 (.inr (mem_own.2 ((mem_restC.1 ha).1.imp id .inl)))
    obtain ⟨o, x⟩ := S.allLive a hin
    exact ⟨o, E0 _ _ x⟩
 ·rcases compX' S F ha with h | h | h | h | h
  ·exact none_of_ext S.keep (none_of_ext e (none_of_le (Nat.le_of_eq h.symm)))
  ·rw [h]; exact none_of_ext S.keep hnI
  ·exact none_of_ext S.keep (none_of_ext e (none_of_le (by lia)))
  ·exact none_of_ext S.keep (none_of_ext e (none_of_le (by have := geC _ h; lia)))
  ·exact S.out a h
end
end
section
theorem ltz {a : Nat} {o : Obj} (e : h.get? a = some o) : a < h.objs.size := Heap.lt_size e
section
noncomputable def ifsTree (ifs : List Expr) (U : Env) : Sem Bool := forIn ifs true fun c r => if r = true then do let ok <- isTrue c U (eval c U); pure (ForInStep.yield ok) else pure (ForInStep.yield r)
theorem comp_loop {Rr : Result -> Shared -> Prop} {ifs : List Expr} {scope : Scope} {it acc : Value} (I : Nat -> Shared -> Prop)
  (turn : ∀ n s, I n s -> ∀ E', wpAny (model pg w) A (pyNext it) (fun r s_1 => match r with
   | none => Rr (.ok .next) s_1
   | some v => wpAny (model pg w) A (letOwnedTupleGo target it v) (fun zz s_2 => wpAny (model pg w) A (assign target U v) (fun zz s3 =>
     wpAny (model pg w) A (ifsTree ifs U) (fun ok s4 =>
      if ok = true then wpAny (model pg w) A (eval elt U) (fun x s5 => wpAny (model pg w) A (call (.builtin "list.append") [acc, x]) (fun zz s6 => ∃ m, m < n /\ I m s6) E' s5) E' s4
      else ∃ m, m < n /\ I m s4) E' s3) E' s_2) E' s_1) E' s)
  (n : Nat) (h : I n s) : codeAny (model pg w) A (.compLoop (.ListComp elt [⟨target, iter, ifs, 0⟩] scope pos) 0 it acc U) Rr s := by
 refine codeAny_loop rfl I (fun n s hI => ?_) n h
 show wpAny _ A ((compTurn (.ListComp elt [⟨target, iter, ifs, 0⟩] scope pos) 0 it acc U).onRaise (fun x => do noteFrame x U; theTreesLotGoes x)) _ _ s
 refine wpAny_noted ?_
 rw [compTurn_list]
 refine jB (wpAny_standAt (jB (wpAny_mono (turn n s hI _) (fun r s_1 h_1 => ?_) fun zz zz h' => h')))
 cases r with
 | none => exact jP h_1
 | some v =>
  refine jB (wpAny_mono h_1 (fun zz s_2 h_2 => ?_) fun zz zz h' => h')
  refine jB (wpAny_mono h_2 (fun zz s3 h_3 => jB (wpAny_mono h_3 (fun ok s4 h_4 => ?_) fun zz zz h' => h')) fun zz zz h' => h')
  cases ok with
  | false => exact jP ⟨rfl, h_4⟩
  | true => exact jB (jB (wpAny_mono h_4 (fun x s5 h_5 => jB (wpAny_mono h_5 (fun zz s6 h_6 => jP (jP ⟨rfl, h_6⟩)) fun zz zz h' => h')) fun zz zz h' => h'))
end
section
theorem St.offMem {I : Addr} (hI : I ∈ B) (S : St ba B U Γ M h) (o : Off [I] h h') (hl : ∃ x, h'.get? I = some x) : St ba B U Γ M h' := by
 have hIX : I ∈ B ++ own U M := jA.2 (.inl hI)
 have hI' : I ∉ own U M := S.bdis I hI
 have offX : Off (B ++ own U M) h h' := o.mono fun y hy => by rw [jS.1 hy]; exact hIX
 have ho : ∀ b x, b ∈ own U M -> h.get? b = some x -> h'.get? b = some x := fun b x hb e => o b x (fun hm => hI' (jS.1 hm ▸ hb)) e
 refine ⟨fun b x e => o b x (fun hm => ?_) (S.keep b x e), S.ok.keep fun b x hb e => ho b x (mem_own.2 (hb.imp id .inl)) e, fun x d hx => ?_, fun p hp => ?_, S.nod, S.dis, S.bdis, fun a ha => ?_, S.out⟩
 ·have := S.out I hIX; rw [<- jS.1 hm] at this; rw [this] at e; cases e
 ·obtain ⟨v, hv, av⟩ := S.var x d hx
  exact ⟨v, hv.keep fun b x hb e => ho b x (mem_own.2 (hb.imp id .inl)) e, av.off offX⟩
 ·obtain ⟨vs, n, g, r⟩ := (S.muts p hp).at_
  exact ⟨vs, n, ho _ _ (mem_own_mut hp) g, r.off offX⟩
 ·by_cases e : a = I
  ·rw [e]; exact hl
  ·obtain ⟨x, g⟩ := S.live a ha
   exact ⟨x, o a x (fun hm => e (jS.1 hm)) g⟩
noncomputable def TrI (pg : Program) (w : World) (ba : Heap) (q : Bool) (k : Nat) (sc : Scope) (Γ : Gam) (ifs : List Expr) (b : Bool) : Prop :=
 ∀ (U : Env) (s : Shared) (B : List Addr) (M : Mut) (A : Around) (Q : Bool -> Shared -> Prop) (E : VP),
  EnvG sc U -> St ba B U Γ M s.heap -> Room q k A -> (∀ h' tk, Ext s.heap h' -> Q b { s with heap := h', toks := tk }) -> wpAny (model pg w) A (ifsTree ifs U) Q E s
theorem TrI.nil : TrI pg w ba q k sc Γ [] true := by
 intro U s B M A Q E G S R hQ
 exact jP (hQ s.heap s.toks (Ext.refl _))
theorem TrI.one {c : Expr} {b : Bool} (h : Tr pg w ba q k sc Γ c b) : TrI pg w ba q k sc Γ [c] b := by
 intro U s B M A Q E G S R hQ
 unfold ifsTree
 rw [List.forIn_cons]
 simp only [if_true]
 refine jB (jB (h U s B M A _ E G S R fun h' tk e => jP ?_))
 exact jP (hQ h' tk e)
theorem slot_fresh (hok : compOk csc sc = true) (G : EnvG sc U) {C : Addr} (hx : storable csc x = true) : slot (cEnv csc U C) x = C \/ slot (cEnv csc U C) x ∈ (cellsFrom (C + 1) csc.names []).map (·.2) := by
 have F := compFacts hok G
 rw [storable, Bool.or_eq_true, beq_iff_eq, beq_iff_eq] at hx
 rcases hx with hx | hx
 ·left
  have : (cEnv csc U C).kindOf x = some .local := lookup_relabel_local hx
  rw [slot, if_pos this]; rfl
 ·by_cases hl : (cEnv csc U C).kindOf x = some .local
  ·left; rw [slot, if_pos hl]; rfl
  ·right
   rw [slot, if_neg hl]
   have h1 : ((cellsFrom (C + 1) csc.names []).lookup x).isSome = true := PySem.W.cellsFrom_some _ _ _ (.inl hx)
   obtain ⟨c, hc⟩ := Option.isSome_iff_exists.1 h1
   have : (cEnv csc U C).cells.lookup x = some c := by
    show (cellsFrom (C + 1) csc.names (clOf U csc.names [])).lookup x = _
    rw [cellsFrom_app, lookup_app_some _ _ h1]; exact hc
   rw [this]
   exact jM.2 ⟨_, mem_of_lookup hc, rfl⟩
structure CompOk (pg : Program) (w : World) (ba : Heap) (k : Nat) (sc csc : Scope) (Γ Γ' : Gam) (elt target : Expr) (ifs : List Expr) {α : Type} (enc : α -> D) (xs : List α) (p : α -> Bool) (f : α -> D) (ns : List Str) (bs : D -> Gam) : Prop where
 ok : compOk csc sc = true
 see : SubC csc sc Γ' Γ
 names : ns.all (storable csc) = true
 bsn : ∀ d, (bs d).map (·.1) = ns
 tgt : ∀ x ∈ xs, As pg w ba true k (relab csc sc) target (enc x) (bs (enc x))
 tests : ∀ x ∈ xs, TrI pg w ba true k (relab csc sc) (bs (enc x) ++ Γ') ifs (p x)
 elts : ∀ x ∈ xs, p x = true -> Ev pg w ba true k (relab csc sc) (bs (enc x) ++ Γ') elt (f x)
 size : xs.length <= sizeLine
theorem cmp1 {f : α -> D} (elts : ∀ y ∈ xs, true = true -> Ev pg w ba true k (relab csc sc) ([(x, enc y)] ++ Γ') elt (f y)) (size : xs.length <= sizeLine)
  (ok : autoParam (compOk csc sc = true) tA) (see : autoParam (SubC csc sc Γ' Γ) tA) (nm : autoParam ([x].all (storable csc) = true) tA) (st : autoParam (storable (relab csc sc) x = true) tA) :
  CompOk pg w ba k sc csc Γ Γ' elt (.Name x pos) [] enc xs (fun zz => true) f [x] (fun d => [(x, d)]) := ⟨ok, see, nm, fun zz => rfl, fun y hy => As.name st, fun y hy => TrI.nil, elts, size⟩
theorem comp_core {ifs : List Expr} {p : α -> Bool} {f : α -> D} {ns : List Str} {bs : D -> Gam} (O : CompOk pg w ba k sc csc Γ Γ' elt target ifs enc xs p f ns bs)
 (G : EnvG sc U) (S : St ba B U Γ M s.heap) (Rm : Room true k A) {h_2 : Heap} {tk_2 : Nat} {I : Nat} (e_2 : Ext s.heap h_2) (hnI : s.heap.get? I = .none) (sr : Src pg w A (B ++ own U M) h_2 I (xs.map enc))
  {RR : Value -> Addr -> Result -> Shared -> Prop}
  (hRR : ∀ h' tk m, h'.Ns (h_2.objs.size + 1) m -> At ((h_2.objs.size + 1) :: (B ++ own U M)) h' (.ref h_2.objs.size) (.list ((xs.filter p).map f)) -> Off [I] h_2 h' -> RR (.ref h_2.objs.size) (h_2.objs.size + 1) (.ok .next) { s with heap := h', toks := tk }) :
  wpAny (model pg w) A (newList []) (fun acc s3 => wpAny (model pg w) A (newFunctionEnv csc U.globals (clOf U csc.names []) [] U.qual .none .none (some U)) (fun cenv s4 =>
   codeAny (model pg w) A (.compStart (.ListComp elt [⟨target, iter, ifs, 0⟩] csc pos) 0 (.ref I) acc { cenv with scope := relabel csc U }) (RR acc cenv.locals) s4) E s3) E ({ s with heap := h_2, toks := tk_2 } : Shared) := by
 have F := compFacts O.ok G
 obtain ⟨fp, P, St', W, st0, hfp, hval, hcls, hIfp⟩ := sr.src
 have hlI : ∃ o, h_2.get? I = some o := let ⟨_, o, ho, _⟩ := hcls 0 h_2 st0; ⟨o, ho⟩
 have S4 := S.comp G O.ok O.see e_2 hnI hlI
 have G4 := G.comp O.ok (h_2.objs.size + 1)
 have CO := h4_cells csc h_2
 refine wpAny_newObj_type (newEnv_comp ?_)
 show codeAny _ _ (.compStart _ 0 (.ref I) (.ref h_2.objs.size) (cEnv csc U (h3 h_2).objs.size)) (RR (.ref h_2.objs.size) (h3 h_2).objs.size) ({ s with heap := h4 csc h_2, toks := tk_2 } : Shared)
 rw [h3_size]
 have geC : ∀ a : Nat, a ∈ (cellsFrom (h_2.objs.size + 1 + 1) csc.names []).map (·.2) -> h_2.objs.size + 2 <= a := fun a ha => by obtain ⟨p, hp, rfl⟩ := jM.1 ha; exact (CO.empty p.1 p.2 hp).2
 generalize hZ : h_2.objs.size :: I :: (h_2.objs.size + 1) :: (cellsFrom (h_2.objs.size + 1 + 1) csc.names []).map (·.2) = Z at *
 have hZold : ∀ b : Nat, b ∈ Z -> b = I \/ h_2.get? b = .none := fun b hb => by
  rw [<- hZ] at hb
  rcases jK.1 hb with h | hb
  ·exact .inr (none_of_le (Nat.le_of_eq (Eq.symm h)))
  ·rcases jK.1 hb with h | hb
   ·exact .inl h
   ·rcases jK.1 hb with h | hb
    ·have h : @Eq Nat b (h_2.objs.size + 1) := h
     exact .inr (none_of_le (by lia))
    ·exact .inr (none_of_le (by have := geC b hb; lia))
 have DZ : h_2.objs.size ∈ Z := by rw [<- hZ]; exact jC
 have IZ : I ∈ Z := by rw [<- hZ]; exact jT _ jC
 have hIB' : I ∈ bC h_2.objs.size I B csc U := jT _ jC
 have hDB' : h_2.objs.size ∈ bC h_2.objs.size I B csc U := jC
 have hfpZ : ∀ b, b ∈ fp -> b ≠ I -> b ∉ Z := fun b hb hbI hm => by
  obtain ⟨_, o, ho⟩ := hfp b hb hbI
  rcases hZold b hm with h | h
  ·exact hbI h
  ·rw [h] at ho; cases ho
 have loop : ∀ s3 : Shared, s3 = { s with heap := h4 csc h_2, toks := tk_2 } ->
   codeAny (model pg w) A (.compLoop (.ListComp elt [⟨target, iter, ifs, 0⟩] csc pos) 0 (.ref I) (.ref h_2.objs.size) (cEnv csc U (h_2.objs.size + 1))) (RR (.ref h_2.objs.size) (h_2.objs.size + 1)) s3 := by
  rintro s3 rfl
  refine comp_loop (fun n s' => LoopV s s' n xs.length fun i h' vs m => St' i h' /\ St ba (bC h_2.objs.size I B csc U) (cEnv csc U (h_2.objs.size + 1)) Γ' M h' /\
   h'.get? h_2.objs.size = some (listO vs m) /\ Ats (bC h_2.objs.size I B csc U ++ own (cEnv csc U (h_2.objs.size + 1)) M) h' vs.toList (((xs.take i).filter p).map f) /\ Off Z (h4 csc h_2) h') ?_ (xs.length + 1)
   ⟨0, _, _, #[], 0, rfl, Nat.zero_le _, rfl, W.frame _ _ _ st0 fun b zz o e => h4_ext csc h_2 b o e, S4, h4_acc csc h_2, by simpa using Ats.nil, Off.refl _ _⟩
  intro n s' hI E'
  refine bc fun hn => ?_
  obtain ⟨i, h', tk, vs, m, rfl, hi, rfl, sti, Si, hacc, has, off⟩ := hI
  refine hn ?_
  have off2 : ∀ {h'' : Heap}, Off Z (h4 csc h_2) h'' -> Off [I] h_2 h'' := fun o' b ob hb e => o' b ob (fun hm => by
   rcases hZold b hm with h | h
   ·exact hb (jS.2 h)
   ·rw [h] at e; cases e) (h4_ext csc h_2 b ob e)
  by_cases hlt : i < xs.length
  ·have hmem : xs[i] ∈ xs := List.getElem_mem hlt
   have hd : (xs.map enc)[i]? = some (enc xs[i]) := by simp [hlt]
   have htake : xs.take (i + 1) = xs.take i ++ [xs[i]] := by simp
   refine W.item i _ _ _ (by simpa using hlt) sti fun v h_3 tk_3 hP st_3 hk_3 => ?_
   have o3 : Off [I] h' h_3 := fun b o hb e => hk_3 b o hb e
   have live3 : ∃ T o, h_3.get? I = some o /\ o.cls = .type T /\ ownsTuples T = false := hcls (i + 1) h_3 st_3
   have S3 := Si.offMem hIB' o3 (let ⟨_, o, ho, _⟩ := live3; ⟨o, ho⟩)
   refine letOwned_ok live3 ?_
   have off3 : Off Z (h4 csc h_2) h_3 := off.trans (o3.mono fun y hy => by rw [jS.1 hy]; exact IZ)
   have av : At (bC h_2.objs.size I B csc U ++ own (cEnv csc U (h_2.objs.size + 1)) M) h_3 v (enc xs[i]) := by
    refine (hval i v _ hP hd).move fun (b : Nat) o hb ho => ⟨fun hm => ?_, off3 b o (fun hm => ?_) (h4_ext csc h_2 b o ho)⟩
    ·have hbl : b < h_2.objs.size := Heap.lt_size ho
     rcases compX' S F hm with h | h | h | h | h
     ·lia
     ·exact hb (h ▸ jC)
     ·lia
     ·have := geC b h; lia
     ·exact hb (jT _ h)
    ·rcases hZold b hm with h | h
     ·exact hb (h ▸ jC)
     ·rw [h] at ho; cases ho
   refine O.tgt _ hmem _ _ _ Γ' M v A _ E' G4 S3 Rm av fun h_4 tk_4 S4' zz o4 => ?_
   have slotsZ : ∀ y ∈ (bs (enc xs[i])).map (fun p => slot (cEnv csc U (h_2.objs.size + 1)) p.1), y ∈ Z := fun y hy => by
    obtain ⟨pr, hpr, rfl⟩ := jM.1 hy
    have hn : pr.1 ∈ ns := by rw [<- O.bsn (enc xs[i])]; exact jM.2 ⟨pr, hpr, rfl⟩
    have hst := List.all_eq_true.1 O.names _ hn
    rw [<- hZ]
    rcases slot_fresh O.ok G (C := h_2.objs.size + 1) hst with h | h
    ·rw [h]; simp
    ·simp [h]
   have off4 : Off Z (h4 csc h_2) h_4 := off3.trans (o4.mono slotsZ)
   have frame4 : ∀ b, b = h_2.objs.size \/ b ∈ fp -> b ∉ (bs (enc xs[i])).map (fun p => slot (cEnv csc U (h_2.objs.size + 1)) p.1) := fun (b : Nat) hb hm => by
    obtain ⟨pr, hpr, e⟩ := jM.1 hm
    have hn : pr.1 ∈ ns := by rw [<- O.bsn (enc xs[i])]; exact jM.2 ⟨pr, hpr, rfl⟩
    have hst := List.all_eq_true.1 O.names _ hn
    have hbl : b <= h_2.objs.size := by
     rcases hb with h | h
     ·exact Nat.le_of_eq h
     ·by_cases hbI : b = I
      ·obtain ⟨o, x⟩ := hlI; rw [hbI]; exact Nat.le_of_lt (Heap.lt_size x)
      ·obtain ⟨_, o, x⟩ := hfp b h hbI; exact Nat.le_of_lt (Heap.lt_size x)
    rcases slot_fresh O.ok G (C := h_2.objs.size + 1) hst with h | h
    ·rw [e] at h
     have h : @Eq Nat b (h_2.objs.size + 1) := h
     lia
    ·rw [e] at h; have := geC b h; lia
   have acc4 : h_4.get? h_2.objs.size = some (listO vs m) := o4 _ _ (frame4 _ (.inl rfl)) (o3 _ _ (fun hm => by
    have : @Eq Nat h_2.objs.size I := jS.1 hm
    obtain ⟨o, x⟩ := hlI; have := ltz x; lia) hacc)
   have st4 : St' (i + 1) h_4 := W.frame _ _ _ st_3 fun b hb o e => o4 b o (frame4 b (.inr hb)) e
   have has4 : Ats (bC h_2.objs.size I B csc U ++ own (cEnv csc U (h_2.objs.size + 1)) M) h_4 vs.toList (((xs.take i).filter p).map f) := by
    refine has.move fun b o hb ho => ⟨hb, o4 b o (fun hm => hb ?_) (o3 b o (fun hm => hb ?_) ho)⟩
    ·obtain ⟨pr, hpr, e⟩ := jM.1 hm
     have hn : pr.1 ∈ ns := by rw [<- O.bsn (enc xs[i])]; exact jM.2 ⟨pr, hpr, rfl⟩
     have hst := List.all_eq_true.1 O.names _ hn
     refine jA.2 (.inr (mem_own.2 ?_))
     rcases slot_fresh O.ok G (C := h_2.objs.size + 1) hst with h | h
     ·exact .inl (e ▸ h)
     ·exact .inr (.inl (mem_cells_split.2 (.inl (e ▸ h))))
    ·rw [jS.1 hm]; exact jA.2 (.inl hIB')
   refine O.tests _ hmem _ _ _ M A _ E' G4 S4' Rm fun h_5 tk_5 e5 => ?_
   have S5 := S4'.ext e5
   have subΓ : Sub Γ' (bs (enc xs[i]) ++ Γ') := fun x d hx => by
    rw [lookup_app_none]
    ·exact hx
    ·intro pr hpr e
     have hn : pr.1 ∈ ns := by rw [<- O.bsn (enc xs[i])]; exact jM.2 ⟨pr, hpr, rfl⟩
     have hst := List.all_eq_true.1 O.names _ hn
     have hfr := (O.see x d hx).2.1
     rw [e] at hst
     simp [storable, hfr] at hst
   cases hp : p xs[i] with
   | false =>
    rw [if_neg (by simp)]
    refine ⟨xs.length + 1 - (i + 1), by lia, i + 1, h_5, tk_5, vs, m, rfl, by lia, rfl, W.frame _ _ _ st4 fun b zz o e => e5 b o e, S5.sub subΓ, e5 _ _ acc4, ?_, off4.trans e5.off⟩
    rw [htake, List.filter_append]; simpa [hp] using has4.ext e5
   | true =>
    rw [if_pos rfl]
    refine (O.elts _ hmem hp _ _ _ M G4 S5).bind Rm fun y h_6 tk_6 e6 ay => ?_
    have acc6 : h_6.PlainList h_2.objs.size vs := ⟨m, e6 _ _ (e5 _ _ acc4)⟩
    have hvs : vs.size <= sizeLine := by
     have h1 := size_of_ats has
     rw [List.length_map] at h1
     have h2 := List.length_filter_le p (xs.take i)
     rw [List.length_take] at h2
     have := O.size
     lia
    refine wpAny_list_append_plain acc6 (fun h_7 hpl hsame => ?_) hvs
    obtain ⟨m', acc7⟩ := hpl
    have o7 : Off [h_2.objs.size] h_6 h_7 := same_off hsame
    have S7 := (S5.ext e6).offMem hDB' o7 ⟨_, acc7⟩
    refine ⟨xs.length + 1 - (i + 1), by lia, i + 1, h_7, tk_6, vs.push y, m', rfl, by lia, rfl, ?_, S7.sub subΓ, acc7, ?_, ((off4.trans e5.off).trans e6.off).trans (o7.mono fun y hy => by rw [jS.1 hy]; exact DZ)⟩
    ·refine W.frame _ _ _ (W.frame _ _ _ st4 fun b zz o e => e6 b o (e5 b o e)) fun (b : Nat) hb o e => o7 b o (fun hm => ?_) e
     have hbD : @Eq Nat b h_2.objs.size := jS.1 hm
     by_cases hbI : b = I
     ·obtain ⟨o, x⟩ := hlI; have := ltz x; lia
     ·obtain ⟨_, o, x⟩ := hfp b hb hbI; have : b < h_2.objs.size := Heap.lt_size x; lia
    ·rw [htake, List.filter_append, List.map_append]
     have offD : Off (bC h_2.objs.size I B csc U ++ own (cEnv csc U (h_2.objs.size + 1)) M) h_6 h_7 := o7.mono fun y hy => by rw [jS.1 hy]; exact jC
     have := (((has4.ext e5).ext e6).off offD).push (ay.off offD)
     simpa [hp] using this
  ·have hie : i = xs.length := by lia
   subst hie
   rw [List.take_length] at has
   refine W.done _ _ _ (by rw [List.length_map]; exact sti) fun h_3 tk_3 hk_3 => ?_
   have o3 : Off [I] h' h_3 := fun b o hb e => hk_3 b o hb e
   have off3 : Off Z (h4 csc h_2) h_3 := off.trans (o3.mono fun y hy => by rw [jS.1 hy]; exact IZ)
   obtain ⟨mm, hn⟩ := Si.ok.ns
   have hIC : @Eq Nat (h_2.objs.size + 1) I -> False := fun h => by obtain ⟨o, x⟩ := hlI; have := ltz x; lia
   have hID : @Eq Nat h_2.objs.size I -> False := fun h => by obtain ⟨o, x⟩ := hlI; have := ltz x; lia
   refine hRR h_3 tk_3 mm (hn.at' fun o e => o3 _ o (fun hm => hIC (jS.1 hm)) e) ?_ (off2 off3)
   refine .list (n := m) ?_ (o3 _ _ (fun hm => hID (jS.1 hm)) hacc) ?_
   ·intro hm
    rcases jK.1 hm with h | h
    ·have h : @Eq Nat h_2.objs.size (h_2.objs.size + 1) := h
     lia
    ·obtain ⟨o, x⟩ := S.allLive _ h
     have := Heap.lt_size (e_2 _ _ x)
     exact Nat.lt_irrefl _ this
   ·refine has.move fun b o hb ho => ⟨fun hm => hb ?_, o3 b o (fun hm => hb ?_) ho⟩
    ·rcases jK.1 hm with h | h
     ·exact jA.2 (.inr (mem_own.2 (.inl h)))
     ·exact compX S F h
    ·rw [jS.1 hm]; exact jA.2 (.inl hIB')
 exact codeAny_compStart_list (loop _ rfl) (W.self 0 _ _ _ (W.frame _ _ _ st0 fun b zz o e => h4_ext csc h_2 b o e) (loop _ rfl))
theorem hnames_of (F : CompFacts csc sc U) : ∀ x ∈ csc.names, x.2 = .local -> csc.names.lookup x.1 = some .local := by
 have key : ∀ (l : List (Str × NameKind)), (l.map (·.1)).Nodup -> ∀ x ∈ l, l.lookup x.1 = some x.2 := by
  intro l
  induction l with
  | nil => intro _ x hx; cases hx
  | cons q l ih =>
   intro hn x hx
   rw [List.map_cons, List.nodup_cons] at hn
   rw [List.lookup_cons]
   rcases jK.1 hx with rfl | hx
   ·simp
   ·have : (x.1 == q.1) = false := beq_eq_false_iff_ne.2 fun e => hn.1 (e ▸ jM.2 ⟨x, hx, rfl⟩)
    rw [this]; exact ih hn.2 x hx
 intro x hx hl
 rw [key _ F.nod x hx, hl]
theorem Ev.comp {ifs : List Expr} {p : α -> Bool} {f : α -> D} {ns : List Str} {bs : D -> Gam} (h : EvS pg w ba true k sc Γ iter (xs.map enc)) (O : CompOk pg w ba k sc csc Γ Γ' elt target ifs enc xs p f ns bs)
  (hs : autoParam (∀ U x, foldedSetIterable iter U x = pure x) tA) : Ev pg w ba true k sc Γ (.ListComp elt [⟨target, iter, ifs, 0⟩] csc pos) (.list ((xs.filter p).map f)) := by
 intro U s B M G S A Q E Rm hQ
 have F := compFacts O.ok G
 rw [eval_ListComp]
 refine wpAny_comprehension_free (use := none) rfl (hs U) (closureFor_eq F.free) F.kind (hnames_of F) (h U s B M A _ E G S Rm fun I h_2 tk_2 e_2 hnI sr => ?_)
 refine comp_core O G S Rm e_2 hnI sr (RR := fun acc C => compPost (model pg w) A E none Q acc C) ?_
 intro h' tk m hn a off
 refine ⟨m, hn, fun h'' hs'' => hQ _ h'' tk (fun b o e => ?_) ((a.off ((same_off hs'').mono fun y hy => by rw [jS.1 hy]; exact jC)).sub fun y hy => jT _ hy)⟩
 have e' := e_2 b o e
 refine hs''.extBut b o (fun hb => ?_) (off b o (fun hm => ?_) e')
 ·have hb : @Eq Nat b (h_2.objs.size + 1) := hb
  have := ltz (a := b) e'
  lia
 ·rw [jS.1 hm, hnI] at e; cases e
theorem Ex1.comp {ifs : List Expr} {p : α -> Bool} {f : α -> D} {ns : List Str} {bs : D -> Gam} {spos : Pos} (h : EvS pg w ba true k sc Γ iter (xs.map enc))
  (O : CompOk pg w ba k sc csc Γ Γ' elt target ifs enc xs p f ns bs) (hx : storable sc x = true) (hr : R .next ((x, .list ((xs.filter p).map f)) :: Γ) M)
  (hsw : ∀ U, EnvG sc U -> swapsWith (.ListComp elt [⟨target, iter, ifs, 0⟩] csc pos) (some (.Name x px)) spos.line U = pure true)
  (hs : autoParam (∀ U x, foldedSetIterable iter U x = pure x) tA) : Ex1 pg w ba true k sc Γ M (.Assign [.Name x px] (.ListComp elt [⟨target, iter, ifs, 0⟩] csc pos) spos) R := by
 intro U s B A Q E G S Rm T
 have F := compFacts O.ok G
 rw [exec_Assign_Name_used x px _ spos (hsw U G)]
 refine jB (wpAny_standAt (jB ?_))
 show wpAny _ _ (do let _ <- comprehension (.ListComp elt [⟨target, iter, ifs, 0⟩] csc pos) csc U (firstIterPos [⟨target, iter, ifs, 0⟩] pos) (newList []) (firstAsync [⟨target, iter, ifs, 0⟩]) (firstIter [⟨target, iter, ifs, 0⟩] U) (some (PySem.assign (.Name x px) U))) _ _ _
 refine jB ?_
 refine wpAny_comprehension_free (use := some _) rfl (hs U) (closureFor_eq F.free) F.kind (hnames_of F) (h U s B M A _ E G S Rm fun I h_2 tk_2 e_2 hnI sr => ?_)
 refine comp_core O G S Rm e_2 hnI sr (RR := fun acc C => compPost (model pg w) A E (some (PySem.assign (.Name x px) U)) _ acc C) ?_
 intro h' tk m hn a off
 have eS : Ext s.heap h' := fun b o e => off b o (fun hm => by rw [jS.1 hm, hnI] at e; cases e) (e_2 b o e)
 have hn0 : s.heap.get? (h_2.objs.size + 1) = .none := none_of_ext e_2 (none_of_le (Nat.le_succ _))
 have hC : (h_2.objs.size + 1) ∉ B ++ own U M := fun hm => by
  obtain ⟨o, x⟩ := S.allLive _ hm
  have := ltz (a := h_2.objs.size + 1) (e_2 _ _ x)
  lia
 have S1 : St ba ((h_2.objs.size + 1) :: B) U Γ M h' := S.addB eS hn0 (let ⟨o, _, _, e, _⟩ := hn; ⟨o, e⟩)
 refine wpAny_assign_Name (S1.store G hx a fun h'' tk' S'' off'' zz => ⟨m, hn.at' fun o e => off'' _ o (fun hm => hC (jA.2 (.inr hm))) e, fun g hsame => ?_⟩)
 have og : Off [h_2.objs.size + 1] h'' g := same_off hsame
 have Sg : St ba B U ((x, .list ((xs.filter p).map f)) :: Γ) M g := S''.offOut og fun hm => hC (jA.2 (.inl hm))
 exact jP <| jP (T .next .next g tk' _ M trivial Sg (((eS.off).trans off'').then og fun y hy => .inr (by rw [jS.1 hy]; exact none_of_ext e_2 (none_of_le (Nat.le_succ _)))) (Grow.refl _ _) hr)
end
end
section
theorem bindL_notin {kd : Str -> Option NameKind} : ∀ (binds : List (Str × Value)) (m : SV), x ∉ binds.map (·.1) -> bindL kd binds m x = m x
 | [], _, _ => rfl
 | (n, v) :: r, m, h => by
  rw [List.map_cons, List.mem_cons, not_or] at h
  rw [bindL, bindL_notin r _ h.2]
  split
  ·exact if_neg h.1
  ·rfl
theorem bindL_mem {kd : Str -> Option NameKind} (hk : kd x = some .local) : ∀ (binds : List (Str × Value)) (m : SV), (binds.map (·.1)).Nodup -> (x, v) ∈ binds -> bindL kd binds m x = some v
 | [], _, _, h => nomatch h
 | (n, u) :: r, m, hn, h => by
  rw [List.map_cons, List.nodup_cons] at hn
  rw [bindL]
  rcases jK.1 h with e | h
  ·cases e
   rw [bindL_notin r _ hn.1, if_pos hk, if_pos rfl]
  ·exact bindL_mem hk r _ hn.2 h
theorem bindC_notin {kd : Str -> Option NameKind} : ∀ (binds : List (Str × Value)) (m : SV), x ∉ binds.map (·.1) -> bindC kd binds m x = m x
 | [], _, _ => rfl
 | (n, v) :: r, m, h => by
  rw [List.map_cons, List.mem_cons, not_or] at h
  rw [bindC, bindC_notin r _ h.2]
  split
  ·rfl
  ·exact if_neg h.1
theorem bindC_mem {kd : Str -> Option NameKind} (hk : kd x ≠ some .local) : ∀ (binds : List (Str × Value)) (m : SV), (binds.map (·.1)).Nodup -> (x, v) ∈ binds -> bindC kd binds m x = some v
 | [], _, _, h => nomatch h
 | (n, u) :: r, m, hn, h => by
  rw [List.map_cons, List.nodup_cons] at hn
  rw [bindC]
  rcases jK.1 h with e | h
  ·cases e
   rw [bindC_notin r _ hn.1, if_neg hk, if_pos rfl]
  ·exact bindC_mem hk r _ hn.2 h
theorem zip_ats {ns : List Str} (as : Ats X h vs ds) (hl : (ns.zip ds).lookup x = some d) : ∃ v, (x, v) ∈ ns.zip vs /\ At X h v d := by
 induction ns generalizing vs ds with
 | nil => cases hl
 | cons n ns ih => cases ds with
  | nil => cases hl
  | cons e ds =>
   obtain ⟨u, ws, rfl, a, r⟩ := as.cons_
   rw [List.zip_cons_cons, List.lookup_cons] at hl
   cases hx : x == n with
   | true => rw [hx] at hl; cases hl; exact ⟨u, by rw [beq_iff_eq.1 hx]; exact jC, a⟩
   | false =>
    rw [hx] at hl
    exact (ih r hl).imp fun v h => ⟨jT _ h.1, h.2⟩
theorem zip_sub : ∀ (ns : List Str) (vs : List Value), ((ns.zip vs).map (·.1)).Sublist ns
 | [], _ => by simp
 | n :: ns, [] => by simp
 | n :: ns, v :: vs => by simpa using zip_sub ns vs
structure MOk (ba : Heap) (X : List Addr) (M : Mut) (h : Heap) : Prop where
 lat : ∀ p ∈ M, LAt (X ++ M.map (·.1)) h p.1 p.2
 nod : (M.map (·.1)).Nodup
 dis : ∀ a ∈ M.map (·.1), a ∉ X
 out : ∀ a ∈ M.map (·.1), ba.get? a = .none
noncomputable def FunM (pg : Program) (w : World) (ba : Heap) (q : Bool) (k : Nat) (f : List Value -> Sem Value) (ds : List D) (M : Mut) (R : D -> Mut -> Prop) : Prop :=
 ∀ (s : Shared) (X : List Addr) (vs : List Value) (A : Around) (Q : VP) (E : VP), Room q k A -> Ok ba X s.heap -> MOk ba X M s.heap -> Ats (X ++ M.map (·.1)) s.heap vs ds ->
  (∀ v d h' tk M', R d M' -> M'.map (·.1) = M.map (·.1) -> At (X ++ M.map (·.1)) h' v d -> MOk ba X M' h' -> Off (M.map (·.1)) s.heap h' -> Q v { s with heap := h', toks := tk }) -> wpAny (model pg w) A (f vs) Q E s
inductive FnAt (ba : Heap) (a : Addr) (name : Str) (params : Arguments) (body : List Stmt) (scope : Scope) : Prop
 | mk (o : Obj) (pm code doc : Value) (g : ba.get? a = some o) (d : o.data = .func (docDef name params body scope pm code doc)) (c : ba.CodeRec code name) : FnAt ba a name params body scope
theorem FnAt.at_ {name : Str} {params : Arguments} {scope : Scope} (x : FnAt ba a name params body scope) : FnAt ba a name params body scope := x
noncomputable def fnOk (ns : List Str) (scope : Scope) : Bool :=
 decide (scope.names.map (·.1)).Nodup && decide ns.Nodup && ns.all (storable scope) && scope.names.all (fun p => p.2 != .free) && scope.kind == .function && !scope.isCoroutine && !scope.isGenerator
section
theorem enter0 (L : Gl ba mg mb) {name : Str} {params : Arguments} {scope : Scope} {o : Obj} {pm code doc : Value} (ho : ba.get? a = some o) (hdat : o.data = .func (docDef name params body scope pm code doc)) (hcd : ba.CodeRec code name)
  {ns : List Str} (hok : fnOk ns scope = true) (hbind : bindArgs (docDef name params body scope pm code doc) ⟨vs, []⟩ = pure (ns.zip vs))
 {Q : VP} (Rm : Room true (k + 1) A) (ok : Ok ba X s.heap) (mok : MOk ba X M s.heap) (as : Ats (X ++ M.map (·.1)) s.heap vs ds)
  (h : ∀ U h_1 tk_1, EnvG scope U -> U.code = code -> U.qual = name ++ ".<locals>." -> U.frame = some U.locals -> St ba X U (ns.zip ds) M h_1 -> Ext s.heap h_1 -> Room true k (A.deeper U) -> (∀ y ∈ own U M, y ∈ M.map (·.1) \/ s.heap.get? y = .none) ->
   wpAny (model pg w) (A.deeper U) (execs body U) (fun f s' => Q (match f with | .ret v => v | _ => .none) s') (fun e s' => wpAny (model pg w) (A.deeper U) (leaving U e) (fun zz s'' => E e s'') (fun e' s'' => E e' s'') s') { s with heap := h_1, toks := tk_1 }) :
  wpAny (model pg w) A (call (.ref a) vs) Q E s := by
 simp only [fnOk, Bool.and_eq_true, decide_eq_true_eq, beq_iff_eq, Bool.not_eq_true', List.all_eq_true] at hok
 obtain ⟨⟨⟨⟨⟨⟨hnod, hns⟩, hst⟩, hnf⟩, hk⟩, hco⟩, hgen⟩ := hok
 have hst' : ∀ x ∈ ns, scope.names.lookup x = some .local \/ scope.names.lookup x = some .cell := fun x hx => by
  have := hst x hx
  rw [storable, Bool.or_eq_true, beq_iff_eq, beq_iff_eq] at this
  exact this
 have hzip : ∀ p ∈ ns.zip vs, p.1 ∈ ns := fun p hp => (List.of_mem_zip (a := p.1) (b := p.2) hp).1
 refine wpAny_call (codeAny_call_cells (fd := docDef name params body scope pm code doc) (body := body) (by have := Rm.depth; lia) (ok.keep _ _ ho) hdat (L.nolimit.keeps ok.keep) (hcd.keeps ok.keep) rfl hbind rfl
  (fun x hx => (hst' x.1 (hzip x hx)).imp id fun h => ⟨h, PySem.W.cellsFrom_some _ _ _ (.inl h)⟩) (fun s_1 IC => ?_) hco hgen hk)
 obtain ⟨h_1, tk_1, rfl⟩ := IC.toInCall.same
 have hframe : (callEnvC (docDef name params body scope pm code doc) s.heap.objs.size a).frame = some (callEnvC (docDef name params body scope pm code doc) s.heap.objs.size a).locals := rfl
 generalize henv : callEnvC (docDef name params body scope pm code doc) s.heap.objs.size a = U at *
 have hscope : U.scope = scope := by rw [<- henv]; rfl
 have hloc : U.locals = s.heap.objs.size := by rw [<- henv]; rfl
 have hcells : U.cells = cellsFrom (s.heap.objs.size + 1) scope.names [] := by rw [<- henv]; rfl
 have G : EnvG scope U := ⟨hscope, hk, by rw [<- henv]; rfl, by rw [<- henv]; rfl, fun x hx => by
  rw [hcells]
  refine PySem.W.cellsFrom_some _ _ _ (.inl ?_)
  rcases hx with hx | hx
  ·exact hx
  ·have := hnf _ (mem_of_lookup hx); simp at this⟩
 have keep1 : Ext s.heap h_1 := IC.toInCall.keep
 have ge : ∀ x : Nat, x = U.locals \/ x ∈ U.cells.map (·.2) -> s.heap.objs.size <= x := fun x hx => by
  rcases hx with hx | hx
  ·exact Nat.le_of_eq (hloc ▸ hx.symm)
  ·obtain ⟨p, hp, rfl⟩ := jM.1 hx
   have h1 : @LT.lt Nat _ U.locals p.2 := IC.above p.1 p.2 hp
   have h2 : @Eq Nat U.locals s.heap.objs.size := hloc
   lia
 have hnoneOf : ∀ x : Nat, x = U.locals \/ x ∈ U.cells.map (·.2) -> s.heap.get? x = .none := fun x hx => none_of_le (ge x hx)
 have Mlive : ∀ x ∈ M.map (·.1), ∃ o, s.heap.get? x = some o := fun x hx => by
  obtain ⟨p, hp, rfl⟩ := jM.1 hx
  obtain ⟨vs, n, e, _⟩ := (mok.lat p hp).at_
  exact ⟨_, e⟩
 have mv : ∀ b o, b ∉ X ++ M.map (·.1) -> s.heap.get? b = some o -> b ∉ X ++ own U M /\ h_1.get? b = some o := fun b o hb e => by
  refine ⟨fun hm => ?_, keep1 b o e⟩
  rcases jA.1 hm with hm | hm
  ·exact hb (jA.2 (.inl hm))
  ·rcases mem_own.1 hm with hm | hm | hm
   ·rw [hnoneOf b (.inl hm)] at e; cases e
   ·rw [hnoneOf b (.inr hm)] at e; cases e
   ·exact hb (jA.2 (.inr hm))
 have cellsNod : ∀ p ∈ U.cells, U.cells.lookup p.1 = some p.2 := by
  rw [hcells]
  have key : ∀ (names : List (Str × NameKind)) (n : Nat), (names.map (·.1)).Nodup -> ((cellsFrom n names []).map (·.1)).Nodup := by
   intro names
   induction names with
   | nil => intro n _; exact List.nodup_nil
   | cons q names ih =>
    intro n hn
    rw [List.map_cons, List.nodup_cons] at hn
    obtain ⟨x, kd⟩ := q
    unfold cellsFrom
    split
    ·rw [cellsFrom_app, List.map_append, List.nodup_append]
     refine ⟨ih _ hn.2, by simp, fun y hy z hz => ?_⟩
     obtain ⟨p, hp, rfl⟩ := jM.1 hy
     have hz' : z = x := by simpa using hz
     rw [hz']
     exact fun e => hn.1 (e ▸ jM.2 ⟨_, cellsFrom_names _ _ p hp, rfl⟩)
    ·exact ih n hn.2
  have lk : ∀ (l : List (Str × Addr)), (l.map (·.1)).Nodup -> ∀ p ∈ l, l.lookup p.1 = some p.2 := by
   intro l
   induction l with
   | nil => intro _ p hp; cases hp
   | cons q l ih =>
    intro hn p hp
    rw [List.map_cons, List.nodup_cons] at hn
    rw [List.lookup_cons]
    rcases jK.1 hp with rfl | hp
    ·simp
    ·rw [beq_eq_false_iff_ne.2 fun (e : p.1 = q.1) => hn.1 (e ▸ jM.2 ⟨p, hp, rfl⟩)]
     exact ih hn.2 p hp
  exact lk _ (key _ _ hnod)
 have S : St ba X U (ns.zip ds) M h_1 := by
  refine ⟨ok.keep.trans keep1, ⟨⟨_, IC.toInCall.ns⟩, fun p hp => ⟨_, IC.cell p.1 p.2 (cellsNod p hp)⟩, IC.apart, fun p hp => ?_⟩, fun x d hx => ?_, fun p hp => ?_, mok.nod, fun x hx => ⟨fun e => ?_, fun e => ?_⟩, fun x hx hm => ?_, fun x hx => ?_, fun x hx => ?_⟩
  ·have := IC.above p.1 p.2 hp
   exact Nat.ne_of_gt this
  ·obtain ⟨v, hv, av⟩ := zip_ats as hx
   refine ⟨v, ?_, av.move mv⟩
   have hxns := hzip _ hv
   have hzn : ((ns.zip vs).map (·.1)).Nodup := by
    exact hns.sublist (zip_sub ns vs)
   rcases hst' x hxns with hl | hl
   ·have hl' : U.kindOf x = some .local := by rw [Env.kindOf, hscope]; exact hl
    exact .inl ⟨hl', _, IC.toInCall.ns, bindL_mem hl' _ _ hzn hv⟩
   ·have hl' : U.kindOf x = some .cell := by rw [Env.kindOf, hscope]; exact hl
    obtain ⟨c, hc⟩ := Option.isSome_iff_exists.1 (G.cel x (.inl hl))
    refine .inr ⟨.inl hl', c, hc, ?_⟩
    have := IC.cell x c hc
    rw [bindC_mem (by rw [hl']; decide) _ _ hzn hv] at this
    exact this
  ·obtain ⟨vs', n, e, r⟩ := (mok.lat p hp).at_
   exact ⟨vs', n, keep1 _ _ e, r.move mv⟩
  ·obtain ⟨o, x'⟩ := Mlive x hx; rw [hnoneOf x (.inl e)] at x'; cases x'
  ·obtain ⟨o, x'⟩ := Mlive x hx; rw [hnoneOf x (.inr e)] at x'; cases x'
  ·rcases mem_own.1 hm with hm | hm | hm
   ·obtain ⟨o, x'⟩ := ok.live x hx; rw [hnoneOf x (.inl hm)] at x'; cases x'
   ·obtain ⟨o, x'⟩ := ok.live x hx; rw [hnoneOf x (.inr hm)] at x'; cases x'
   ·exact mok.dis x hm hx
  ·obtain ⟨o, x'⟩ := ok.live x hx; exact ⟨o, keep1 _ _ x'⟩
  ·rcases jA.1 hx with hx | hx
   ·exact ok.out x hx
   ·rcases mem_own.1 hx with hx | hx | hx
    ·exact none_of_ext ok.keep (hnoneOf x (.inl hx))
    ·exact none_of_ext ok.keep (hnoneOf x (.inr hx))
    ·exact mok.out x hx
 refine h U h_1 tk_1 G (by rw [<- henv]; rfl) (by rw [<- henv]; rfl) hframe S keep1 (Rm.deeper U) fun y hy => ?_
 rcases mem_own.1 hy with hm | hm | hm
 ·exact .inr (hnoneOf y (.inl hm))
 ·exact .inr (hnoneOf y (.inr hm))
 ·exact .inl hm
set_option tactic.hygienic true in
theorem fun_of_body (L : Gl ba mg mb) {name : Str} {params : Arguments} {scope : Scope} (hf : FnAt ba a name params body scope) {ns : List Str} {R : D -> Mut -> Prop}
  (hok : fnOk ns scope = true) (hbind : ∀ (vs : List Value) pm code doc, vs.length = ds.length -> bindArgs (docDef name params body scope pm code doc) ⟨vs, []⟩ = pure (ns.zip vs))
  (h : Ex pg w ba true k scope (ns.zip ds) M body (fun o zz M' => ∃ d M_1, o = .ret d /\ M_1.Sublist M' /\ M_1.map (·.1) = M.map (·.1) /\ R d M_1)) : FunM pg w ba true (k + 1) (fun vs => call (.ref a) vs) ds M R := by
 intro s X vs A Q E Rm ok mok as hQ
 obtain ⟨o, pm, code, doc, ho, hdat, hcd⟩ := hf.at_
 refine enter0 L ho hdat hcd hok (hbind vs pm code doc as.length) Rm ok mok as fun U h_1 tk_1 G zz zz zz S keep1 Rm1 ofOwn => ?_
 refine h U _ X (A.deeper U) _ _ G S Rm1 fun f out h' tk Γ' M' hfl S' off gr hr => ?_
 obtain ⟨d, M_1, rfl, hsub, hM1, hR⟩ := hr
 cases f <;> first | exact hfl.elim | skip
 rename_i v
 have S_1 := S'.subM hsub
 have sX : ∀ y ∈ X ++ M_1.map (·.1), y ∈ X ++ own U M_1 := fun y hy => jA.2 ((jA.1 hy).imp id fun h => mem_own.2 (.inr (.inr h)))
 refine hQ v d h' tk M_1 hR hM1 ?_ ⟨fun p hp => ?_, S_1.nod, fun y hy hX => S_1.bdis y hX (mem_own.2 (.inr (.inr hy))), fun y hy => S_1.out y (jA.2 (.inr (mem_own.2 (.inr (.inr hy)))))⟩ fun b o hb e => ?_
 ·rw [<- hM1]
  exact At.sub hfl fun y hy => jA.2 ((jA.1 hy).imp id fun h => mem_own.2 (.inr (.inr ((hsub.map _).subset h))))
 ·obtain ⟨vs', n, e, r⟩ := (S_1.muts p hp).at_
  exact ⟨vs', n, e, r.sub sX⟩
 ·refine off b o (fun hm => ?_) (keep1 b o e)
  rcases ofOwn b hm with hm | hm
  ·exact hb hm
  ·rw [hm] at e; cases e
theorem FunM.pure {f : List Value -> Sem Value} (h : FunM pg w ba q k f ds [] (fun d' zz => d' = d)) : FunN pg w ba q k f ds d := by
 intro s X vs ok as A Q E Rm hQ
 refine h s X vs A Q E Rm ok ⟨fun p hp => (nomatch hp), List.nodup_nil, fun a ha => (nomatch ha), fun a ha => (nomatch ha)⟩ (by simpa using as) fun v d' h' tk M' hR zz a zz off => ?_
 subst hR
 exact hQ v h' tk off.ext (by simpa using a)
end
end
section
section
noncomputable def ArgsOk (pos : Pos) (args : List Expr) : Prop := ∀ U, ∃ x rest, backTo pos (starEach args U) = (false, x) :: rest /\ rest.any (·.1) = false
theorem args_eval {args : List Expr} (ha : ArgsOk pos args) (h : EvL pg w ba q k sc Γ pos args ds) (G : EnvG sc U) (S : St ba B U Γ M s.heap) (Rm : Room q k A)
  {Q : Args -> Shared -> Prop} (hQ : ∀ vs h' tk, Ext s.heap h' -> Ats (B ++ own U M) h' vs ds -> Q ⟨vs, []⟩ { s with heap := h', toks := tk }) : wpAny (model pg w) A (evalArgs v true (backTo pos (starEach args U)) []) Q E s := by
 obtain ⟨x, rest, e, _⟩ := ha U
 rw [e]
 refine evalArgs_plain ?_
 rw [<- e]
 exact h U s B M A _ E G S Rm hQ
theorem args_plain {args : List Expr} (ha : ArgsOk pos args) (U : Env) : (backTo pos (starEach args U)).any (·.1) = false := by
 obtain ⟨x, rest, e, h⟩ := ha U
 rw [e]; simpa using h
theorem Ev.callB {func : Expr} {args : List Expr} {id : String} (hf : Ev pg w ba q k sc Γ func (.raw (.builtin id))) (ha : EvL pg w ba q k sc Γ pos args ds) (h : FunN pg w ba q k (fun vs => call (.builtin id) vs) ds d) (hs : ArgsOk pos args)
  (he : autoParam (∀ U, eval (.Call func args [] pos) U = (do callWith pos (<- eval func U) [] (backTo pos (starEach args U)) (backToKw pos (keywordEach [] U)))) tA) : Ev pg w ba q k sc Γ (.Call func args [] pos) d := by
 intro U s B M G S A Q E Rm hQ
 refine PyProof.Rows.Call_ ((hf U s B M G S).bindR Rm fun g t e => ?_) (he U)
 refine callWith_builtin (args_plain hs U) (args_eval hs ha G (S.ext e) Rm fun vs g' t' e' as => ?_)
 exact (h _ _ vs ((S.ext e).ext e').toOk as).bind Rm fun v g'' t'' e'' a => hQ v g'' t'' ((e.trans e').trans e'') a
theorem Ev.callT {func : Expr} {args : List Expr} {T : String} (hf : Ev pg w ba q k sc Γ func (.raw (.type T))) (ha : EvL pg w ba q k sc Γ pos args ds) (h : FunN pg w ba q k (fun vs => call (.type T) vs) ds d) (hs : ArgsOk pos args)
  (he : autoParam (∀ U, eval (.Call func args [] pos) U = (do callWith pos (<- eval func U) [] (backTo pos (starEach args U)) (backToKw pos (keywordEach [] U)))) tA) : Ev pg w ba q k sc Γ (.Call func args [] pos) d := by
 intro U s B M G S A Q E Rm hQ
 refine PyProof.Rows.Call_ ((hf U s B M G S).bindR Rm fun g t e => ?_) (he U)
 refine PySem.callWith_type (args_plain hs U) (args_eval hs ha G (S.ext e) Rm fun vs g' t' e' as => ?_)
 exact (h _ _ vs ((S.ext e).ext e').toOk as).bind Rm fun v g'' t'' e'' a => hQ v g'' t'' ((e.trans e').trans e'') a
theorem Ev.callF {func : Expr} {args : List Expr} {name : Str} {params : Arguments} {scope : Scope} (hfn : FnAt ba a name params body scope)
  (hf : Ev pg w ba q k sc Γ func (.raw (.ref a))) (ha : EvL pg w ba q k sc Γ pos args ds) (h : FunN pg w ba q k (fun vs => call (.ref a) vs) ds d) (hs : ArgsOk pos args)
  (he : autoParam (∀ U, eval (.Call func args [] pos) U = (do callWith pos (<- eval func U) [] (backTo pos (starEach args U)) (backToKw pos (keywordEach [] U)))) tA) : Ev pg w ba q k sc Γ (.Call func args [] pos) d := by
 intro U s B M G S A Q E Rm hQ
 obtain ⟨o, pm, code, doc, ho, hdat, hcd⟩ := hfn.at_
 refine PyProof.Rows.Call_ ((hf U s B M G S).bindR Rm fun g t e => ?_) (he U)
 refine callWith_function (o := o) (fd := docDef name params body scope pm code doc) (args_eval hs ha G (S.ext e) Rm fun vs g' t' e' as => ⟨⟨((S.ext e).ext e').keep _ _ ho, hdat⟩, ?_⟩)
 exact (h _ _ vs ((S.ext e).ext e').toOk as).bind Rm fun v g'' t'' e'' a => hQ v g'' t'' ((e.trans e').trans e'') a
theorem FunN.up {f : List Value -> Sem Value} {k' : Nat} (h : FunN pg w ba q k f ds d) (hk : k <= k') : FunN pg w ba q k' f ds d := fun s X vs o as => (h s X vs o as).up hk
end
end
section
section
theorem len_l (hsz : ds.length <= sizeLine) : FunN pg w ba q k (fun vs => call (.builtin "len") vs) [.list ds] (.int ds.length) := by
 intro s X vs o as A Q E Rm hQ
 obtain ⟨v, rfl, a⟩ := as.one_
 obtain ⟨l, ws, n, rfl, _, e, as'⟩ := a.list_
 have hz := size_of_ats as'
 rw [sizeLine_eq] at hsz
 refine call_len_list (isList_of e) (by lia) ?_
 rw [hz]
 exact hQ _ s.heap _ (Ext.refl _) (.int _ _)
theorem len_b {b : Array UInt8} (hsz : b.size <= sizeLine) : FunN pg w ba q k (fun vs => call (.builtin "len") vs) [.bytes b] (.int b.size) := by
 intro s X vs o as A Q E Rm hQ
 obtain ⟨v, rfl, a⟩ := as.one_
 obtain ⟨t, rfl⟩ := a.bytes_
 rw [sizeLine_eq] at hsz
 exact PySem.W.len_bytes (by lia) (hQ _ s.heap _ (Ext.refl _) (.int _ _))
theorem range1 {n : Int} : FunN pg w ba q k (fun vs => call (.type "range") vs) [.int n] (.range 0 n 1) := by
 intro s X vs o as A Q E Rm hQ
 obtain ⟨v, rfl, a⟩ := as.one_
 obtain ⟨t, rfl⟩ := a.int_
 exact call_range_1 (hQ _ _ _ (Ext.push _ _) (.range o.fresh (Heap.get?_push_size _ rfl)))
theorem range3 {a b c : Int} (hc : c ≠ 0) (hs : c.natAbs < 1073741824) : FunN pg w ba q k (fun vs => call (.type "range") vs) [.int a, .int b, .int c] (.range a b c) := by
 intro s X vs o as A Q E Rm hQ
 obtain ⟨v, u, t, rfl, a1, a2, a3⟩ := as.three_
 obtain ⟨t, rfl⟩ := a1.int_; obtain ⟨t, rfl⟩ := a2.int_; obtain ⟨t, rfl⟩ := a3.int_
 exact call_range_3 hc (hQ _ _ _ (Ext.push _ _) (.range o.fresh (Heap.get?_push_size _ rfl))) (.inl (PyProof.noPylong_small hs))
theorem range_small (hn : n <= sizeLine) : Builtin.Range.small 0 n 1 = true /\ Builtin.Range.rangeSize 0 n 1 = (n : Int) := by
 rw [sizeLine_eq] at hn
 refine ⟨small_one (by decide) (by decide) (by lia) (by lia), ?_⟩
 unfold Builtin.Range.rangeSize
 rw [if_pos (by decide)]
 split
 ·rw [Int.ediv_one]; lia
 ·lia
theorem EvS.rangeN (h : Ev pg w ba true k sc Γ e (.range 0 n 1)) (hn : n <= sizeLine) : EvS pg w ba true k sc Γ e ((List.range n).map fun i : Nat => D.int i) := by
 have := EvS.range h (range_small hn).1 (range_small hn).2
 simpa using this
theorem EvS.rangeD (h : Ev pg w ba true k sc Γ e (.range ((n : Int) - 1) (-1) (-1))) (hn : n <= sizeLine) : EvS pg w ba true k sc Γ e ((List.range n).map fun i : Nat => D.int ((n : Int) - 1 - i)) := by
 rw [sizeLine_eq] at hn
 have hs : Builtin.Range.rangeSize ((n : Int) - 1) (-1) (-1) = (n : Int) := by
  unfold Builtin.Range.rangeSize
  rw [if_neg (by decide)]
  split
  ·rw [show (-(-1) : Int) = 1 from rfl, Int.ediv_one]; lia
  ·lia
 have := EvS.range h (PySem.W.small_down (by lia) (by lia) (by decide) (by decide)) hs
 have e1 : (fun i : Nat => D.int ((n : Int) - 1 - i)) = fun i : Nat => D.int ((n : Int) - 1 + i * -1) := by
  funext i; congr 1; lia
 rw [e1]; exact this
inductive EvO (pg : Program) (w : World) (ba : Heap) (q : Bool) (k : Nat) (sc : Scope) (Γ : Gam) : Option Expr -> Option Int -> Prop
 | none : EvO pg w ba q k sc Γ .none .none
 | some {e : Expr} {i : Int} : Ev pg w ba q k sc Γ e (.int i) -> EvO pg w ba q k sc Γ (some e) (some i)
theorem EvO.run {lo : Option Expr} {l : Option Int} (h : EvO pg w ba q k sc Γ lo l) (G : EnvG sc U) (S : St ba B U Γ M s.heap) (Rm : Room q k A) {Q : VP}
  (hQ : ∀ v h' tk, Ext s.heap h' -> IsPart v l -> Q v { s with heap := h', toks := tk }) : wpAny (model pg w) A (valueOrNone (evalOpt lo U)) Q E s := by
 cases h with
 | none => exact jP (hQ _ s.heap s.toks (Ext.refl _) .none)
 | some he =>
  refine (he U s B M G S).bind Rm fun v g t e a => ?_
  obtain ⟨u, rfl⟩ := a.int_
  exact hQ _ g t e (.int _ _)
theorem Ev.slice {lo hi st : Option Expr} {l u c : Option Int} (h1 : EvO pg w ba q k sc Γ lo l) (h2 : EvO pg w ba q k sc Γ hi u) (h3 : EvO pg w ba q k sc Γ st c) : Ev pg w ba q k sc Γ (.Slice lo hi st pos) (.slice l u c) := by
 intro U s B M G S A Q E Rm hQ
 show wpAny _ _ (do
  let l <- valueOrNone (evalOpt lo U)
  let u <- holding [l] (valueOrNone (evalOpt hi U))
  let s <- holding [l, u] (valueOrNone (evalOpt st U))
  newFields "slice" [l, u, s]) _ _ _
 refine jB (h1.run G S Rm fun v1 g1 t1 e1 p1 => jB (wpAny_holding (h2.run G (S.ext e1) Rm fun v2 g2 t2 e2 p2 => jB (wpAny_holding (h3.run G ((S.ext e1).ext e2) Rm fun v3 g3 t3 e3 p3 => ?_)))))
 exact wpAny_newObj_type (hQ _ _ t3 (((e1.trans e2).trans e3).trans (Ext.push _ _)) (.slice (((S.ext e1).ext e2).ext e3).toOk.fresh (Heap.get?_push_size _ rfl) p1 p2 p3)) (by size_fits)
theorem item_slice {es : List D} {l u st : Option Int} (h0 : st ≠ some 0) (hsz : ds.length <= sizeLine)
  (hp : ∀ (X : List Addr) (h : Heap) (vs : Array Value), Ats X h vs.toList ds -> Ats X h (slicePick vs l u st).toList es) : Item pg w ba q k (.list ds) (.slice l u st) (.list es) := ⟨typ_list, by
 intro s X v_1 v_2 o a_1 a_2 A Q E Rm hQ
 obtain ⟨l', vs, n, rfl, _, e, as⟩ := a_1.list_
 obtain ⟨r, vl, vu, vst, rfl, hs, p1, p2, p3⟩ := a_2.slice_
 have hz := size_of_ats as
 refine wpAny_getItem_list_slice (isList_of e) hs p1 p2 p3 h0 (hQ _ _ s.toks (Ext.push _ _) (At.list o.fresh (n := 0) (Heap.get?_push_size _ rfl) ?_)) (by rw [hz]; exact hsz)
 exact (hp X s.heap vs as).ext (Ext.push _ _)⟩
theorem item_from {a : Nat} (ha : a <= ds.length) (hsz : ds.length <= sizeLine) : Item pg w ba q k (.list ds) (.slice (some a) .none .none) (.list (ds.drop a)) :=
 item_slice (by simp) hsz fun X h vs as => by
  rw [slicePick_from vs a (by rw [size_of_ats as]; exact ha)]
  exact as.drop a
theorem item_upto {b : Nat} (hb : b <= ds.length) (hsz : ds.length <= sizeLine) : Item pg w ba q k (.list ds) (.slice .none (some b) .none) (.list (ds.take b)) :=
 item_slice (by simp) hsz fun X h vs as => by
  rw [slicePick_upto vs b (by rw [size_of_ats as]; exact hb)]
  exact as.take b
end
end
section
section
theorem own_cons {y : Addr} : y ∈ B ++ own U ((a, ds) :: M) ↔ y = a \/ y ∈ B ++ own U M := by
 simp only [List.mem_append, mem_own, List.map_cons, List.mem_cons]
 constructor
 ·rintro (h | h | h | h | h)
  ·exact .inr (.inl h)
  ·exact .inr (.inr (.inl h))
  ·exact .inr (.inr (.inr (.inl h)))
  ·exact .inl h
  ·exact .inr (.inr (.inr (.inr h)))
 ·rintro (h | h | h | h | h)
  ·exact .inr (.inr (.inr (.inl h)))
  ·exact .inl h
  ·exact .inr (.inl h)
  ·exact .inr (.inr (.inl h))
  ·exact .inr (.inr (.inr (.inr h)))
theorem St.newM {vs : Array Value} (S : St ba B U Γ M h) (e : Ext h h') (hn : h.get? a = .none) (ha : h'.get? a = some (listO vs n)) (as : Ats (a :: (B ++ own U M)) h' vs.toList ds) : St ba B U Γ ((a, ds) :: M) h' := by
 have hX : a ∉ B ++ own U M := fun hm => by obtain ⟨o, x⟩ := S.allLive a hm; rw [hn] at x; cases x
 have mv : ∀ b o, b ∉ B ++ own U M -> h.get? b = some o -> b ∉ B ++ own U ((a, ds) :: M) /\ h'.get? b = some o := fun b o hb x => ⟨fun hm => (own_cons.1 hm).elim (fun e' => by rw [e', hn] at x; cases x) hb, e b o x⟩
 have S' := S.ext e
 refine ⟨S'.keep, S'.ok, fun x d hx => ?_, fun p hp => ?_, ?_, fun b hb => ?_, fun b hb hm => ?_, S'.live, fun b hb => ?_⟩
 ·obtain ⟨v, hv, av⟩ := S.var x d hx
  exact ⟨v, hv.keep fun b o zz x => e b o x, av.move mv⟩
 ·rcases jK.1 hp with rfl | hp
  ·exact ⟨vs, n, ha, as.sub fun y hy => (own_cons.1 hy).elim (fun h => h ▸ jC) (jT _)⟩
  ·obtain ⟨vs', n', g, r⟩ := (S.muts p hp).at_
   exact ⟨vs', n', e _ _ g, r.move mv⟩
 ·rw [List.map_cons, List.nodup_cons]
  exact ⟨fun hm => hX (jA.2 (.inr (mem_own.2 (.inr (.inr hm))))), S.nod⟩
 ·rw [List.map_cons] at hb
  rcases jK.1 hb with rfl | hb
  ·exact ⟨fun h => hX (jA.2 (.inr (mem_own.2 (.inl h)))), fun h => hX (jA.2 (.inr (mem_own.2 (.inr (.inl h)))))⟩
  ·exact S.dis b hb
 ·rcases own_cons.1 (jA.2 (.inr hm) : b ∈ B ++ own U ((a, ds) :: M)) with h | h
  ·exact hX (h ▸ jA.2 (.inl hb))
  ·rcases mem_own.1 hm with hm | hm | hm
   ·exact S.bdis b hb (mem_own.2 (.inl hm))
   ·exact S.bdis b hb (mem_own.2 (.inr (.inl hm)))
   ·rw [List.map_cons] at hm
    rcases jK.1 hm with h | hm
    ·have h : b = a := h
     exact hX (h ▸ jA.2 (.inl hb))
    ·exact S.bdis b hb (mem_own.2 (.inr (.inr hm)))
 ·rcases own_cons.1 hb with h | h
  ·rw [h]; exact none_of_ext S.keep hn
  ·exact S.out b h
theorem St.perm {M' : Mut} (S : St ba B U Γ M h) (p : M'.Perm M) : St ba B U Γ M' h := by
 have hm : ∀ a, a ∈ own U M' ↔ a ∈ own U M := fun a => by
  rw [mem_own, mem_own]
  exact or_congr Iff.rfl (or_congr Iff.rfl (p.map (·.1)).mem_iff)
 have sX : ∀ a ∈ B ++ own U M', a ∈ B ++ own U M := fun a ha => jA.2 ((jA.1 ha).imp id (hm a).1)
 exact ⟨S.keep, S.ok, fun x d hx => let ⟨v, a, b⟩ := S.var x d hx; ⟨v, a, b.sub sX⟩, fun q hq => let ⟨vs, n, g, r⟩ := (S.muts q (p.mem_iff.1 hq)).at_; ⟨vs, n, g, r.sub sX⟩, (p.map (·.1)).nodup_iff.2 S.nod, fun a ha => S.dis a ((p.map (·.1)).mem_iff.1 ha),
  fun a ha h => S.bdis a ha ((hm a).1 h), S.live, fun a ha => S.out a (sX a ha)⟩
theorem own_perm {M' : Mut} (p : M'.Perm M) : ∀ a, a ∈ own U M' ↔ a ∈ own U M := fun a => by
 rw [mem_own, mem_own]
 exact or_congr Iff.rfl (or_congr Iff.rfl (p.map (·.1)).mem_iff)
theorem Ex.perm {M' : Mut} (h : Ex pg w ba q k sc Γ M' ss R) (p : M'.Perm M) : Ex pg w ba q k sc Γ M ss R :=
 fun U s B A Q E G S Rm T => h U s B A Q E G (S.perm p) Rm fun f o h' tk Γ' M_1 hf S' off gr r => T f o h' tk Γ' M_1 hf S' (off.mono fun a => (own_perm p a).1) (fun y hy => (gr y hy).imp (own_perm p y).1 id) r
theorem St.setM {vs : Array Value} {ds' : List D} (S : St ba B U Γ ((a, ds) :: M) h) (o : Off [a] h h') (ha : h'.get? a = some (listO vs n)) (as : Ats (B ++ own U ((a, ds) :: M)) h' vs.toList ds') : St ba B U Γ ((a, ds') :: M) h' := by
 have haX : a ∈ B ++ own U ((a, ds) :: M) := own_cons.2 (.inl rfl)
 have offX : Off (B ++ own U ((a, ds) :: M)) h h' := o.mono fun y hy => by rw [jS.1 hy]; exact haX
 have hdis := S.dis a (by simp)
 have eqX : B ++ own U ((a, ds') :: M) = B ++ own U ((a, ds) :: M) := rfl
 have ho : ∀ b x, b ≠ a -> h.get? b = some x -> h'.get? b = some x := fun b x hb e => o b x (fun hm => hb (jS.1 hm)) e
 have hk : ∀ b x, b = U.locals \/ b ∈ U.cells.map (·.2) -> h.get? b = some x -> h'.get? b = some x := fun b x hb e => ho b x (fun e' => by
  rcases hb with h | h
  ·exact hdis.1 (e' ▸ h)
  ·exact hdis.2 (e' ▸ h)) e
 refine ⟨fun b x e => ho b x (fun e' => ?_) (S.keep b x e), S.ok.keep hk, fun x d hx => ?_, fun p hp => ?_, S.nod, S.dis, S.bdis, fun b hb => ?_, S.out⟩
 ·have := S.out a haX; rw [<- e'] at this; rw [this] at e; cases e
 ·obtain ⟨v, hv, av⟩ := S.var x d hx
  exact ⟨v, hv.keep hk, av.off offX⟩
 ·rcases jK.1 hp with rfl | hp
  ·exact ⟨vs, n, ha, as⟩
  ·obtain ⟨vs', n', g, r⟩ := (S.muts p (jT _ hp)).at_
   have hne : p.1 ≠ a := fun e => by
    have := S.nod; rw [List.map_cons, List.nodup_cons] at this
    exact this.1 (e ▸ jM.2 ⟨p, hp, rfl⟩)
   exact ⟨vs', n', ho _ _ hne g, r.off offX⟩
 ·obtain ⟨x, e⟩ := S.live b hb
  exact ⟨x, ho b x (fun e' => S.bdis b hb (e' ▸ mem_own.2 (.inr (.inr (by simp))))) e⟩
noncomputable def EvN (pg : Program) (w : World) (ba : Heap) (q : Bool) (k : Nat) (sc : Scope) (Γ : Gam) (e : Expr) (ds : List D) : Prop :=
 ∀ (U : Env) (s : Shared) (B : List Addr) (M : Mut) (A : Around) (Q : VP) (E : VP), EnvG sc U -> St ba B U Γ M s.heap -> Room q k A ->
  (∀ a vs n h' tk, Ext s.heap h' -> s.heap.get? a = .none -> h'.get? a = some (listO vs n) -> Ats (a :: (B ++ own U M)) h' vs.toList ds -> Q (.ref a) { s with heap := h', toks := tk }) -> wpAny (model pg w) A (eval e U) Q E s
theorem EvN.nil : EvN pg w ba q k sc Γ (.List [] pos) [] := by
 intro U s B M A Q E G S Rm hQ
 refine PyProof.Rows.List_ (spliced_nil ?_)
 exact wpAny_newObj_type (hQ _ #[] 0 _ s.toks (Ext.push _ _) (fresh_none _) (Heap.get?_push_size _ rfl) .nil) (by size_fits)
theorem Ex1.own (h : EvN pg w ba q k sc Γ value ds) (hx : storable sc x = true) (hr : ∀ a, R .next ((x, .raw (.ref a)) :: Γ) ((a, ds) :: M))
  (hs : autoParam (∀ U, swapsWith value (some (.Name x px)) pos.line U = pure false) tA) : Ex1 pg w ba q k sc Γ M (.Assign [.Name x px] value pos) R := by
 intro U s B A Q E G S Rm T
 refine wpAny_Assign_Name (h U s B M A _ E G S Rm fun a vs n h' tk e hn ha as => ?_) (hs U)
 have S' := S.newM e hn ha as
 refine S'.store G hx (.raw _) fun h'' tk' S'' off zz => ?_
 refine T .next .next h'' tk' _ _ trivial S'' ((e.off (X := Mine.own U M)).then off fun y hy => ?_) (fun y hy => ?_) (hr a)
 all_goals
  rcases mem_own.1 hy with h | h | h
  ·exact .inl (mem_own.2 (.inl h))
  ·exact .inl (mem_own.2 (.inr (.inl h)))
  ·rw [List.map_cons] at h
   rcases jK.1 h with h | h
   ·exact .inr (h ▸ hn)
   ·exact .inl (mem_own.2 (.inr (.inr h)))
theorem interactive_false (G : EnvG sc U) : interactive U = false := by
 rw [interactive, G.scope, G.kind]; rfl
theorem Ex1.append {apos pos' : Pos} (hx : Γ.lookup x = some (.raw (.ref a))) (he : Ev pg w ba q k sc Γ e d) (hsz : ds.length <= sizeLine) (hr : R .next Γ ((a, ds ++ [d]) :: M))
  (hn : (x == ("__debug__" : Str) || x == ("__classdict__" : Str)) = false) (hline : autoParam ((apos.endLine == pos.line) = true) tA) (htrees : autoParam (∀ U, backTo pos (starEach [e] U) = [(false, eval e U)]) tA)
  (hbase : autoParam (∀ U, attributeBase (.Name x px) "append" U (eval (.Name x px) U) = eval (.Name x px) U) tA) :
  Ex1 pg w ba q k sc Γ ((a, ds) :: M) (.Expr (.Call (.Attribute (.Name x px) "append" apos) [e] [] pos) pos') R := by
 intro U s B A Q E G S Rm T
 refine wpAny_Expr (wpAny_Call_method1_late (hbase U) hline (htrees U) ((Ev.var hx hn U s B _ G S).bindR Rm fun g t e' => ?_)) (interactive_false G) rfl
 obtain ⟨vs, n, ha, as⟩ := ((S.ext e').muts _ jC).at_
 refine ⟨"list", "list.append", F.plainAttrs_list, F.slot_list_append, F.type_list_append, ⟨_, ha, rfl⟩, fun b hb => by cases hb; exact ⟨_, ha, rfl⟩, P.append_list ((he U _ B _ G (S.ext e')).bind Rm fun u g' t' e'' au => ?_)⟩
 have ha' := e'' _ _ ha
 refine ⟨vs, n, by rw [size_of_ats as]; exact hsz, ha', ?_⟩
 have hup := Heap.get?_update_self (Obj.mapSeq fun xs => xs.push u) ha' rfl
 have o : Off [a] g' (g'.update a (Obj.mapSeq fun xs => xs.push u)) := same_off (Heap.SameBut.update ..)
 have S2 := (S.ext e').ext e''
 have offX : Off (B ++ Mine.own U ((a, ds) :: M)) g' (g'.update a (Obj.mapSeq fun xs => xs.push u)) := o.mono fun y hy => by rw [jS.1 hy]; exact own_cons.2 (.inl rfl)
 have S3 := S2.setM (ds' := ds ++ [d]) (vs := vs.push u) (n := if (vs.push u).size == vs.size then n else n + 1) o hup (by
  rw [Array.toList_push]
  exact (((as.ext e'').off offX).push (au.off offX)))
 exact T .next .next _ t' Γ _ trivial S3 (((e'.trans e'').off).trans (o.mono fun y hy => by rw [jS.1 hy]; exact mem_own.2 (.inr (.inr (by simp))))) (Grow.refl _ _) hr
noncomputable def AsL (pg : Program) (w : World) (ba : Heap) (q : Bool) (k : Nat) (sc : Scope) (ts : List Expr) (ds : List D) (bs : Gam) : Prop :=
 ts.length = ds.length /\ (∀ U, (assignEach ts U).length = ts.length /\ (assignEach ts U).findIdx? (·.1) = .none) /\
 ∀ (U : Env) (s : Shared) (B : List Addr) (Γ : Gam) (M : Mut) (vs : List Value) (A : Around) (Q : Unit -> Shared -> Prop) (E : VP),
  EnvG sc U -> St ba B U Γ M s.heap -> Room q k A -> Ats (B ++ own U M) s.heap vs ds -> (∀ h' tk, St ba B U (bs ++ Γ) M h' -> Off (own U M) s.heap h' -> Off (bs.map fun p => slot U p.1) s.heap h' -> Q () { s with heap := h', toks := tk }) ->
  wpAny (model pg w) A (assignInOrder ((assignEach ts U).map (·.2)) vs) Q E s
theorem AsL.nil : AsL pg w ba q k sc [] [] [] := ⟨rfl, fun zz => ⟨rfl, rfl⟩, by
 intro U s B Γ M vs A Q E G S R as hQ
 exact jP (hQ s.heap s.toks S (Off.refl _ _) (Off.refl _ _))⟩
theorem AsL.cons {ts : List Expr} {bs : Gam} (r : AsL pg w ba q k sc ts ds bs) (hx : autoParam (storable sc x = true) tA) : AsL pg w ba q k sc (.Name x pos :: ts) (d :: ds) (bs ++ [(x, d)]) := ⟨by simp [r.1], fun U => ⟨by
  show ((false, PySem.assign (.Name x pos) U) :: assignEach ts U).length = _
  simp [(r.2.1 U).1], by
  show ((false, PySem.assign (.Name x pos) U) :: assignEach ts U).findIdx? (·.1) = _
  rw [List.findIdx?_cons]; simp [(r.2.1 U).2]⟩, by
 intro U s B Γ M vs A Q E G S R as hQ
 obtain ⟨v, vs, rfl, a, ar⟩ := as.cons_
 show wpAny _ _ (do holding _ (PySem.assign (.Name x pos) U _); assignInOrder ((assignEach ts U).map (·.2)) _) _ _ _
 refine jB (wpAny_holding (wpAny_assign_Name (S.store G hx a fun h' tk S' off off1 => ?_)))
 refine r.2.2 U _ B _ M _ A Q E G S' R (ar.off (off.mono fun y hy => jA.2 (.inr hy))) fun h'' tk' S'' off' off2 => hQ h'' tk' (by simpa using S'') (off.trans off') ?_
 rw [List.map_append]
 exact (off1.mono fun y hy => jA.2 (.inr (by simpa using hy))).trans (off2.mono fun y hy => jA.2 (.inl hy))⟩
theorem draw_walk {I : Addr} {fp : List Addr} {P : Nat -> Value -> Prop} {St' : Nat -> Heap -> Prop} (W : Walks pg w A I fp [I] n P St') : ∀ (j i : Nat) (s : Shared) (Q : List Value -> Shared -> Prop), i + j = n -> St' i s.heap ->
  (∀ vs h' tk, vs.length = j -> (∀ m v, vs[m]? = some v -> P (i + m) v) -> St' n h' -> Off [I] s.heap h' -> Q vs { s with heap := h', toks := tk }) -> wpAny (model pg w) A (draw (.ref I) j) Q E s
 | 0, i, s, Q, hi, st, hQ => jP (hQ [] s.heap s.toks rfl (fun m v h => by simp at h) (by rw [<- hi]; exact st) (Off.refl _ _))
 | j + 1, i, s, Q, hi, st, hQ => by
  unfold draw
  refine jB (W.item i s _ _ (by lia) st fun v h' tk hP st' hk => ?_)
  refine jB (wpAny_holding (draw_walk W j (i + 1) _ _ (by lia) st' fun vs h'' tk' hl hv st'' off => jP (hQ (v :: vs) h'' tk' (by simp [hl]) ?_ st'' ?_)))
  ·intro m u hm
   cases m with
   | zero => simp at hm; subst hm; exact hP
   | succ m => have := hv m u (by simpa using hm); rwa [show i + (m + 1) = i + 1 + m by lia]
  ·exact fun b o hb e => off b o hb (hk b o hb e)
theorem ats_of_places : ∀ {vs : List Value} {ds : List D}, vs.length = ds.length -> (∀ (i : Nat) v d, vs[i]? = some v -> ds[i]? = some d -> At X h v d) -> Ats X h vs ds
 | [], [], _, _ => .nil
 | v :: vs, d :: ds, hl, h => .cons (h 0 v d rfl rfl) (ats_of_places (by simpa using hl) fun i v d a b => h (i + 1) v d (by simpa using a) (by simpa using b))
theorem unpack_src (ok : Ok ba X s.heap)
  (hit : ∃ T id, s.TypeIs v T /\ typeLookup (.type T) "__iter__" = pure (some id))
  (hsrc : ∀ (Q : VP) (E : VP), (∀ I h', Ext s.heap h' -> s.heap.get? I = .none -> Src pg w A X h' I ds -> Q (.ref I) { s with heap := h' }) -> wpAny (model pg w) A (pyIter v) Q E s)
  {Q : List Value -> Shared -> Prop} (hQ : ∀ vs h' tk, Ext s.heap h' -> Ats X h' vs ds -> Q vs { s with heap := h', toks := tk }) : wpAny (model pg w) A (unpackItems v ds.length .none) Q E s := by
 obtain ⟨T, id, hT, hl⟩ := hit
 unfold unpackItems
 refine jB ?_
 unfold notIterableAtAll
 refine jB (wpAny_specialOf hT hl ?_)
 refine jP ?_
 simp only [Bool.false_eq_true, if_false]
 refine jB (wpAny_holding (hsrc _ _ fun I h_2 e_2 hnI sr => ?_))
 obtain ⟨fp, P, St', W, st0, hfp, hval, hcls, hIfp⟩ := sr.src
 refine jB (wpAny_holding (draw_walk W ds.length 0 _ _ (by lia) st0 fun vs h_3 tk hlen hv st3 o3 => ?_))
 rw [if_neg (by lia)]
 refine jB (wpAny_holding (W.done _ _ _ st3 fun h_4 tk_4 hk4 => ?_))
 simp only [Option.isSome_none, Bool.false_eq_true, if_false]
 have off : Off [I] h_2 h_4 := o3.trans fun b o hb e => hk4 b o hb e
 refine jP (hQ vs h_4 tk_4 (fun b o e => off b o (fun hm => by rw [jS.1 hm, hnI] at e; cases e) (e_2 b o e)) (ats_of_places hlen fun i v d hvi hdi => ?_))
 refine (hval i v d (by simpa using hv i v hvi) hdi).move fun b o hb e => ⟨fun hm => hb (jT _ hm), off b o (fun hm => hb (jS.1 hm ▸ jC)) e⟩
theorem As.list {ts : List Expr} {c : Nat} {bs : Gam} (h : AsL pg w ba true k sc ts ds bs) : As pg w ba true k sc (.Tuple ts c pos) (.list ds) bs := by
 intro U s B Γ M v A Q E G S R a hQ
 rw [arm_assign_Tuple]
 refine jB (wpAny_standAt ?_)
 unfold unpack
 rw [(h.2.1 U).1, (h.2.1 U).2, h.1]
 refine jB (wpAny_holding (unpack_src S.toOk ?_ (fun Q E hQ => src_list S.toOk a (R.hd rfl) hQ) fun vs h' tk e as => ?_))
 ·obtain ⟨l, vs, n, rfl, _, e, _⟩ := a.list_
  exact ⟨"list", _, ⟨_, e, rfl⟩, slot_list_iter.lookup⟩
 ·exact h.2.2 U _ B Γ M vs A Q E G (S.ext e) R as fun h'' tk' S' off off1 => hQ h'' tk' S' (e.off.trans off) (e.off.trans off1)
theorem As.tup {ts : List Expr} {c : Nat} {bs : Gam} (h : AsL pg w ba true k sc ts ds bs) : As pg w ba true k sc (.Tuple ts c pos) (.tuple ds) bs := by
 intro U s B Γ M v A Q E G S R a hQ
 rw [arm_assign_Tuple]
 refine jB (wpAny_standAt ?_)
 unfold unpack
 rw [(h.2.1 U).1, (h.2.1 U).2, h.1]
 refine jB (wpAny_holding (unpack_src S.toOk ?_ (fun Q E hQ => src_tuple S.toOk a (R.hd rfl) hQ) fun vs h' tk e as => ?_))
 ·obtain ⟨l, vs, n, rfl, _, e, _⟩ := a.tuple_
  exact ⟨"tuple", _, ⟨_, e, rfl⟩, F.slot_tuple_iter.lookup⟩
 ·exact h.2.2 U _ B Γ M vs A Q E G (S.ext e) R as fun h'' tk' S' off off1 => hQ h'' tk' S' (e.off.trans off) (e.off.trans off1)
theorem Ex1.unpack {ts : List Expr} {c : Nat} {tpos : Pos} {bs : Gam} (h : Ev pg w ba true k sc Γ value d) (ht : As pg w ba true k sc (.Tuple ts c tpos) d bs) (hr : R .next (bs ++ Γ) M)
  (hs : autoParam (∀ U, swapsWithSole [.Tuple ts c tpos] value pos.line U = pure false) tA) (hw : autoParam (∀ U, swappedStores [.Tuple ts c tpos] value U = pure none) tA) : Ex1 pg w ba true k sc Γ M (.Assign [.Tuple ts c tpos] value pos) R := by
 intro U s B A Q E G S Rm T
 refine PyProof.Rows.Assign_Tuple ((h U s B M G S).bind Rm fun v g t e a => ?_) (hs U) (hw U)
 exact ht U _ B Γ M v A _ E G (S.ext e) Rm a fun h' tk S' off zz => T .next .next h' tk _ M trivial S' (e.off.trans off) (Grow.refl _ _) hr
end
end
section
section
theorem Ex.assign (h : Ev pg w ba q k sc Γ value d) (r : Ex pg w ba q k sc ((x, d) :: Γ) M ss R) (hx : autoParam (storable sc x = true) tA)
  (hs : autoParam (∀ U, swapsWith value (some (.Name x px)) pos.line U = pure false) tA) : Ex pg w ba q k sc Γ M (.Assign [.Name x px] value pos :: ss) R :=
 Ex.seq (P := fun Γ1 M_1 => Γ1 = (x, d) :: Γ /\ M_1 = M) (Ex1.assign h hx ⟨rfl, rfl, rfl⟩ hs) fun Γ' M' ⟨h1, h2⟩ => by subst h1 h2; exact r
theorem Ex.own (h : EvN pg w ba q k sc Γ value ds) (r : ∀ a, Ex pg w ba q k sc ((x, .raw (.ref a)) :: Γ) ((a, ds) :: M) ss R) (hx : autoParam (storable sc x = true) tA)
  (hs : autoParam (∀ U, swapsWith value (some (.Name x px)) pos.line U = pure false) tA) : Ex pg w ba q k sc Γ M (.Assign [.Name x px] value pos :: ss) R :=
 Ex.seq (P := fun Γ1 M_1 => ∃ a, Γ1 = (x, .raw (.ref a)) :: Γ /\ M_1 = (a, ds) :: M) (Ex1.own h hx (fun a => ⟨rfl, a, rfl, rfl⟩) hs) fun Γ' M' ⟨a, h1, h2⟩ => by subst h1 h2; exact r a
theorem Ex.ret (h : Ev pg w ba q k sc Γ e d) (hr : R (.ret d) Γ M) : Ex pg w ba q k sc Γ M (.Return (some e) pos :: ss) R :=
 Ex.cons (R1 := fun o Γ1 M_1 => o = .ret d /\ Γ1 = Γ /\ M_1 = M) (Ex1.ret h ⟨rfl, rfl, rfl⟩) fun o Γ' M' ⟨h1, h2, h3⟩ => by subst h1 h2 h3; exact hr
theorem Ex.brk (hr : R .brk Γ M) : Ex pg w ba q k sc Γ M (.Break pos :: ss) R :=
 Ex.cons (R1 := fun o Γ1 M_1 => o = .brk /\ Γ1 = Γ /\ M_1 = M) (Ex1.brk ⟨rfl, rfl, rfl⟩) fun o Γ' M' ⟨h1, h2, h3⟩ => by subst h1 h2 h3; exact hr
theorem Ex.append {apos pos' : Pos} (hx : Γ.lookup x = some (.raw (.ref a))) (he : Ev pg w ba q k sc Γ e d) (hsz : ds.length <= sizeLine) (r : Ex pg w ba q k sc Γ ((a, ds ++ [d]) :: M) ss R)
  (hn : autoParam ((x == ("__debug__" : Str) || x == ("__classdict__" : Str)) = false) tA) (hline : autoParam ((apos.endLine == pos.line) = true) tA) (htrees : autoParam (∀ U, backTo pos (starEach [e] U) = [(false, eval e U)]) tA)
  (hbase : autoParam (∀ U, attributeBase (.Name x px) "append" U (eval (.Name x px) U) = eval (.Name x px) U) tA) :
  Ex pg w ba q k sc Γ ((a, ds) :: M) (.Expr (.Call (.Attribute (.Name x px) "append" apos) [e] [] pos) pos' :: ss) R :=
 Ex.seq (P := fun Γ1 M_1 => Γ1 = Γ /\ M_1 = (a, ds ++ [d]) :: M) (Ex1.append hx he hsz ⟨rfl, rfl, rfl⟩ hn hline htrees hbase) fun Γ' M' ⟨h1, h2⟩ => by subst h1 h2; exact r
theorem Ex.unpack {ts : List Expr} {c : Nat} {tpos : Pos} {bs : Gam} (h : Ev pg w ba true k sc Γ value d) (ht : As pg w ba true k sc (.Tuple ts c tpos) d bs) (r : Ex pg w ba true k sc (bs ++ Γ) M ss R)
  (hs : autoParam (∀ U, swapsWithSole [.Tuple ts c tpos] value pos.line U = pure false) tA) (hw : autoParam (∀ U, swappedStores [.Tuple ts c tpos] value U = pure none) tA) : Ex pg w ba true k sc Γ M (.Assign [.Tuple ts c tpos] value pos :: ss) R :=
 Ex.seq (P := fun Γ1 M_1 => Γ1 = bs ++ Γ /\ M_1 = M) (Ex1.unpack h ht ⟨rfl, rfl, rfl⟩ hs hw) fun Γ' M' ⟨h1, h2⟩ => by subst h1 h2; exact r
theorem Ex.comp {ifs : List Expr} {p : α -> Bool} {f : α -> D} {ns : List Str} {bs : D -> Gam} {spos : Pos} (h : EvS pg w ba true k sc Γ iter (xs.map enc))
  (O : CompOk pg w ba k sc csc Γ Γ' elt target ifs enc xs p f ns bs) (hx : storable sc x = true) (r : Ex pg w ba true k sc ((x, .list ((xs.filter p).map f)) :: Γ) M ss R)
  (hsw : ∀ U, EnvG sc U -> swapsWith (.ListComp elt [⟨target, iter, ifs, 0⟩] csc pos) (some (.Name x px)) spos.line U = pure true)
  (hs : autoParam (∀ U x, foldedSetIterable iter U x = pure x) tA) : Ex pg w ba true k sc Γ M (.Assign [.Name x px] (.ListComp elt [⟨target, iter, ifs, 0⟩] csc pos) spos :: ss) R :=
 Ex.seq (P := fun Γ1 M_1 => Γ1 = (x, .list ((xs.filter p).map f)) :: Γ /\ M_1 = M) (Ex1.comp h O hx ⟨rfl, rfl, rfl⟩ hsw hs) fun Γ' M' ⟨h1, h2⟩ => by subst h1 h2; exact r
theorem Ex.for {bs : D -> Gam} (h : EvS pg w ba true k sc Γ iter (xs.map enc)) (ht : ∀ x ∈ xs, As pg w ba true k sc target (enc x) (bs (enc x)))
  (Γs : List α -> Gam) (Ms : List α -> Mut) (h0 : Sub (Γs []) Γ) (hm0 : (Ms []).Sublist M)
  (turn : ∀ pre x post, xs = pre ++ x :: post -> Ex pg w ba true k sc (bs (enc x) ++ Γs pre) (Ms pre) body (fun o Γ' M' => match o with
   | .next | .cont => Sub (Γs (pre ++ [x])) Γ' /\ (Ms (pre ++ [x])).Sublist M'
   | .brk => False
   | .ret d => R (.ret d) Γ' M'))
  (done : Ex pg w ba true k sc (Γs xs) (Ms xs) ss R)
  (hs : autoParam (∀ U x, foldedSetIterable iter U x = pure x) tA) : Ex pg w ba true k sc Γ M (.For target iter body [] pos :: ss) R := by
 refine Ex.cons (R1 := fun o Γ1 M_1 => (o = .next /\ Sub (Γs xs) Γ1 /\ (Ms xs).Sublist M_1) \/ ∃ d, o = .ret d /\ R o Γ1 M_1) (Ex1.for h (bs := bs) (fun i d hd => ?_) (fun i => Γs (xs.take i)) (fun i => Ms (xs.take i)) (by simpa using h0) (by simpa using hm0) (fun i d hd => ?_) ?_ hs) ?_
 ·rw [List.getElem?_map] at hd
  obtain ⟨x, hx, rfl⟩ := Option.map_eq_some_iff.1 hd
  exact ht x (List.mem_of_getElem? hx)
 ·rw [List.getElem?_map] at hd
  obtain ⟨x, hx, rfl⟩ := Option.map_eq_some_iff.1 hd
  have hlt := (List.getElem?_eq_some_iff.1 hx).1
  have hxe : x = xs[i] := by have := (List.getElem?_eq_some_iff.1 hx).2; exact this.symm
  have hsplit : xs = xs.take i ++ x :: xs.drop (i + 1) := by
   rw [hxe, <- List.drop_eq_getElem_cons hlt, List.take_append_drop]
  have htake : xs.take (i + 1) = xs.take i ++ [x] := by rw [hxe]; simp
  refine (turn _ x _ hsplit).mono fun o Γ' M' ho => ?_
  rw [<- htake] at ho
  cases o with
  | next => exact ho
  | cont => exact ho
  | brk => exact ho.elim
  | ret d => exact .inr ⟨d, rfl, ho⟩
 ·refine Ex.nil (.inl ⟨rfl, ?_, ?_⟩)
  ·simp only [List.length_map, List.take_length]; exact Sub.refl _
  ·simp only [List.length_map, List.take_length]; exact List.Sublist.refl _
 ·rintro o Γ1 M_1 (⟨rfl, h1, h2⟩ | ⟨d, rfl, hr⟩)
  ·exact (done.sub h1).subM h2
  ·exact hr
theorem sizeOk (h : n <= 100000) : n <= sizeLine := by rw [sizeLine_eq]; lia
end
end
section
noncomputable def stmtAt (k : Nat) : Stmt := ((PySem.Challenge.pw_op0086_01.main.body.drop k).head?).getD (.Pass ⟨0,0,0,0⟩)
noncomputable def fnBody : Stmt -> List Stmt | .FunctionDef _ _ b _ _ _ _ _ _ _ => b | _ => []
noncomputable def fnScope : Stmt -> Scope | .FunctionDef _ _ _ _ _ _ s _ _ _ => s | _ => default
noncomputable def fnName : Stmt -> Str | .FunctionDef n _ _ _ _ _ _ _ _ _ => n | _ => default
noncomputable def fnParams : Stmt -> Arguments | .FunctionDef _ a _ _ _ _ _ _ _ _ => a | _ => default
noncomputable def btab : List (Str × Value) := [(N "len", .builtin "len"), (N "range", .type "range"), (N "sorted", .builtin "sorted"), (N "set", .type "set"), (N "list", .type "list"), (N "bytes", .type "bytes"), (N "isinstance", .builtin "isinstance"), (N "sum", .builtin "sum"), (N "enumerate", .type "enumerate"), (N "IndexError", .type "IndexError"), (N "ValueError", .type "ValueError")]
structure Cx (ba : Heap) (mg mb : SV) : Prop where
 L : Gl ba mg mb
 bt : ∀ p ∈ btab, mg p.1 = none /\ mb p.1 = some p.2
structure FnG (ba : Heap) (mg : SV) (st : Stmt) (a : Addr) : Prop where
 name : mg (fnName st) = some (.ref a)
 fn : FnAt ba a (fnName st) (fnParams st) (fnBody st) (fnScope st)
theorem args1 (h : ∀ U, backTo pos (starEach [e] U) = [(false, eval e U)]) : ArgsOk pos [e] := fun U => ⟨_, [], h U, rfl⟩
theorem args2 {f : Expr} (h : ∀ U, backTo pos (starEach [e, f] U) = [(false, eval e U), (false, eval f U)]) : ArgsOk pos [e, f] := fun U => ⟨_, _, h U, rfl⟩
theorem args3 {f g : Expr} (h : ∀ U, backTo pos (starEach [e, f, g] U) = [(false, eval e U), (false, eval f U), (false, eval g U)]) : ArgsOk pos [e, f, g] := fun U => ⟨_, _, h U, rfl⟩
theorem args5 {f g i j : Expr} (h : ∀ U, backTo pos (starEach [e, f, g, i, j] U) = [(false, eval e U), (false, eval f U), (false, eval g U), (false, eval i U), (false, eval j U)]) : ArgsOk pos [e, f, g, i, j] := fun U => ⟨_, _, h U, rfl⟩
section
theorem Ev.bn (C : Cx ba mg mb) (hx : autoParam (sc.names.lookup x = some .globalImplicit) tA) (hb : autoParam ((x, v) ∈ btab) tA) (hd : autoParam ((x == ("__debug__" : Str)) = false) tA) : Ev pg w ba q k sc Γ (.Name x pos) (.raw v) :=
 Ev.bi C.L hx (C.bt _ hb).1 (C.bt _ hb).2 hd
theorem Ev.len (C : Cx ba mg mb) {p : Pos} (he : Ev pg w ba q k sc Γ e (.list ds)) (hl : ds.length = n) (hn : n <= 100000) (hx : autoParam (sc.names.lookup (N "len") = some .globalImplicit) tA)
  (h : autoParam (∀ U, backTo pos (starEach [e] U) = [(false, eval e U)]) tA) : Ev pg w ba q k sc Γ (.Call (.Name (N "len") p) [e] [] pos) (.int n) := by
 subst hl
 exact Ev.callB (Ev.bn C hx) (.cons he .nil (fun U => h U)) (len_l (sizeOk hn)) (args1 h)
theorem Ev.rng (C : Cx ba mg mb) {p : Pos} {n : Int} (he : Ev pg w ba q k sc Γ e (.int n)) (hx : autoParam (sc.names.lookup (N "range") = some .globalImplicit) tA)
  (h : autoParam (∀ U, backTo pos (starEach [e] U) = [(false, eval e U)]) tA) : Ev pg w ba q k sc Γ (.Call (.Name (N "range") p) [e] [] pos) (.range 0 n 1) :=
 Ev.callT (Ev.bn C hx) (.cons he .nil (fun U => h U)) range1 (args1 h)
theorem EvS.rng (C : Cx ba mg mb) {p : Pos} (he : Ev pg w ba true k sc Γ e (.int n)) (hn : n <= 100000) (hx : autoParam (sc.names.lookup (N "range") = some .globalImplicit) tA)
  (h : autoParam (∀ U, backTo pos (starEach [e] U) = [(false, eval e U)]) tA) : EvS pg w ba true k sc Γ (.Call (.Name (N "range") p) [e] [] pos) ((List.range n).map fun i : Nat => D.int i) := EvS.rangeN (Ev.rng C he hx h) (sizeOk hn)
end
theorem Ev.item {slice : Expr} (h_1 : Ev pg w ba q k sc Γ value (.list ds)) (h_2 : Ev pg w ba q k sc Γ slice (.int i)) (hi : ds[i]? = some d) (hsz : ds.length <= 100000)
  (hs : autoParam (∀ o i, (∃ vs, subscripted slice false o i = operate vs (getItem o i))) tA) : Ev pg w ba q k sc Γ (.Subscript value slice pos) d :=
 Ev.sub h_1 h_2 (item_list (by lia) (by simpa using hi) (sizeOk hsz)) hs
theorem Ev.itemT {slice : Expr} (h_1 : Ev pg w ba q k sc Γ value (.tuple ds)) (h_2 : Ev pg w ba q k sc Γ slice (.int i)) (hi : ds[i]? = some d) (hsz : ds.length <= 100000)
  (hs : autoParam (∀ o i, (∃ vs, subscripted slice false o i = operate vs (getItem o i))) tA) : Ev pg w ba q k sc Γ (.Subscript value slice pos) d :=
 Ev.sub h_1 h_2 (item_tuple (by lia) (by simpa using hi) (sizeOk hsz)) hs
noncomputable def RetP (d : D) (o : Out) (_ : Gam) (_ : Mut) : Prop := o = .ret d
theorem pure_of_body (C : Cx ba mg mb) {st : Stmt} (hf : FnG ba mg st a) {ns : List Str}
  (hok : fnOk ns (fnScope st) = true) (hbind : ∀ (vs : List Value) pm code doc, vs.length = ds.length -> bindArgs (docDef (fnName st) (fnParams st) (fnBody st) (fnScope st) pm code doc) ⟨vs, []⟩ = pure (ns.zip vs))
  (h : Ex pg w ba true k (fnScope st) (ns.zip ds) [] (fnBody st) (RetP d)) : FunN pg w ba true (k + 1) (fun vs => call (.ref a) vs) ds d :=
 (fun_of_body (R := fun d' zz => d' = d) C.L hf.fn hok hbind (h.mono fun o Γ' M' ho => ⟨d, [], ho, List.nil_sublist _, rfl, rfl⟩)).pure
noncomputable abbrev eN (n : Nat) : D := .int n
noncomputable abbrev eL (ns : List Nat) : D := .list (ns.map eN)
noncomputable abbrev eP (p : List Nat × List Nat) : D := .list [eL p.1, eL p.2]
noncomputable abbrev eA (a : List (List Nat × List Nat)) : D := .list (a.map eP)
noncomputable abbrev eM (m : List Nat × List Nat × List (List Nat × List Nat)) : D := .list [eL m.1, eL m.2.1, eA m.2.2]
noncomputable def sel (p : List Nat × List Nat) (l : Nat) : List Nat := if l = 0 then p.1 else p.2
theorem eP_sel {p : List Nat × List Nat} {l : Nat} (h : l < 2) : [eL p.1, eL p.2][l]? = some (eL (sel p l)) := by
 match l, h with
 | 0, _ => rfl
 | 1, _ => rfl
end
set_option compiler.extract_closed false
local macro_rules | `(tactic| walk_at "v") => `(tactic| repeat first | dsimp only [kA, kN] | (refine (?f : Dup (List.lookup _ _ = some _)) ?g; (case g => (repeat first | with_reducible exact look_here | with_reducible apply look_there | kernel_rfl)); (case f => (intro _; kernel_rfl))) | exact Sub.nil | apply Sub.cons | exact SubC.nil | apply SubC.cons | apply Ev.var | kernel_rfl)
section
open PyProof.Rows
theorem bitAnd_nat (a b : Nat) : Builtin.bitAnd (a : Int) (b : Int) = ((a &&& b : Nat) : Int) := rfl
theorem bitOr_nat (a b : Nat) : Builtin.bitOr (a : Int) (b : Int) = ((a ||| b : Nat) : Int) := by
 have e : ∀ n : Nat, Builtin.bitNot (n : Int) = -(n : Int) - 1 := fun n => rfl
 have d : ∀ n : Nat, decide (0 <= -(n : Int) - 1) = false := fun n => by simp; lia
 have f : ∀ n : Nat, (Builtin.bitNot (-(n : Int) - 1)).toNat = n := fun n => by unfold Builtin.bitNot; lia
 rw [Builtin.bitOr, e a, e b, Builtin.bitAnd, d a, d b]
 show Builtin.bitNot (Builtin.bitNot (((Builtin.bitNot (-(a : Int) - 1)).toNat ||| (Builtin.bitNot (-(b : Int) - 1)).toNat : Nat) : Int)) = _
 rw [f a, f b]
 unfold Builtin.bitNot
 lia
noncomputable abbrev Dig := Nat × Nat × Nat × Nat
noncomputable def digL (o : Dig) : List Nat := [o.1, o.2.1, o.2.2.1, o.2.2.2]
noncomputable abbrev eD (o : Dig) : D := eL (digL o)
noncomputable def forth1 (g : Nat) (o : Dig) : Nat := ((if g &&& 4 ≠ 0 then o.2.1 else 0) ||| (if g &&& 2 ≠ 0 then o.2.2.1 else 0)) ||| (if g &&& 1 ≠ 0 then o.2.2.2 else 0)
noncomputable def hither1 (g : Nat) (o : Dig) : Nat := ((if g &&& o.2.1 ≠ 0 then 4 else 0) ||| (if g &&& o.2.2.1 ≠ 0 then 2 else 0)) ||| (if g &&& o.2.2.2 ≠ 0 then 1 else 0)
noncomputable abbrev eLL (ls : List (List Nat)) : D := .list (ls.map eL)
section
theorem Ev.natIf {t a b : Expr} {x y : Nat} (ht : Ev pg w ba q k sc Γ t (eN n)) (he : autoParam (∀ U whole, isTrue t U whole = (do let v <- whole; standAt t.pos; holding [v] (truthy v))) tA) (ha : Ev pg w ba q k sc Γ a (eN x)) (hb : Ev pg w ba q k sc Γ b (eN y)) :
  Ev pg w ba q k sc Γ (.IfExp t a b pos) (eN (if n ≠ 0 then x else y)) := by
 have h := Ev.ife (pos := pos) (Tr.val ht truth_int he) (fun zz => ha) (fun zz => hb)
 have e : (if ((n : Int) != 0) = true then eN x else eN y) = eN (if n ≠ 0 then x else y) := by
  by_cases h : n = 0
  ·subst h; rfl
  ·have : ((n : Int) != 0) = true := by simpa using h
   rw [if_pos this, if_pos h]
 rw [e] at h
 exact h
theorem Ev.natAnd {a b : Expr} {x y : Nat} (ha : Ev pg w ba q k sc Γ a (eN x)) (hb : Ev pg w ba q k sc Γ b (eN y)) : Ev pg w ba q k sc Γ (.BinOp a .BitAnd b pos) (eN (x &&& y)) := by
 have := Ev.bin (pos := pos) ha hb and_ii
 rw [bitAnd_nat] at this; exact this
theorem Ev.natOr {a b : Expr} {x y : Nat} (ha : Ev pg w ba q k sc Γ a (eN x)) (hb : Ev pg w ba q k sc Γ b (eN y)) : Ev pg w ba q k sc Γ (.BinOp a .BitOr b pos) (eN (x ||| y)) := by
 have := Ev.bin (pos := pos) ha hb or_ii
 rw [bitOr_nat] at this; exact this
theorem Ev.nat {i : Int} {c : Nat} (h : i = n) : Ev pg w ba q k sc Γ (.Constant (.int i) c pos) (eN n) := by subst h; exact Ev.int
theorem forth_body (C : Cx ba mg mb) {ds : List Dig} (hm : ds.length <= 100) :
  Ex pg w ba true 1 (fnScope (stmtAt 39)) [(N "digits", .list (ds.map eD))] [] (fnBody (stmtAt 39)) (RetP (eLL ((List.range 8).map fun g => ds.map (forth1 g)))) := by
 conv => arg 9; whnf
 refine Ex.own (ds := []) EvN.nil fun a => ?_
 refine Ex.for (α := Nat) (enc := eN) (xs := List.range 8) (bs := fun d => [(N "group", d)])
  (EvS.rng C (n := 8) Ev.int (by lia)) (fun x hx => As.name)
  (fun pre => [(N "steps", .raw (.ref a)), (N "digits", .list (ds.map eD))]) (fun pre => [(a, pre.map fun g => eL (ds.map (forth1 g)))]) (by walk_at "v") (List.Sublist.refl _) ?_ ?_
 ·intro pre g post hpre
  dsimp only [kA, kN]
  have hlen : pre.length + 1 <= 8 := by have := congrArg List.length hpre; simp at this; lia
  refine Ex.own (ds := []) EvN.nil fun b => ?_
  refine Ex.for (α := Dig) (enc := eD) (xs := ds) (bs := fun d => [(N "own", d)])
   (EvS.list (by walk_at "v")) (fun x hx => As.name)
   (fun pre => [(N "pair", .raw (.ref b)), (N "group", eN g), (N "steps", .raw (.ref a)), (N "digits", .list (ds.map eD))]) (fun p => [(b, p.map fun o => eN (forth1 g o)), (a, pre.map fun g => eL (ds.map (forth1 g)))]) (by walk_at "v") (List.Sublist.refl _) ?_ ?_
  ·intro p o r hp
   dsimp only [kA, kN]
   have hlen : p.length + 1 <= ds.length := by have := congrArg List.length hp; simp at this; lia
   refine Ex.append (d := eN (forth1 g o)) (by walk_at "v") ?_ (sizeOk (by simp; lia)) (Ex.nil ⟨by walk_at "v", ?_⟩)
   ·refine Ev.natOr (Ev.natOr (Ev.natIf (Ev.natAnd (by walk_at "v") (Ev.nat (n := 4) rfl)) (ha := ?_) (hb := Ev.nat (n := 0) rfl)) (Ev.natIf (Ev.natAnd (by walk_at "v") (Ev.nat (n := 2) rfl)) (ha := ?_) (hb := Ev.nat (n := 0) rfl))) (Ev.natIf (Ev.natAnd (by walk_at "v") (Ev.nat (n := 1) rfl)) (ha := ?_) (hb := Ev.nat (n := 0) rfl))
    ·exact Ev.item (i := 1) (by walk_at "v") Ev.int rfl (by simp [digL])
    ·exact Ev.item (i := 2) (by walk_at "v") Ev.int rfl (by simp [digL])
    ·exact Ev.item (i := 3) (by walk_at "v") Ev.int rfl (by simp [digL])
   ·simp
  ·refine Ex.freeze (x := N "pair") (by walk_at "v") ?_
   refine Ex.append (d := eL (ds.map (forth1 g))) (by walk_at "v") ?_ (sizeOk (by simp; lia)) (Ex.nil ⟨by walk_at "v", ?_⟩)
   ·have e : eL (ds.map (forth1 g)) = .list (ds.map fun o => eN (forth1 g o)) := by simp [Function.comp_def]
    rw [e]; walk_at "v"
   ·simp
 ·refine Ex.freeze (x := N "steps") (by walk_at "v") ?_
  apply Ex.ret
  ·walk_at "v"
  ·show Out.ret _ = Out.ret _
   simp [Function.comp_def]
theorem hither_body (C : Cx ba mg mb) {ds : List Dig} (hm : ds.length <= 100) :
  Ex pg w ba true 1 (fnScope (stmtAt 40)) [(N "digits", .list (ds.map eD))] [] (fnBody (stmtAt 40)) (RetP (eLL ((List.range 8).map fun g => ds.map (hither1 g)))) := by
 conv => arg 9; whnf
 refine Ex.own (ds := []) EvN.nil fun a => ?_
 refine Ex.for (α := Nat) (enc := eN) (xs := List.range 8) (bs := fun d => [(N "group", d)])
  (EvS.rng C (n := 8) Ev.int (by lia)) (fun x hx => As.name)
  (fun pre => [(N "steps", .raw (.ref a)), (N "digits", .list (ds.map eD))]) (fun pre => [(a, pre.map fun g => eL (ds.map (hither1 g)))]) (by walk_at "v") (List.Sublist.refl _) ?_ ?_
 ·intro pre g post hpre
  dsimp only [kA, kN]
  have hlen : pre.length + 1 <= 8 := by have := congrArg List.length hpre; simp at this; lia
  refine Ex.own (ds := []) EvN.nil fun b => ?_
  refine Ex.for (α := Dig) (enc := eD) (xs := ds) (bs := fun d => [(N "own", d)])
   (EvS.list (by walk_at "v")) (fun x hx => As.name)
   (fun pre => [(N "pair", .raw (.ref b)), (N "group", eN g), (N "steps", .raw (.ref a)), (N "digits", .list (ds.map eD))]) (fun p => [(b, p.map fun o => eN (hither1 g o)), (a, pre.map fun g => eL (ds.map (hither1 g)))]) (by walk_at "v") (List.Sublist.refl _) ?_ ?_
  ·intro p o r hp
   dsimp only [kA, kN]
   have hlen : p.length + 1 <= ds.length := by have := congrArg List.length hp; simp at this; lia
   refine Ex.append (d := eN (hither1 g o)) (by walk_at "v") ?_ (sizeOk (by simp; lia)) (Ex.nil ⟨by walk_at "v", ?_⟩)
   ·refine Ev.natOr (Ev.natOr (Ev.natIf (Ev.natAnd (by walk_at "v") ?_) (ha := Ev.nat (n := 4) rfl) (hb := Ev.nat (n := 0) rfl)) (Ev.natIf (Ev.natAnd (by walk_at "v") ?_) (ha := Ev.nat (n := 2) rfl) (hb := Ev.nat (n := 0) rfl))) (Ev.natIf (Ev.natAnd (by walk_at "v") ?_) (ha := Ev.nat (n := 1) rfl) (hb := Ev.nat (n := 0) rfl))
    ·exact Ev.item (i := 1) (by walk_at "v") Ev.int rfl (by simp [digL])
    ·exact Ev.item (i := 2) (by walk_at "v") Ev.int rfl (by simp [digL])
    ·exact Ev.item (i := 3) (by walk_at "v") Ev.int rfl (by simp [digL])
   ·simp
  ·refine Ex.freeze (x := N "pair") (by walk_at "v") ?_
   refine Ex.append (d := eL (ds.map (hither1 g))) (by walk_at "v") ?_ (sizeOk (by simp; lia)) (Ex.nil ⟨by walk_at "v", ?_⟩)
   ·have e : eL (ds.map (hither1 g)) = .list (ds.map fun o => eN (hither1 g o)) := by simp [Function.comp_def]
    rw [e]; walk_at "v"
   ·simp
 ·refine Ex.freeze (x := N "steps") (by walk_at "v") ?_
  apply Ex.ret
  ·walk_at "v"
  ·show Out.ret _ = Out.ret _
   simp [Function.comp_def]
end
end
section
open PyProof.Rows
section
theorem list_l (hsz : ds.length <= sizeLine) : FunN pg w ba q k (fun vs => call (.type "list") vs) [.list ds] (.list ds) := by
 intro s X vs o as A Q E Rm hQ
 obtain ⟨v, rfl, a⟩ := as.one_
 obtain ⟨l, ws, n, rfl, _, e, as'⟩ := a.list_
 have hz := size_of_ats as'
 exact call_list_seq l (.inl rfl) e rfl rfl (fun h' c' hk hD => hQ _ h' s.toks hk (At.list o.fresh hD (as'.ext hk))) (by rw [hz]; exact hsz)
theorem Ev.listOf (C : Cx ba mg mb) {p : Pos} (he : Ev pg w ba q k sc Γ e (.list ds)) (hn : ds.length <= 100000) (hx : sc.names.lookup (N "list") = some .globalImplicit)
  (h : autoParam (∀ U, backTo pos (starEach [e] U) = [(false, eval e U)]) tA) : Ev pg w ba q k sc Γ (.Call (.Name (N "list") p) [e] [] pos) (.list ds) :=
 Ev.callT (Ev.bn C hx) (.cons he .nil (fun U => h U)) (list_l (sizeOk hn)) (args1 h)
theorem EvN.list (C : Cx ba mg mb) {p : Pos} (he : Ev pg w ba q k sc Γ e (.list ds)) (hn : ds.length <= 100000) (hx : sc.names.lookup (N "list") = some .globalImplicit)
  (h : autoParam (∀ U, backTo pos (starEach [e] U) = [(false, eval e U)]) tA) : EvN pg w ba q k sc Γ (.Call (.Name (N "list") p) [e] [] pos) ds := by
 intro U s B M A Q E G S Rm hQ
 refine PyProof.Rows.Call_ (((Ev.bn (v := .type "list") C hx) U s B M G S).bindR Rm fun g t e1 => ?_) rfl
 refine PySem.callWith_type (args_plain (args1 h) U) (args_eval (args1 h) (.cons he .nil (fun U => h U)) G (S.ext e1) Rm fun vs g' t' e2 as => ?_)
 obtain ⟨v, rfl, a⟩ := as.one_
 obtain ⟨l, ws, n, rfl, _, e3, as'⟩ := a.list_
 have hz := size_of_ats as'
 refine call_list_seq l (.inl rfl) e3 rfl rfl (fun h' c' hk hD => hQ _ ws c' h' t' ((e1.trans e2).trans hk) (none_of_ext (e1.trans e2) (fresh_none _)) hD ?_) (by rw [hz]; exact sizeOk hn)
 exact (as'.more fun y hy => (jK.1 hy).elim (fun e => .inr (e ▸ fresh_none _)) .inl).ext hk
end
end
section
open PyProof.Rows
section
theorem swaps_comp {gs : List Comprehension} {line : Nat} (G : EnvG sc U) (hx : sc.names.lookup x = some .local) (hno : (csc.names.any fun p => p.1 == x && (p.2 == .local || p.2 == .cell)) = false) (hline : (px.line == pos.line) = true) :
  swapsWith (.ListComp elt gs csc pos) (some (.Name x px)) line U = pure true := by
 have hk : U.blockKind = .function := by rw [Env.blockKind, G.scope, G.kind]; rfl
 have hl : U.kindOf x = some .local := by rw [Env.kindOf, G.scope]; exact hx
 show (pure (U.blockKind == .function && U.kindOf x == some .local && px.line == pos.line && !(csc.names.any fun p => p.1 == x && (p.2 == .local || p.2 == .cell))) : Sem Bool) = _
 rw [hk, hl, hline, hno]; rfl
theorem Ex.compL {ifs : List Expr} {p : α -> Bool} {f : α -> D} {ns : List Str} {bs : D -> Gam} {spos : Pos} (h : EvS pg w ba true k sc Γ iter (xs.map enc))
  (O : CompOk pg w ba k sc csc Γ Γ' elt target ifs enc xs p f ns bs) (r : Ex pg w ba true k sc ((x, .list ((xs.filter p).map f)) :: Γ) M ss R) (hx : autoParam (sc.names.lookup x = some .local) tA) (hno : autoParam ((csc.names.any fun p => p.1 == x && (p.2 == .local || p.2 == .cell)) = false) tA) (hline : autoParam ((px.line == pos.line) = true) tA)
  (hs : autoParam (∀ U x, foldedSetIterable iter U x = pure x) tA) : Ex pg w ba true k sc Γ M (.Assign [.Name x px] (.ListComp elt [⟨target, iter, ifs, 0⟩] csc pos) spos :: ss) R :=
 Ex.comp h O (by rw [storable, hx]; rfl) r (fun U G => swaps_comp G hx hno hline) hs
theorem swaps_cell {gs : List Comprehension} {line : Nat} (G : EnvG sc U) (hx : sc.names.lookup x = some .cell) :
  swapsWith (.ListComp elt gs csc pos) (some (.Name x px)) line U = pure false := by
 have hl : U.kindOf x = some .cell := by rw [Env.kindOf, G.scope]; exact hx
 show (pure (U.blockKind == .function && U.kindOf x == some .local && px.line == pos.line && !(csc.names.any fun p => p.1 == x && (p.2 == .local || p.2 == .cell))) : Sem Bool) = _
 rw [hl]
 have : ((some NameKind.cell == some NameKind.local) : Bool) = false := by decide
 rw [this]; simp
theorem Ex.compC {ifs : List Expr} {p : α -> Bool} {f : α -> D} {ns : List Str} {bs : D -> Gam} {spos : Pos} (h : EvS pg w ba true k sc Γ iter (xs.map enc))
  (O : CompOk pg w ba k sc csc Γ Γ' elt target ifs enc xs p f ns bs) (r : Ex pg w ba true k sc ((x, .list ((xs.filter p).map f)) :: Γ) M ss R) (hx : autoParam (sc.names.lookup x = some .cell) tA)
  (hs : autoParam (∀ U x, foldedSetIterable iter U x = pure x) tA) : Ex pg w ba true k sc Γ M (.Assign [.Name x px] (.ListComp elt [⟨target, iter, ifs, 0⟩] csc pos) spos :: ss) R := by
 refine Ex.seq (P := fun Γ1 M_1 => Γ1 = (x, .list ((xs.filter p).map f)) :: Γ /\ M_1 = M) ?_ fun Γ' M' ⟨h1, h2⟩ => by subst h1 h2; exact r
 intro U s B A Q E G S Rm T
 refine wpAny_Assign_Name ((Ev.comp h O hs U s B M G S).bind Rm fun v g t e a => ?_) (swaps_cell G hx)
 refine (S.ext e).store G (by rw [storable, hx]; rfl) a fun h' tk S' off zz => ?_
 exact T .next .next h' tk _ M trivial S' (e.off.trans off) (Grow.refl _ _) ⟨rfl, rfl, rfl⟩
noncomputable def unD (i : Nat) : D -> D
 | .list ds => ds.getD i .none
 | .tuple ds => ds.getD i .none
 | _ => .none
end
end
section
open PyProof.Rows
theorem filt (xs : List α) : xs.filter (fun zz => true) = xs := List.filter_eq_self.2 fun zz zz => rfl
noncomputable def strOf (l : List Bool) : Str := ⟨(l.map fun b => if b then 49 else 48).toArray⟩
noncomputable abbrev eW (l : List Bool) : D := .str (strOf l)
theorem strOf_append (a b : List Bool) : strOf a ++ strOf b = strOf (a ++ b) := by
 show Str.mk _ = _
 simp [strOf]
theorem strOf_length (a : List Bool) : (strOf a).length = a.length := by simp [Str.length, strOf]
noncomputable abbrev eWs (ws : List (List Bool)) : D := .list (ws.map eW)
noncomputable abbrev ePr (p : Nat × Nat) : D := .list [eN p.1, eN p.2]
noncomputable def last0 (ends : List Nat) (n : Nat) : List (List Bool) := (List.range n).map fun s => [decide (s ∈ ends)]
noncomputable def lastS (steps : List (Nat × Nat)) (l : List (List Bool)) : List (List Bool) := steps.map fun p => l.getD p.1 [] ++ l.getD p.2 []
noncomputable def lookStep (steps : List (Nat × Nat)) (p : List (List Bool) × List (List Bool)) : List (List Bool) × List (List Bool) :=
 (lastS steps p.1, (List.range steps.length).map fun s => p.2.getD s [] ++ (lastS steps p.1).getD s [])
noncomputable def lookIt (ends : List Nat) (steps : List (Nat × Nat)) : Nat -> List (List Bool) × List (List Bool)
 | 0 => (last0 ends steps.length, last0 ends steps.length)
 | t + 1 => lookStep steps (lookIt ends steps t)
theorem lookIt_0 {ends : List Nat} {steps : List (Nat × Nat)} : lookIt ends steps 0 = (last0 ends steps.length, last0 ends steps.length) := rfl
theorem lookIt_s {ends : List Nat} {steps : List (Nat × Nat)} {t : Nat} : lookIt ends steps (t + 1) = lookStep steps (lookIt ends steps t) := rfl
noncomputable def looks (ends : List Nat) (steps : List (Nat × Nat)) : List (List Bool) := (lookIt ends steps 6).2
theorem lookIt_len (ends : List Nat) (steps : List (Nat × Nat)) (t : Nat) : (lookIt ends steps t).1.length = steps.length /\ (lookIt ends steps t).2.length = steps.length := by
 cases t <;> simp [lookIt_0, lookIt_s, last0, lookStep, lastS]
theorem lookIt_size (ends : List Nat) (steps : List (Nat × Nat)) : ∀ t : Nat, (∀ l ∈ (lookIt ends steps t).1, l.length <= 2 ^ t) /\ (∀ l ∈ (lookIt ends steps t).2, l.length <= 2 ^ (t + 1))
 | 0 => by simp [lookIt_0, last0]
 | t + 1 => by
  have ih := lookIt_size ends steps t
  have g1 : ∀ i, ((lookIt ends steps t).1.getD i []).length <= 2 ^ t := fun i => by
   rw [List.getD_eq_getElem?_getD]
   cases h : (lookIt ends steps t).1[i]? with
   | none => simp
   | some x => exact ih.1 x (List.mem_of_getElem? h)
  have g2 : ∀ i, ((lookIt ends steps t).2.getD i []).length <= 2 ^ (t + 1) := fun i => by
   rw [List.getD_eq_getElem?_getD]
   cases h : (lookIt ends steps t).2[i]? with
   | none => simp
   | some x => exact ih.2 x (List.mem_of_getElem? h)
  have f1 : ∀ l ∈ lastS steps (lookIt ends steps t).1, l.length <= 2 ^ (t + 1) := fun l hl => by
   obtain ⟨p, _, rfl⟩ := jM.1 hl
   have a := g1 p.1; have b := g1 p.2
   rw [List.length_append, Nat.pow_succ]; lia
  refine ⟨f1, fun l hl => ?_⟩
  obtain ⟨i, _, rfl⟩ := jM.1 hl
  have a := g2 i
  have b : ((lastS steps (lookIt ends steps t).1).getD i []).length <= 2 ^ (t + 1) := by
   rw [List.getD_eq_getElem?_getD]
   cases h : (lastS steps (lookIt ends steps t).1)[i]? with
   | none => simp
   | some x => exact f1 x (List.mem_of_getElem? h)
  rw [List.length_append, Nat.pow_succ 2 (t + 1)]; lia
section
theorem getW {ws : List (List Bool)} (h : i < ws.length) : (ws.map eW)[i]? = some (eW (ws.getD i [])) := by simp [h]
theorem Ev.catW {a b : Expr} {x y : List Bool} (ha : Ev pg w ba q k sc Γ a (eW x)) (hb : Ev pg w ba q k sc Γ b (eW y)) (hx : x.length + y.length <= 100000) : Ev pg w ba q k sc Γ (.BinOp a .Add b pos) (eW (x ++ y)) := by
 have := Ev.bin (pos := pos) ha hb (add_ss (by rw [strOf_length, strOf_length]; exact sizeOk hx))
 rw [strOf_append] at this; exact this
theorem looks_body (C : Cx ba mg mb) {ends : List Nat} {steps : List (Nat × Nat)} (hm : steps.length <= 100) (hin : ∀ p ∈ steps, p.1 < steps.length /\ p.2 < steps.length) :
  Ex pg w ba true 1 (fnScope (stmtAt 41)) [(N "ends", eL ends), (N "steps", .list (steps.map ePr))] [] (fnBody (stmtAt 41)) (RetP (eWs (looks ends steps))) := by
 conv => arg 9; whnf
 refine Ex.compC (Γ' := [(N "ends", eL ends)]) (enc := eN) (xs := List.range steps.length) (p := fun zz => true) (f := fun s => eW [decide (s ∈ ends)]) (bs := fun d => [(N "state", d)])
  (EvS.rng C (n := steps.length) (Ev.len C (ds := steps.map ePr) (by walk_at "v") (by simp) (by lia)) (by lia))
  (cmp1 (fun s hs zz => ?_) (sizeOk (by simp; lia))) ?_
 ·dsimp only [kA, kN]
  have e : eW [decide (s ∈ ends)] = if decide (s ∈ ends) = true then .str (N "1") else .str (N "0") := by cases decide (s ∈ ends) <;> rfl
  rw [e]
  exact Ev.ife (Tr.cmp (d_1 := eN s) (by walk_at "v") (by walk_at "v") (in_dd Lay.nat (by lia) trivial fun zz zz => trivial) rfl) (fun zz => Ev.str) (fun zz => Ev.str)
 have e0 : (.list (((List.range steps.length).filter fun zz => true).map fun s => eW [decide (s ∈ ends)]) : D) = eWs (lookIt ends steps 0).1 := by rw [filt, eWs, lookIt_0, last0, List.map_map]; rfl
 rw [e0]
 refine Ex.assign (d := eWs (lookIt ends steps 0).2) (show Ev _ _ _ _ _ _ _ _ (eWs (lookIt ends steps 0).1) from Ev.listOf C (by walk_at "v") (by have := (lookIt_len ends steps 0).1; simp; lia) (by kernel_rfl)) ?_
 refine Ex.for (α := Nat) (enc := eN) (xs := List.range 6) (bs := fun d => [(N "turn", d)])
  (EvS.rng C (n := 6) Ev.int (by lia)) (fun x hx => As.name)
  (fun pre => [(N "looks", eWs (lookIt ends steps pre.length).2), (N "last", eWs (lookIt ends steps pre.length).1), (N "steps", .list (steps.map ePr))]) (fun pre => []) (by dsimp only [List.length_nil]; walk_at "v") (List.Sublist.refl _) ?_ ?_
 ·intro pre t post hpre
  dsimp only [kA, kN]
  have ht : pre.length < 6 := by have := congrArg List.length hpre; simp at this; lia
  have L := lookIt_len ends steps pre.length
  have L' := lookIt_len ends steps (pre.length + 1)
  have Z := lookIt_size ends steps pre.length
  have Z' := lookIt_size ends steps (pre.length + 1)
  have z64 : 2 ^ pre.length <= 64 := by
   have : pre.length <= 6 := by lia
   exact Nat.pow_le_pow_right (by lia) this
  have g1 : ∀ i, ((lookIt ends steps pre.length).1.getD i []).length <= 64 := fun i => by
   rw [List.getD_eq_getElem?_getD]
   cases h : (lookIt ends steps pre.length).1[i]? with
   | none => simp
   | some x => exact Nat.le_trans (Z.1 x (List.mem_of_getElem? h)) z64
  have g1' : ∀ i, ((lookIt ends steps (pre.length + 1)).1.getD i []).length <= 128 := fun i => by
   rw [List.getD_eq_getElem?_getD]
   cases h : (lookIt ends steps (pre.length + 1)).1[i]? with
   | none => simp
   | some x => have := Z'.1 x (List.mem_of_getElem? h); rw [Nat.pow_succ] at this; simp; lia
  have g2 : ∀ i, ((lookIt ends steps pre.length).2.getD i []).length <= 128 := fun i => by
   rw [List.getD_eq_getElem?_getD]
   cases h : (lookIt ends steps pre.length).2[i]? with
   | none => simp
   | some x => have := Z.2 x (List.mem_of_getElem? h); rw [Nat.pow_succ] at this; simp; lia
  refine Ex.compC (Γ' := [(N "last", eWs (lookIt ends steps pre.length).1)]) (enc := ePr) (xs := steps) (p := fun zz => true) (f := fun p => eW ((lookIt ends steps pre.length).1.getD p.1 [] ++ (lookIt ends steps pre.length).1.getD p.2 [])) (bs := fun d => [(N "two", unD 1 d), (N "one", unD 0 d)])
   (EvS.list (by walk_at "v")) ⟨by kernel_rfl, by walk_at "v", (by kernel_rfl : [N "two", N "one"].all _ = true), fun zz => rfl, fun x hx => As.list (ds := [eN x.1, eN x.2]) (AsL.cons (AsL.cons AsL.nil)), fun x hx => TrI.nil, fun p hp zz => ?_, sizeOk (by lia)⟩ ?_
  ·dsimp only [kA, kN]
   have hp1 := (hin p hp).1
   have hp2 := (hin p hp).2
   have a1 := g1 p.1
   have a2 := g1 p.2
   exact Ev.catW (Ev.item (ds := (lookIt ends steps pre.length).1.map eW) (i := p.1) (by walk_at "v") (by apply Ev.var; exact look_there (by kernel_rfl) look_here; decide +kernel) (getW (by lia)) (by simp; lia)) (Ev.item (ds := (lookIt ends steps pre.length).1.map eW) (i := p.2) (by walk_at "v") (by apply Ev.var; exact look_here; decide +kernel) (getW (by lia)) (by simp; lia)) (by lia)
  have e1 : (.list ((steps.filter fun zz => true).map fun p => eW ((lookIt ends steps pre.length).1.getD p.1 [] ++ (lookIt ends steps pre.length).1.getD p.2 [])) : D) = eWs (lookIt ends steps (pre.length + 1)).1 := by rw [filt, eWs, lookIt_s, lookStep, lastS, List.map_map]; rfl
  rw [e1]
  refine Ex.compC (Γ' := [(N "looks", eWs (lookIt ends steps pre.length).2), (N "last", eWs (lookIt ends steps (pre.length + 1)).1)]) (enc := eN) (xs := List.range steps.length) (p := fun zz => true) (f := fun s => eW ((lookIt ends steps pre.length).2.getD s [] ++ (lookIt ends steps (pre.length + 1)).1.getD s [])) (bs := fun d => [(N "state", d)])
   (EvS.rng C (n := steps.length) (Ev.len C (ds := steps.map ePr) (by walk_at "v") (by simp) (by lia)) (by lia)) (cmp1 (fun s hs zz => ?_) (sizeOk (by simp; lia))) ?_
  ·dsimp only [kA, kN]
   have hs' : s < steps.length := List.mem_range.1 hs
   have a1 := g2 s
   have a2 := g1' s
   exact Ev.catW (Ev.item (ds := (lookIt ends steps pre.length).2.map eW) (i := s) (by walk_at "v") (by walk_at "v") (getW (by lia)) (by simp; lia)) (Ev.item (ds := (lookIt ends steps (pre.length + 1)).1.map eW) (i := s) (by walk_at "v") (by walk_at "v") (getW (by lia)) (by simp; lia)) (by lia)
  have e2 : (.list (((List.range steps.length).filter fun zz => true).map fun s => eW ((lookIt ends steps pre.length).2.getD s [] ++ (lookIt ends steps (pre.length + 1)).1.getD s [])) : D) = eWs (lookIt ends steps (pre.length + 1)).2 := by rw [filt, eWs, lookIt_s, lookStep, List.map_map]; rfl
  rw [e2]
  refine Ex.nil ⟨?_, List.Sublist.refl _⟩
  have e3 : (pre ++ [t]).length = pre.length + 1 := by simp
  rw [e3]
  walk_at "v"
 ·apply Ex.ret
  ·walk_at "v"
  ·rfl
end
end
section
open PyProof.Rows
noncomputable def sOf (l : List Nat) : Str := ⟨l.toArray⟩
noncomputable abbrev eC (l : List Nat) : D := .str (sOf l)
theorem sOf_append (a b : List Nat) : sOf a ++ sOf b = sOf (a ++ b) := by
 show Str.mk _ = _
 simp [sOf]
theorem sOf_length (a : List Nat) : (sOf a).length = a.length := by simp [Str.length, sOf]
section
theorem Ev.natAdd {a b : Expr} {x y : Nat} (ha : Ev pg w ba q k sc Γ a (eN x)) (hb : Ev pg w ba q k sc Γ b (eN y)) : Ev pg w ba q k sc Γ (.BinOp a .Add b pos) (eN (x + y)) := by
 have := Ev.bin (pos := pos) ha hb add_ii
 rw [<- Int.natCast_add] at this; exact this
theorem Ev.natMul {a b : Expr} {x y : Nat} (ha : Ev pg w ba q k sc Γ a (eN x)) (hb : Ev pg w ba q k sc Γ b (eN y)) (hx : Builtin.Int.intBits (x : Int) <= 64) : Ev pg w ba q k sc Γ (.BinOp a .Mult b pos) (eN (x * y)) := by
 have := Ev.bin (pos := pos) ha hb (mul_ii (.of_left hx))
 rw [<- Int.natCast_mul] at this; exact this
theorem Ev.natDiv {a b : Expr} {x y : Nat} (ha : Ev pg w ba q k sc Γ a (eN x)) (hb : Ev pg w ba q k sc Γ b (eN y)) (hy0 : y ≠ 0) (hy : y < 1073741824) : Ev pg w ba q k sc Γ (.BinOp a .FloorDiv b pos) (eN (x / y)) := by
 have := Ev.bin (pos := pos) ha hb (fdiv_ii (by lia) (by lia))
 rw [Int.fdiv_eq_ediv_of_nonneg _ (by lia), <- Int.natCast_ediv] at this; exact this
theorem Ev.natMod {a b : Expr} {x y : Nat} (ha : Ev pg w ba q k sc Γ a (eN x)) (hb : Ev pg w ba q k sc Γ b (eN y)) (hy0 : y ≠ 0) : Ev pg w ba q k sc Γ (.BinOp a .Mod b pos) (eN (x % y)) := by
 have := Ev.bin (pos := pos) ha hb (mod_ii (by lia))
 rw [Int.fmod_eq_emod_of_nonneg _ (by lia), <- Int.natCast_emod] at this; exact this
theorem Tr.natGt {a b : Expr} {x y : Nat} (ha : Ev pg w ba q k sc Γ a (eN x)) (hb : Ev pg w ba q k sc Γ b (eN y)) (hm : autoParam (behindInMarks .Gt b = false) tA) : Tr pg w ba q k sc Γ (.Compare a [.Gt] [b] pos) (decide (y < x)) := by
 have := Tr.cmp (pos := pos) ha hb gt_ii hm
 have e : decide ((y : Int) < (x : Int)) = decide (y < x) := by simp
 rw [e] at this; exact this
theorem Tr.natLt {a b : Expr} {x y : Nat} (ha : Ev pg w ba q k sc Γ a (eN x)) (hb : Ev pg w ba q k sc Γ b (eN y)) (hm : autoParam (behindInMarks .Lt b = false) tA) : Tr pg w ba q k sc Γ (.Compare a [.Lt] [b] pos) (decide (x < y)) := by
 have := Tr.cmp (pos := pos) ha hb lt_ii hm
 have e : decide ((x : Int) < (y : Int)) = decide (x < y) := by simp
 rw [e] at this; exact this
theorem Tr.natEq {a b : Expr} {x y : Nat} (ha : Ev pg w ba q k sc Γ a (eN x)) (hb : Ev pg w ba q k sc Γ b (eN y)) (hm : autoParam (behindInMarks .Eq b = false) tA) : Tr pg w ba q k sc Γ (.Compare a [.Eq] [b] pos) (decide (x = y)) := by
 have := Tr.cmp (pos := pos) ha hb eq_ii hm
 have e : ((x : Int) == (y : Int)) = decide (x = y) := by rw [Bool.eq_iff_iff]; simp; lia
 rw [e] at this; exact this
theorem Ev.catC {a b : Expr} {x y : List Nat} (ha : Ev pg w ba q k sc Γ a (eC x)) (hb : Ev pg w ba q k sc Γ b (eC y)) (hx : x.length + y.length <= 100000) : Ev pg w ba q k sc Γ (.BinOp a .Add b pos) (eC (x ++ y)) := by
 have := Ev.bin (pos := pos) ha hb (add_ss (by rw [sOf_length, sOf_length]; exact sizeOk hx))
 rw [sOf_append] at this; exact this
theorem Ev.itemS {slice : Expr} {x : List Nat} {c : Nat} (h_1 : Ev pg w ba q k sc Γ value (eC x)) (h_2 : Ev pg w ba q k sc Γ slice (eN i)) (hi : x[i]? = some c) (hsz : x.length <= 100000)
  (hs : autoParam (∀ o i, (∃ vs, subscripted slice false o i = operate vs (getItem o i))) tA) : Ev pg w ba q k sc Γ (.Subscript value slice pos) (eC [c]) :=
 Ev.sub h_1 h_2 (item_str (by lia) (by simpa [sOf] using hi) (by rw [sOf_length]; exact sizeOk hsz)) hs
theorem Ev.strC {l : List Nat} {c : Nat} (h : x = sOf l) : Ev pg w ba q k sc Γ (.Constant (.str x) c pos) (eC l) := by subst h; exact Ev.str
theorem Ev.charIf {t a b : Expr} {p : Bool} {x y : Nat} (ht : Tr pg w ba q k sc Γ t p) (ha : Ev pg w ba q k sc Γ a (eC [x])) (hb : Ev pg w ba q k sc Γ b (eC [y])) : Ev pg w ba q k sc Γ (.IfExp t a b pos) (eC [if p then x else y]) := by
 have h := Ev.ife (pos := pos) ht (fun zz => ha) (fun zz => hb)
 cases p <;> exact h
noncomputable def rDig (r t : Nat) : Nat := r / [64, 8, 1].getD t 1 % 8
noncomputable def rLast (r t : Nat) : Nat := rDig r t % 2 + 2 * (r / [2048, 1024, 512].getD t 1 % 2)
noncomputable def rTab : List (List Nat) := [[45, 120, 83, 115], [45, 120, 83, 115], [45, 120, 84, 116]]
noncomputable def rTurn (r t : Nat) : List Nat := [if decide (3 < rDig r t) then 114 else 45, if decide (rDig r t / 2 % 2 = 1) then 119 else 45, (rTab.getD t []).getD (rLast r t) 0]
noncomputable def rKinds : List Nat := [63, 112, 99, 63, 100, 63, 98, 63, 45, 63, 108, 63, 115, 63, 63, 63]
noncomputable def rowIt (kind r : Nat) : Nat -> List Nat
 | 0 => [rKinds.getD kind 0]
 | t + 1 => rowIt kind r t ++ rTurn r t
theorem rowIt_s {kind r t : Nat} : rowIt kind r (t + 1) = rowIt kind r t ++ rTurn r t := rfl
noncomputable def row (kind r : Nat) : List Nat := rowIt kind r 3
theorem rowIt_len (kind r : Nat) : ∀ t, (rowIt kind r t).length = 1 + 3 * t
 | 0 => rfl
 | t + 1 => by rw [rowIt_s, List.length_append, rowIt_len kind r t, rTurn]; simp; lia
theorem row_body (C : Cx ba mg mb) {kind r : Nat} (hk : kind < 16) (hr : r < 4096) :
  Ex pg w ba true 1 (fnScope (stmtAt 32)) [(N "kind", eN kind), (N "rights", eN r)] [] (fnBody (stmtAt 32)) (RetP (eC (row kind r))) := by
 conv => arg 9; whnf
 refine Ex.assign (d := eC (rowIt kind r 0)) (Ev.itemS (x := rKinds) (i := kind) (Ev.strC rfl) (by walk_at "v") ?_ (by decide)) ?_
 ·rw [List.getD_eq_getElem?_getD]
  have : kind < rKinds.length := hk
  simp [this]
 refine Ex.for (α := Nat) (enc := eN) (xs := List.range 3) (bs := fun d => [(N "turn", d)])
  (EvS.rng C (n := 3) Ev.int (by lia)) (fun x hx => As.name)
  (fun pre => [(N "row", eC (rowIt kind r pre.length)), (N "rights", eN r)]) (fun pre => []) (by dsimp only [List.length_nil]; walk_at "v") (List.Sublist.refl _) ?_ ?_
 ·intro pre t post hpre
  dsimp only [kA, kN]
  have ht : pre.length < 3 := by have := congrArg List.length hpre; simp at this; lia
  have htp : t = pre.length := by
   have h1 : (List.range 3)[pre.length]? = some pre.length := List.getElem?_range ht
   rw [hpre] at h1; simpa using h1
  have hl := rowIt_len kind r pre.length
  have e1 : ([64, 8, 1].map eN)[t]? = some (eN ([64, 8, 1].getD t 1)) := by
   rw [htp]; match pre.length, ht with | 0, _ => rfl | 1, _ => rfl | 2, _ => rfl
  have e2 : ([2048, 1024, 512].map eN)[t]? = some (eN ([2048, 1024, 512].getD t 1)) := by
   rw [htp]; match pre.length, ht with | 0, _ => rfl | 1, _ => rfl | 2, _ => rfl
  have e3 : (rTab.map eC)[t]? = some (eC (rTab.getD t [])) := by
   rw [htp]; match pre.length, ht with | 0, _ => rfl | 1, _ => rfl | 2, _ => rfl
  have p1 : [64, 8, 1].getD t 1 ≠ 0 /\ [64, 8, 1].getD t 1 < 1073741824 := by
   rw [htp]; match pre.length, ht with | 0, _ => decide | 1, _ => decide | 2, _ => decide
  have p2 : [2048, 1024, 512].getD t 1 ≠ 0 /\ [2048, 1024, 512].getD t 1 < 1073741824 := by
   rw [htp]; match pre.length, ht with | 0, _ => decide | 1, _ => decide | 2, _ => decide
  have hz : (rTab.getD t []).length = 4 := by rw [htp]; match pre.length, ht with | 0, _ => rfl | 1, _ => rfl | 2, _ => rfl
  have hlt : rLast r t < (rTab.getD t []).length := by rw [hz]; unfold rLast; lia
  have e4 : (rTab.getD t [])[rLast r t]? = some ((rTab.getD t []).getD (rLast r t) 0) := by
   rw [List.getD_eq_getElem?_getD (l := rTab.getD t []), List.getElem?_eq_getElem hlt]; rfl
  have hz' : (rTab.getD t []).length <= 100000 := by lia
  refine Ex.assign (d := eN (rDig r t)) (Ev.natMod (Ev.natDiv (by walk_at "v") (Ev.itemT (ds := [64, 8, 1].map eN) (i := t) (Ev.tuple (.cons Ev.int (.cons Ev.int (.cons Ev.int .nil))) (sizeOk (by simp))) (by walk_at "v") e1 (by simp)) p1.1 p1.2) (Ev.nat (n := 8) rfl) (by decide)) ?_
  refine Ex.assign (d := eN (rLast r t)) (Ev.natAdd (Ev.natMod (by walk_at "v") (Ev.nat (n := 2) rfl) (by decide)) (Ev.natMul (Ev.nat (n := 2) rfl) (Ev.natMod (Ev.natDiv (by walk_at "v") (Ev.itemT (ds := [2048, 1024, 512].map eN) (i := t) (Ev.tuple (.cons Ev.int (.cons Ev.int (.cons Ev.int .nil))) (sizeOk (by simp))) (by walk_at "v") e2 (by simp)) p2.1 p2.2) (Ev.nat (n := 2) rfl) (by decide)) (by decide +kernel))) ?_
  refine Ex.assign (d := eC (rowIt kind r pre.length ++ [if decide (3 < rDig r t) then 114 else 45] ++ [if decide (rDig r t / 2 % 2 = 1) then 119 else 45])) (Ev.catC (Ev.catC (by walk_at "v") (Ev.charIf (Tr.natGt (by walk_at "v") (Ev.nat (n := 3) rfl)) (Ev.strC rfl) (Ev.strC rfl)) (by simp; lia)) (Ev.charIf (Tr.natEq (Ev.natMod (Ev.natDiv (by walk_at "v") (Ev.nat (n := 2) rfl) (by decide) (by decide)) (Ev.nat (n := 2) rfl) (by decide)) (Ev.nat (n := 1) rfl)) (Ev.strC rfl) (Ev.strC rfl)) (by simp; lia)) ?_
  refine Ex.assign (d := eC (rowIt kind r pre.length ++ [if decide (3 < rDig r t) then 114 else 45] ++ [if decide (rDig r t / 2 % 2 = 1) then 119 else 45] ++ [(rTab.getD t []).getD (rLast r t) 0])) (Ev.catC (by walk_at "v") (Ev.itemS (x := rTab.getD t []) (i := rLast r t) (Ev.itemT (ds := rTab.map eC) (i := t) (Ev.tuple (.cons (Ev.strC rfl) (.cons (Ev.strC rfl) (.cons (Ev.strC rfl) .nil))) (sizeOk (by simp [rTab]))) (by walk_at "v") e3 (by simp [rTab])) (by walk_at "v") e4 hz') (by simp; lia)) ?_
  refine Ex.nil ⟨?_, List.Sublist.refl _⟩
  have e5 : (pre ++ [t]).length = pre.length + 1 := by simp
  rw [e5, show rowIt kind r (pre.length + 1) = rowIt kind r pre.length ++ [if decide (3 < rDig r t) then 114 else 45] ++ [if decide (rDig r t / 2 % 2 = 1) then 119 else 45] ++ [(rTab.getD t []).getD (rLast r t) 0] from by rw [rowIt_s, rTurn, htp]; simp]
  walk_at "v"
 ·apply Ex.ret
  ·walk_at "v"
  ·rfl
end
end
section
open PyProof.Rows
noncomputable def sst : List Nat := [115, 83, 116, 84]
noncomputable def marks : List (List Nat) := [[114], [119], [120, 115, 116]]
noncomputable def mStarts (r : List Nat) : List Nat := (List.range 3).filter fun s => decide (r.getD (3 * s + 3) 0 ∈ sst)
noncomputable def mSign (r : List Nat) (s : Nat) : List Nat := (r.drop (3 * s + 1)).take 3
noncomputable def mPlaces (sg : List Nat) : List Nat := (List.range 3).filter fun p => decide (sg.getD p 0 ∈ marks.getD p [])
noncomputable def mArrows (r0 r1 : List Nat) (s : Nat) : List Nat × List Nat := (mPlaces (mSign r0 s), mPlaces (mSign r1 s))
noncomputable def machineOf (r0 r1 : List Nat) : List Nat × List Nat × List (List Nat × List Nat) := (mStarts r0, mStarts r1, (List.range 3).map (mArrows r0 r1))
section
set_option tactic.hygienic true in
theorem item_strRun {x : List Nat} {a b : Nat} (hab : a <= b) (hb : b <= x.length) (hlt : b - a < x.length) (hsz : x.length <= 100000) : Item pg w ba q k (eC x) (.slice (some a) (some b) .none) (eC ((x.drop a).take (b - a))) := ⟨typ_str, by
 intro s X v_1 v_2 o a_1 a_2 A Q E R hQ
 obtain ⟨t, rfl⟩ := a_1.str_
 obtain ⟨r, vl, vu, vst, rfl, hs, p1, p2, p3⟩ := a_2.slice_
 cases p1; cases p2; cases p3
 rename_i t1 t2
 refine wpAny_getItem_str_slice (l := some ((a : Int), t1)) (u := some ((b : Int), t2)) (st := none) hs rfl ?_
 have hlen : (sOf x).length = x.length := sOf_length x
 have e1 : slicePicked (sOf x) (some ((a : Int), t1)) (some ((b : Int), t2)) none = (List.range (b - a)).map (fun k => a + k) := StrLaws.strSliceIndices_plain hab (by lia)
 have e2 : (slicePicked (sOf x) (some ((a : Int), t1)) (some ((b : Int), t2)) none).filterMap ((sOf x).cps[·]?) = (x.drop a).take (b - a) := StrLaws.sliced_plain (sOf x) hab (by lia)
 unfold sliceMade
 rw [if_neg]
 ·rw [e2]
  exact ⟨by rw [sizeLine_eq]; simp [Str.length]; lia, hQ _ s.heap _ (Ext.refl _) (.str _ _)⟩
 ·rw [e1, hlen]; simp; lia⟩
theorem Ev.inC {l r : Expr} {c : Nat} {x : List Nat} (h_1 : Ev pg w ba q k sc Γ l (eC [c])) (h_2 : Ev pg w ba q k sc Γ r (eC x)) (hm : autoParam (behindInMarks .In r = false) tA) : Tr pg w ba q k sc Γ (.Compare l [.In] [r] pos) (decide (c ∈ x)) := by
 have := Tr.cmp (pos := pos) h_1 h_2 in_ss hm
 rw [show (sOf [c]) = ⟨#[c]⟩ from rfl, StrLaws.found_one] at this
 exact this
theorem getC {r : List Nat} (h : i < r.length) : r[i]? = some (r.getD i 0) := by simp [h]
theorem machine_body (C : Cx ba mg mb) {r0 r1 : List Nat} (h0 : r0.length = 10) (h1 : r1.length = 10) :
  Ex pg w ba true 1 (fnScope (stmtAt 33)) [(N "rows", .list [eC r0, eC r1])] [] (fnBody (stmtAt 33)) (RetP (eM (machineOf r0 r1))) := by
 conv => arg 9; whnf
 refine Ex.compL (Γ' := [(N "rows", .list [eC r0, eC r1])]) (enc := eN) (xs := List.range 3) (p := fun s => decide (r0.getD (3 * s + 3) 0 ∈ sst)) (f := eN) (bs := fun d => [(N "state", d)])
  (EvS.rng C (n := 3) Ev.int (by lia))
  ⟨by kernel_rfl, by walk_at "v", (by kernel_rfl : [N "state"].all _ = true), fun zz => rfl, fun x hx => As.name, fun s hs => ?_, fun s hs zz => by walk_at "v", sizeOk (by simp)⟩ ?_
 ·dsimp only [kA, kN]
  have hs' : s < 3 := List.mem_range.1 hs
  exact TrI.one (Ev.inC (Ev.itemS (x := r0) (i := 3 * s + 3) (Ev.item (i := 0) (by walk_at "v") Ev.int rfl (by simp)) (Ev.natAdd (Ev.natMul (Ev.nat (n := 3) rfl) (by walk_at "v") (by decide +kernel)) (Ev.nat (n := 3) rfl)) (getC (by lia)) (by lia)) (Ev.strC (l := sst) rfl))
 refine Ex.compL (Γ' := [(N "rows", .list [eC r0, eC r1])]) (enc := eN) (xs := List.range 3) (p := fun s => decide (r1.getD (3 * s + 3) 0 ∈ sst)) (f := eN) (bs := fun d => [(N "state", d)])
  (EvS.rng C (n := 3) Ev.int (by lia))
  ⟨by kernel_rfl, by walk_at "v", (by kernel_rfl : [N "state"].all _ = true), fun zz => rfl, fun x hx => As.name, fun s hs => ?_, fun s hs zz => by walk_at "v", sizeOk (by simp)⟩ ?_
 ·dsimp only [kA, kN]
  have hs' : s < 3 := List.mem_range.1 hs
  exact TrI.one (Ev.inC (Ev.itemS (x := r1) (i := 3 * s + 3) (Ev.item (i := 1) (by walk_at "v") Ev.int rfl (by simp)) (Ev.natAdd (Ev.natMul (Ev.nat (n := 3) rfl) (by walk_at "v") (by decide +kernel)) (Ev.nat (n := 3) rfl)) (getC (by lia)) (by lia)) (Ev.strC (l := sst) rfl))
 rw [show (.list (((List.range 3).filter fun s => decide (r0.getD (3 * s + 3) 0 ∈ sst)).map eN) : D) = eL (mStarts r0) from rfl, show (.list (((List.range 3).filter fun s => decide (r1.getD (3 * s + 3) 0 ∈ sst)).map eN) : D) = eL (mStarts r1) from rfl]
 refine Ex.own (ds := []) EvN.nil fun a => ?_
 refine Ex.for (α := Nat) (enc := eN) (xs := List.range 3) (bs := fun d => [(N "state", d)])
  (EvS.rng C (n := 3) Ev.int (by lia)) (fun x hx => As.name)
  (fun pre => [(N "arrows", .raw (.ref a)), (N "ends", eL (mStarts r1)), (N "starts", eL (mStarts r0)), (N "rows", .list [eC r0, eC r1])]) (fun pre => [(a, pre.map fun s => eP (mArrows r0 r1 s))]) (by walk_at "v") (List.Sublist.refl _) ?_ ?_
 ·intro pre s post hpre
  dsimp only [kA, kN]
  have hlen : pre.length + 1 <= 3 := by have := congrArg List.length hpre; simp at this; lia
  have hs3 : s < 3 := List.mem_range.1 (by rw [hpre]; simp)
  refine Ex.compL (Γ' := [(N "state", eN s)]) (enc := eC) (xs := [r0, r1]) (p := fun zz => true) (f := fun r => eC (mSign r s)) (bs := fun d => [(N "row", d)])
   (EvS.list (ds := [eC r0, eC r1]) (by walk_at "v"))
   (cmp1 (fun r hr zz => ?_) (sizeOk (by simp))) ?_
  ·dsimp only [kA, kN]
   have hr10 : r.length = 10 := by
    rcases jK.1 hr with rfl | hr
    ·exact h0
    ·rw [jS.1 hr]; exact h1
   have e : mSign r s = (r.drop (3 * s + 1)).take ((3 * s + 4) - (3 * s + 1)) := by rw [mSign]; congr 1; lia
   rw [e]
   refine Ev.sub (d_1 := eC r) (by walk_at "v") (Ev.slice (l := some ((3 * s + 1 : Nat) : Int)) (u := some ((3 * s + 4 : Nat) : Int)) (.some ?_) (.some ?_) .none) (item_strRun (by lia) (by lia) (by lia) (by lia))
   ·exact Ev.natAdd (Ev.natMul (Ev.nat (n := 3) rfl) (by walk_at "v") (by decide +kernel)) (Ev.nat (n := 1) rfl)
   ·exact Ev.natAdd (Ev.natMul (Ev.nat (n := 3) rfl) (by walk_at "v") (by decide +kernel)) (Ev.nat (n := 4) rfl)
  refine Ex.append (d := eP (mArrows r0 r1 s)) (by walk_at "v") ?_ (sizeOk (by simp; lia)) (Ex.nil ⟨by walk_at "v", ?_⟩)
  ·have e : eP (mArrows r0 r1 s) = .list (([r0, r1].filter fun zz => true).map fun r => eL (mPlaces (mSign r s))) := rfl
   rw [e]
   refine Ev.comp (Γ' := []) (enc := fun r => eC (mSign r s)) (xs := [r0, r1]) (p := fun zz => true) (bs := fun d => [(N "sign", d)]) (EvS.list (ds := ([r0, r1].filter fun zz => true).map fun r => eC (mSign r s)) (by walk_at "v")) (cmp1 (fun r hr zz => ?_) (sizeOk (by simp)))
   dsimp only [kA, kN]
   have hr10 : r.length = 10 := by
    rcases jK.1 hr with rfl | hr
    ·exact h0
    ·rw [jS.1 hr]; exact h1
   have hsg : (mSign r s).length = 3 := by simp [mSign]; lia
   have e2 : eL (mPlaces (mSign r s)) = .list (((List.range 3).filter fun p => decide ((mSign r s).getD p 0 ∈ marks.getD p [])).map eN) := rfl
   rw [e2]
   refine Ev.comp (Γ' := [(N "sign", eC (mSign r s))]) (enc := eN) (xs := List.range 3) (bs := fun d => [(N "place", d)]) (EvS.rng C (n := 3) Ev.int (by lia))
    ⟨by kernel_rfl, by walk_at "v", (by kernel_rfl : [N "place"].all _ = true), fun zz => rfl, fun x hx => As.name, fun p hp => ?_, fun o ho zz => by walk_at "v", sizeOk (by simp)⟩
   dsimp only [kA, kN]
   have hp' : p < 3 := List.mem_range.1 hp
   have e3 : (marks.map eC)[p]? = some (eC (marks.getD p [])) := by
    match p, hp' with | 0, _ => rfl | 1, _ => rfl | 2, _ => rfl
   refine TrI.one (Ev.inC (Ev.itemS (x := mSign r s) (i := p) (by walk_at "v") (by walk_at "v") (getC (by lia)) (by lia)) (Ev.itemT (ds := marks.map eC) (i := p) (Ev.tuple (.cons (Ev.strC rfl) (.cons (Ev.strC rfl) (.cons (Ev.strC rfl) .nil))) (sizeOk (by simp [marks]))) (by walk_at "v") e3 (by simp [marks])))
  ·simp
 ·refine Ex.freeze (x := N "arrows") (by walk_at "v") ?_
  apply Ex.ret
  ·exact Ev.list (.cons (by walk_at "v") (.cons (by walk_at "v") (.cons (by walk_at "v") .nil))) (sizeOk (by simp))
  ·show Out.ret _ = Out.ret _
   simp [machineOf]
end
end
section
open PyProof.Rows
noncomputable def T8 (m : Nat) : List Nat := (List.range 8).filter m.testBit
noncomputable def tb (led : Bool) (m : Nat) : SetTable :=
 if (T8 m).length < 5 then { mask := 7, place := (T8 m).toArray, dummies := #[], finger := 0, led := led, moves := 0, plain := true }
 else { mask := 31, place := (T8 m).toArray, dummies := #[], finger := 0, led := led, moves := 1, plain := true }
noncomputable def addEnd (led : Bool) (m n : Nat) (t' : SetTable) : Bool :=
 if t'.tooFull then (match t'.relaid ((T8 (m ||| 2 ^ n)).map fun i : Nat => (i : Int)).toArray (SetTable.grown ((T8 m).length + 1)) with
  | some (t2, order) => decide (t2 = tb led (m ||| 2 ^ n)) && decide (order = Array.range ((T8 m).length + 1))
  | none => false)
 else decide (t' = tb led (m ||| 2 ^ n))
noncomputable def addOk (led : Bool) (m n : Nat) : Bool :=
 m.testBit n || (decide ((tb led m).freeSlot (n : Int) = some (n, false)) && decide (T8 (m ||| 2 ^ n) = (T8 m).take ((tb led m).put n).2 ++ n :: (T8 m).drop ((tb led m).put n).2) &&
  ((tb led m).put n).1.fits ((T8 m).length + 1) && ((tb led m).put n).1.plain && decide (((tb led m).put n).2 <= (T8 m).length) && addEnd led m n ((tb led m).put n).1)
noncomputable def addCh (led : Bool) (c : Nat) : Bool := (List.range 32).all fun m => (List.range 8).all fun n => addOk led (32 * c + m) n
theorem addt0 : addCh true 0 = true := by kernel_rfl
theorem addt1 : addCh true 1 = true := by kernel_rfl
theorem addt2 : addCh true 2 = true := by kernel_rfl
theorem addt3 : addCh true 3 = true := by kernel_rfl
theorem addt4 : addCh true 4 = true := by kernel_rfl
theorem addt5 : addCh true 5 = true := by kernel_rfl
theorem addt6 : addCh true 6 = true := by kernel_rfl
theorem addt7 : addCh true 7 = true := by kernel_rfl
theorem addf0 : addCh false 0 = true := by kernel_rfl
theorem addf1 : addCh false 1 = true := by kernel_rfl
theorem addf2 : addCh false 2 = true := by kernel_rfl
theorem addf3 : addCh false 3 = true := by kernel_rfl
theorem addf4 : addCh false 4 = true := by kernel_rfl
theorem addf5 : addCh false 5 = true := by kernel_rfl
theorem addf6 : addCh false 6 = true := by kernel_rfl
theorem addf7 : addCh false 7 = true := by kernel_rfl
theorem addCh_all (led : Bool) {c : Nat} (hc : c < 8) : addCh led c = true := by
 have h : c = 0 \/ c = 1 \/ c = 2 \/ c = 3 \/ c = 4 \/ c = 5 \/ c = 6 \/ c = 7 := by lia
 cases led
 ·rcases h with rfl | rfl | rfl | rfl | rfl | rfl | rfl | rfl
  ·exact addf0
  ·exact addf1
  ·exact addf2
  ·exact addf3
  ·exact addf4
  ·exact addf5
  ·exact addf6
  ·exact addf7
 ·rcases h with rfl | rfl | rfl | rfl | rfl | rfl | rfl | rfl
  ·exact addt0
  ·exact addt1
  ·exact addt2
  ·exact addt3
  ·exact addt4
  ·exact addt5
  ·exact addt6
  ·exact addt7
theorem tbOk_all : ([true, false].all fun led => (List.range 256).all fun m => (tb led m).fits (T8 m).length && (tb led m).plain) = true := by kernel_rfl
end
section
open PyProof.Rows
theorem addOk_at (led : Bool) {m : Nat} (hm : m < 256) (hn : n < 8) : addOk led m n = true := by
 have h := List.all_eq_true.1 (addCh_all led (c := m / 32) (by lia)) (m % 32) (List.mem_range.2 (Nat.mod_lt _ (by decide)))
 have h2 := List.all_eq_true.1 h n (List.mem_range.2 hn)
 rwa [Nat.div_add_mod] at h2
theorem tbOk_at (led : Bool) {m : Nat} (hm : m < 256) : (tb led m).fits (T8 m).length = true /\ (tb led m).plain = true := by
 have h := tbOk_all
 rw [List.all_eq_true] at h
 have h1 := h led (by cases led <;> simp)
 rw [List.all_eq_true] at h1
 simpa using h1 m (List.mem_range.2 hm)
noncomputable abbrev setO (es : Array (Int × Value)) (ep : Nat) (t : SetTable) : Obj := { cls := .type "set", dict := none, data := .set es ep t }
structure EN (T : List Nat) (es : List (Int × Value)) : Prop where
 keys : es.map (·.1) = T.map fun i : Nat => (i : Int)
 vals : ∀ e ∈ es, ∃ t, e.2 = .int e.1 t
theorem EN.length {T : List Nat} {es : List (Int × Value)} (h : EN T es) : es.length = T.length := by
 have := congrArg List.length h.keys; simpa using this
theorem T8_lt {m : Nat} (h : i ∈ T8 m) : i < 8 := List.mem_range.1 (List.mem_filter.1 h).1
theorem T8_len (m : Nat) : (T8 m).length <= 8 := by
 have := List.length_filter_le m.testBit (List.range 8); simpa [T8] using this
theorem hash8 : ∀ n : Nat, n < 8 -> hashInt (n : Int) = (n : Int) := by decide +kernel
theorem EN.key {T : List Nat} {es : List (Int × Value)} (h : EN T es) {e : Int × Value} (he : e ∈ es) : ∃ i ∈ T, e.1 = (i : Int) := by
 have : e.1 ∈ es.map (·.1) := jM.2 ⟨e, he, rfl⟩
 rw [h.keys] at this
 obtain ⟨i, hi, hie⟩ := jM.1 this
 exact ⟨i, hi, hie.symm⟩
theorem EN.elems {m : Nat} {es : List (Int × Value)} (h : EN (T8 m) es) : ElemsOf (intKind pg w) es := by
 intro e he
 obtain ⟨i, hi, hie⟩ := h.key he
 obtain ⟨t, ht⟩ := h.vals e he
 refine ⟨⟨e.1, by rw [ht]; exact intKind_is _ _ _ _, ?_⟩, by rw [ht]; rfl⟩
 show e.1 = hashInt e.1
 rw [hie, hash8 i (T8_lt hi)]
theorem EN.insert {T : List Nat} {es : Array (Int × Value)} {p : Nat} {t : Tok} (h : EN T es.toList) (hp : p <= T.length) : EN (T.take p ++ n :: T.drop p) (SetTable.insertAt es p ((n : Int), .int n t)).toList := by
 have e : (SetTable.insertAt es p ((n : Int), Value.int n t)).toList = es.toList.take p ++ ((n : Int), .int n t) :: es.toList.drop p := by
  have hl := h.length
  simp only [Array.length_toList] at hl
  simp [SetTable.insertAt, Array.toList_extract]
  rw [List.take_of_length_le]; simp
 rw [e]
 refine ⟨?_, fun x hx => ?_⟩
 ·simp only [List.map_append, List.map_cons, List.map_take, List.map_drop, h.keys]
 ·rcases jA.1 hx with hx | hx
  ·exact h.vals x (List.mem_of_mem_take hx)
  ·rcases jK.1 hx with rfl | hx
   ·exact ⟨t, rfl⟩
   ·exact h.vals x (List.mem_of_mem_drop hx)
theorem mem_T8 {m : Nat} : i ∈ T8 m ↔ i < 8 /\ m.testBit i = true := by simp [T8]
theorem filterMap_all (es : Array α) : (Array.range es.size).filterMap (es[·]?) = es := by
 apply Array.ext'
 have key : ∀ l : List α, (List.range l.length).filterMap (l[·]?) = l := by
  intro l
  induction l with
  | nil => rfl
  | cons a l ih =>
   rw [List.length_cons, List.range_succ_eq_map, List.filterMap_cons]
   simp only [List.getElem?_cons_zero, List.filterMap_map, Function.comp_def, List.getElem?_cons_succ]
   rw [ih]
 have := key es.toList
 simpa using this
theorem putSet_at {es es' : Array (Int × Value)} {ep : Nat} {t t' : SetTable} (ho : h.get? a = some (setO es ep t)) : (h.update a (Obj.putSet es' t')).get? a = some (setO es' (ep + 1) t') := by
 have := Heap.get?_update_self (Obj.putSet es' t') ho (by rw [putSet_of es' t' rfl]; rfl)
 rw [putSet_of es' t' rfl] at this; exact this
theorem tb_fits {led : Bool} {m : Nat} (hm : m < 256) {es : Array (Int × Value)} (h : EN (T8 m) es.toList) : (tb led m).fits es.size = true := by
 have hl := h.length; simp only [Array.length_toList] at hl
 rw [hl]; exact (tbOk_at led hm).1
section
set_option tactic.hygienic true in
theorem setAdd_exact {S : Addr} {led : Bool} {m : Nat} {es : Array (Int × Value)} {ep : Nat} {t : Tok} {Q : Bool -> Shared -> Prop} (ho : s.heap.get? S = some (setO es ep (tb led m))) (hen : EN (T8 m) es.toList) (hm : m < 256) (hn : n < 8)
  (h : ∀ b h' es' ep', Heap.SameBut S s.heap h' -> h'.get? S = some (setO es' ep' (tb led (m ||| 2 ^ n))) -> EN (T8 (m ||| 2 ^ n)) es'.toList -> Q b { s with heap := h', toks := s.toks + 1 }) :
  wpAny (model pg w) A (setAdd S (.int n t)) Q E s := by
 have hl := hen.length; simp only [Array.length_toList] at hl
 have h8 := T8_len m
 have hf := tb_fits (led := led) hm hen
 have hel := hen.elems (pg := pg) (w := w)
 unfold setAdd
 refine wpAny_holding ?_
 refine jB ((intKind pg w).pyHash (k := (n : Int)) (intKind_is _ _ _ _) ?_)
 unfold setAddHashed setAddHashedIn
 refine wpAny_holding (jB (wpAny_setState_of (s := { s with toks := s.toks + 1 }) ho rfl hf ?_))
 dsimp only
 rw [byScan_of (knd := intKind pg w) rfl (by show es.size < 4096; lia) hel]
 simp only [↓reduceIte]
 unfold setAddByScan
 refine jB ?_
 refine jB (wpAny_rule ?_)
 refine jB (wpAny_setScan_of (s := { s with toks := s.toks + 1 }) (intKind_is pg w _ _) ho rfl hf hel ?_)
 cases hr : List.findIdx? (fun e => (intKind pg w).is (n : Int) e.2) es.toList with
 | some j =>
  dsimp only
  obtain ⟨hj, hpj, _⟩ := List.findIdx?_eq_some_iff_getElem.1 hr
  have hmem : es.toList[j] ∈ es.toList := List.getElem_mem hj
  obtain ⟨i, hi, hie⟩ := hen.key hmem
  obtain ⟨u, hu⟩ := hen.vals _ hmem
  have hni : i = n := by
   rw [hu] at hpj
   have : (es.toList[j]).1 = (n : Int) := by simpa [intKind, Value.isInt] using hpj
   rw [hie] at this; lia
  have hbit : m.testBit n = true := by rw [<- hni]; exact (mem_T8.1 hi).2
  have hmm : m ||| 2 ^ n = m := by
   apply Nat.eq_of_testBit_eq; intro k
   rw [Nat.testBit_or, Nat.testBit_two_pow]
   by_cases hk : n = k
   ·subst hk; rw [hbit]; rfl
   ·simp [hk]
  rw [hmm] at h
  exact jP (jP (h false s.heap es ep (Heap.SameBut.refl S s.heap) ho hen))
 | none =>
  dsimp only
  have hbit : m.testBit n = false := by
   cases hb : m.testBit n with
   | false => rfl
   | true =>
    have hin : n ∈ T8 m := mem_T8.2 ⟨hn, hb⟩
    have : (n : Int) ∈ es.toList.map (·.1) := by rw [hen.keys]; exact jM.2 ⟨n, hin, rfl⟩
    obtain ⟨e, he, hee⟩ := jM.1 this
    obtain ⟨u, hu⟩ := hen.vals e he
    have := List.findIdx?_eq_none_iff.1 hr e he
    rw [hu, hee, intKind_is] at this; cases this
  have ok := addOk_at led hm hn
  rw [addOk, hbit, Bool.false_or] at ok
  simp only [Bool.and_eq_true, decide_eq_true_eq] at ok
  obtain ⟨⟨⟨⟨⟨ok1, ok2⟩, ok3⟩, ok4⟩, ok5⟩, ok6⟩ := ok
  have hhash : (intKind pg w).hash (n : Int) = (n : Int) := hash8 n hn
  have hens := hen.insert (n := n) (t := t) ok5
  rw [<- ok2] at hens
  have hsz' : (SetTable.insertAt es ((tb led m).put n).2 ((n : Int), Value.int n t)).size = (T8 m).length + 1 := by
   have := hens.length; simp only [Array.length_toList] at this; rw [this, ok2]; simp; lia
  have hlay : layNew (tb led m) es (n : Int) (.int n t) = (SetTable.insertAt es ((tb led m).put n).2 ((n : Int), .int n t), ((tb led m).put n).1, false, false) := by
   unfold layNew
   rw [ok1]
   dsimp only
   rw [hsz', SetTable.orStandIn, ok3]
   rfl
  rw [hhash, hlay]
  dsimp only
  refine jB (jP ?_)
  simp only [ok4, ↓reduceIte]
  refine jB ?_
  rw [hashByValue_scannable 8 (x := .int n t) rfl]
  refine jP ?_
  have hpk : plainKind (Value.int n t) = true := rfl
  simp only [hpk, ↓reduceIte]
  have hg1 := putSet_at (es' := SetTable.insertAt es ((tb led m).put n).2 ((n : Int), Value.int n t)) (t' := ((tb led m).put n).1) ho
  have hsb1 := Heap.SameBut.update s.heap S (Obj.putSet (SetTable.insertAt es ((tb led m).put n).2 ((n : Int), Value.int n t)) ((tb led m).put n).1)
  refine jB (wpAny_storeSet_of (s := { s with toks := s.toks + 1 }) ho rfl ?_ (by rw [hsz', sizeLine_eq]; lia))
  rw [addEnd] at ok6
  simp only [Bool.not_false, Bool.true_and]
  split at ok6
  ·rename_i hfull
   rw [if_pos hfull]
   have hk1 : (SetTable.insertAt es ((tb led m).put n).2 ((n : Int), Value.int n t)).map (·.1) = ((T8 (m ||| 2 ^ n)).map fun i : Nat => (i : Int)).toArray := by
    apply Array.ext'; simpa using hens.keys
   have hR : relayAll ((tb led m).put n).1 (SetTable.insertAt es ((tb led m).put n).2 ((n : Int), Value.int n t)) (SetTable.grown (SetTable.insertAt es ((tb led m).put n).2 ((n : Int), Value.int n t)).size) = (SetTable.insertAt es ((tb led m).put n).2 ((n : Int), Value.int n t), tb led (m ||| 2 ^ n), false) := by
    unfold relayAll
    rw [hk1, hsz']
    split at ok6
    ·rename_i t2 order hq
     rw [hq]
     simp only [Bool.and_eq_true, decide_eq_true_eq] at ok6
     obtain ⟨rfl, rfl⟩ := ok6
     dsimp only
     rw [show (T8 m).length + 1 = (SetTable.insertAt es ((tb led m).put n).2 ((n : Int), Value.int n t)).size from hsz'.symm, filterMap_all]
     rw [if_pos]
     rw [Bool.and_eq_true]
     refine ⟨?_, tb_fits (by
      have : 2 ^ n < 2 ^ 8 := Nat.pow_lt_pow_right (by lia) hn
      exact Nat.or_lt_two_pow (n := 8) hm this) hens⟩
     rw [coversAll, Array.toList_range]; exact List.isPerm_iff.2 (List.Perm.refl _)
    ·cases ok6
   rw [hR]
   dsimp only
   refine jB (jP ?_)
   have hg2 := putSet_at (es' := SetTable.insertAt es ((tb led m).put n).2 ((n : Int), Value.int n t)) (t' := tb led (m ||| 2 ^ n)) hg1
   refine jB (wpAny_storeSet_of (s := { s with heap := s.heap.update S (Obj.putSet (SetTable.insertAt es ((tb led m).put n).2 ((n : Int), Value.int n t)) ((tb led m).put n).1), toks := s.toks + 1 }) hg1 rfl ?_ (by rw [hsz', sizeLine_eq]; lia))
   exact jP (jP (h true _ _ _ (hsb1.trans (Heap.SameBut.update _ S _)) hg2 hens))
  ·rename_i hfull
   rw [if_neg hfull]
   rw [decide_eq_true_eq] at ok6
   rw [ok6] at hg1 hsb1 ⊢
   exact jP (jP (h true _ _ _ hsb1 hg1 hens))
end
end
section
open PyProof.Rows
noncomputable def mOf (l : List Nat) : Nat := l.foldl (fun m n => m ||| 2 ^ n) 0
theorem mOf_push (l : List Nat) (n : Nat) : mOf (l ++ [n]) = mOf l ||| 2 ^ n := by simp [mOf, List.foldl_append]
theorem mOf_fold (l : List Nat) : ∀ m < 256, (∀ n ∈ l, n < 8) -> l.foldl (fun m n => m ||| 2 ^ n) m < 256 := by
 induction l with
 | nil => intro m h _; exact h
 | cons a l ih =>
  intro m h hl
  refine ih _ ?_ fun n hn => hl n (jT _ hn)
  have : 2 ^ a < 2 ^ 8 := Nat.pow_lt_pow_right (by lia) (hl a jC)
  exact Nat.or_lt_two_pow (n := 8) h this
theorem mOf_lt {l : List Nat} (h : ∀ n ∈ l, n < 8) : mOf l < 256 := mOf_fold l 0 (by lia) h
theorem mOf_bit (l : List Nat) (i : Nat) : (mOf l).testBit i = decide (i ∈ l) := by
 have key : ∀ (l : List Nat) (m : Nat), (l.foldl (fun m n => m ||| 2 ^ n) m).testBit i = (m.testBit i || decide (i ∈ l)) := by
  intro l
  induction l with
  | nil => intro m; simp
  | cons a l ih =>
   intro m
   rw [List.foldl_cons, ih, Nat.testBit_or, Nat.testBit_two_pow]
   by_cases h : a = i
   ·subst h; simp
   ·have h' : ¬ i = a := fun e => h e.symm
    simp [h, h']
 have := key l 0
 simpa [mOf] using this
noncomputable def uniq (l : List Nat) : List Nat := (List.range 8).filter fun i => decide (i ∈ l)
theorem T8_mOf (l : List Nat) : T8 (mOf l) = uniq l := by
 unfold T8 uniq
 congr 1
 funext i
 exact mOf_bit l i
structure SetX (h : Heap) (S : Addr) (led : Bool) (m : Nat) : Prop where
 at_ : ∃ es ep, h.get? S = some (setO es ep (tb led m)) /\ EN (T8 m) es.toList
section
variable {R : Result -> Shared -> Prop} {I : Addr} {fp wr : List Addr} {G : Array GenState -> Array GenState -> Prop} {P : Nat -> Value -> Prop} {St : Nat -> Shared -> Prop}
theorem set_update_exact (W : WalksS pg w A.in1 I fp wr G n P St) (S : Addr) (hSf : S ∉ fp) (ns : List Nat) (hns : ns.length = n) (h8 : ∀ x ∈ ns, x < 8) (hval : ∀ i v, P i v -> ∀ x, ns[i]? = some x -> ∃ t, v = .int (x : Int) t) {led : Bool} :
  ∀ (k i : Nat) (s : Shared), n - i = k -> i <= n -> St i s -> SetX s.heap S led (mOf (ns.take i)) ->
   (∀ s', Moved (S :: wr) G s s' -> SetX s'.heap S led (mOf ns) -> R (.ok (.ret .none)) s') ->
   codeAny (model pg w) A (.builtin "set.update.loop" ⟨[.ref S, .ref I], []⟩) R s := by
 have hSw : S ∉ wr := fun h => hSf (W.sub _ h)
 have hsub : ∀ b ∈ wr, b ∈ S :: wr := fun b hb => jT _ hb
 intro k
 induction k with
 | zero =>
  intro i s hk hi hst hS hR
  have hin : i = n := by lia
  subst hin
  refine codeAny_builtin F.entry_set_update_loop ?_
  rw [Around.under_plainId F.plain_set_update_loop _]
  show wpAny _ A.in1 (pyNext (.ref I) >>= _) _ _ s
  refine jB (W.done s _ _ hst fun s' hm => ?_)
  show wpAny _ A.in1 (ret Value.none) _ _ s'
  refine jP (hR s' (hm.mono hsub) ?_)
  obtain ⟨es, ep, e, en⟩ := hS.at_
  rw [<- hns, List.take_length] at e en
  exact ⟨es, ep, hm.heap S _ hSw e, en⟩
 | succ k ih =>
  intro i s hk hi hst hS hR
  have hlt : i < n := by lia
  refine codeAny_builtin F.entry_set_update_loop ?_
  rw [Around.under_plainId F.plain_set_update_loop _]
  show wpAny _ A.in1 (pyNext (.ref I) >>= _) _ _ s
  refine jB (W.item i s _ _ hlt hst fun v s' hP hst' hm => ?_)
  have hx : ns[i]? = some ns[i] := List.getElem?_eq_getElem (by lia)
  obtain ⟨t, rfl⟩ := hval i v hP _ hx
  obtain ⟨es, ep, e, en⟩ := hS.at_
  have hx8 : ns[i] < 8 := h8 _ (List.getElem_mem (by lia))
  have htake : ns.take (i + 1) = ns.take i ++ [ns[i]] := by simp
  show wpAny _ A.in1 (holding [Value.int ((ns[i] : Nat) : Int) t] (setAdd S (.int ((ns[i] : Nat) : Int) t)) >>= _) _ _ s'
  refine jB (wpAny_holding ?_)
  refine setAdd_exact (hm.heap S _ hSw e) en (mOf_lt fun x hx => h8 x (List.mem_of_mem_take hx)) hx8 fun b h' es' ep' hsb hg hen => ?_
  rw [<- mOf_push, <- htake] at hg hen
  refine jP ⟨plainId_quiet F.plain_set_update_loop _, ih (i + 1) _ (by lia) hlt (W.frame _ s' _ _ hst' (Nat.le_succ _) fun b hb o e => ?_) ⟨es', ep', hg, hen⟩ fun s'' hm'' hS'' => ?_⟩
  ·rw [hsb.2 b (fun h : b = S => hSf (by rw [<- h]; exact hb))]; exact e
  ·refine hR s'' (Moved.trans W.gtrans ((hm.mono hsub).then_heap (Nat.le_succ _) fun b o hb e => ?_) hm'') hS''
   rw [hsb.2 b (fun h : b = S => hb (by rw [h]; exact jC))]; exact e
end
section
noncomputable abbrev byText (w : World) : Bool := w.params.followText "set-order"
theorem code_set_newX (a : Value) {Q₁ : VP}
  (h : Q₁ (.ref s.heap.objs.size) { s with heap := s.heap.push { cls := .type "set", dict := none, data := .set #[] 0 (.fresh 0 0 (!byText w)) } }) :
  codeAny (model pg w) A (.call (.builtin "set.__new__") ⟨[.type "set", a], []⟩) (wants Q₁ E) s := by
 refine codeAny_of_tree ?_
 show wpAny _ A.in1 (do checkBuiltinCall "set.__new__" ⟨[.type "set", a], []⟩; again (.builtin "set.__new__" ⟨[.type "set", a], []⟩)) _ _ s
 refine jB (wpAny_of_eq (F.newCall_set_1 a) (jP ⟨plainId_quiet F.plain_set_new _, codeAny_builtin F.entry_set_new ?_⟩))
 rw [Around.under_plainId F.plain_set_new _]
 unfold Builtin.«set.__new__» Builtin.Frozenset.newClass
 have hsub := sub_set_self
 obtain ⟨hp, g, d, tk, os⟩ := s
 dsimp only
 wp_walk
 refine wpAny_askSetting (jP ?_)
 dsimp only
 simp only [newObj]
 refine jB (wpAny_alloc (jP ?_))
 exact jP h
end
end
section
open PyProof.Rows
theorem tb0 (led : Bool) : tb led 0 = .fresh 0 0 led := by cases led <;> decide +kernel
theorem T80 : T8 0 = [] := by kernel_rfl
section
theorem call_setX {l : Addr} {items : Array Value} {ns : List Nat} {Q : VP}
  (hh : A.handled = none) (hl : s.heap.IsList l items) (hns : ns.length = items.size) (h8 : ∀ x ∈ ns, x < 8) (hi : ∀ (i : Nat) (v : Value), items[i]? = some v -> ∀ x : Nat, ns[i]? = some x -> ∃ t, v = .int (x : Int) t)
  (h : ∀ (h' : Heap) (tk : Nat), SetX h' s.heap.objs.size (!byText w) (mOf ns) -> (∀ b o, s.heap.get? b = some o -> h'.get? b = some o) -> Q (.ref s.heap.objs.size) { s with heap := h', toks := tk }) :
  wpAny (model pg w) A (call (.type "set") [.ref l]) Q E s := by
 generalize hled : (!byText w) = led at h
 obtain ⟨c, tl, hmro⟩ := F.called_set.mro
 have hmade := F.called_set.made
 have hsub := F.called_set.sub
 refine wpAny_call (codeAny_of_tree ?_)
 show wpAny _ _ (callAny (.type "set") _) _ _ _
 refine jP ⟨Code.quiet_builtin _ (by kernel_rfl), codeAny_builtin F.entry_type_call ?_⟩
 rw [Around.under_plain (weight_type_call_type "set" [.ref l] []) rfl]
 have h1 := F.called_set.notType
 have h2 := F.called_set.canCreate
 have hct := F.typeCall_set_1 (.ref l)
 repeat (any_goals (first | assumption | wp_step))
 refine codeAny_mono (code_set_newX (.ref l) (E := E) (Q₁ := fun obj s_1 => obj = .ref s.heap.objs.size /\ s_1 = { s with heap := s.heap.push { cls := .type "set", dict := none, data := .set #[] 0 (.fresh 0 0 led) } }) ⟨rfl, by rw [hled]⟩) fun r s_1 hr => ?_
 cases r with
 | error e => exact hr
 | ok fl =>
  cases fl with
  | ret obj =>
   obtain ⟨rfl, rfl⟩ := hr
   have hS : (s.heap.push { cls := .type "set", dict := none, data := .set #[] 0 (.fresh 0 0 led) }).get? s.heap.objs.size = some { cls := .type "set", dict := none, data := .set #[] 0 (.fresh 0 0 led) } := Heap.get?_push_size _ rfl
   have hT : Shared.TypeIs { s with heap := s.heap.push { cls := .type "set", dict := none, data := .set #[] 0 (.fresh 0 0 led) } } (.ref s.heap.objs.size) "set" := ⟨_, hS, rfl⟩
   have hli := F.called_set.init.lookup
   have hbi := F.called_set.init.bind (.ref s.heap.objs.size)
   repeat (any_goals (first | assumption | wp_step))
   refine codeAny_mono (codeAny_call_builtin (R := wants (fun r s_2 => r = .none /\ ∃ h' tk, s_2 = { s with heap := h', toks := tk } /\
     SetX h' s.heap.objs.size led (mOf ns) /\
     (∀ b o, b < s.heap.objs.size -> s.heap.get? b = some o -> h'.get? b = some o)) E) F.called_set.init.plain F.entry_set_init (check_set_init_1 hT ?_)) fun r_2 s_2 hr2 => ?_
   ·obtain ⟨ol, hol, hcl, nl, hdl⟩ := hl
    obtain ⟨ocls, odict, odata, oslots⟩ := ol
    simp only at hcl hdl
    subst hcl; subst hdl
    have hol' : (s.heap.push { cls := .type "set", dict := none, data := .set #[] 0 (.fresh 0 0 led) }).get? l = some { cls := .type "list", dict := odict, data := .seq items nl, slots := oslots } := Heap.get?_push_of_some _ hol
    have hsls := F.sub_list_set
    have hslf := F.sub_list_frozenset
    have hne : (Value.type "list" == Value.type "dict") = false := by decide
    have hl1 : (s.heap.push { cls := .type "set", dict := none, data := .set #[] 0 (.fresh 0 0 led) }).IsList l items := ⟨_, hol', rfl, nl, rfl⟩
    unfold Builtin.«set.__init__» noKeywords Builtin.Frozenset.updateFrom
    generalize hPI : pyIter = PI
    wp_walk
    subst hPI
    refine wpAny_pyIter_list hl1 ?_
    refine jB (wpAny_runValue ?_)
    have hlS : l < s.heap.objs.size := Heap.lt_size hol
    have hh3 : A.in1.in1.in1.handled = none := by simp [hh]
    have hneI : l ≠ (s.heap.push { cls := .type "set", dict := none, data := .set #[] 0 (.fresh 0 0 led) }).objs.size := by
     rw [Heap.size_push]; exact Nat.ne_of_lt (Nat.lt_succ_of_lt hlS)
    have hSf : s.heap.objs.size ∉ [(s.heap.push { cls := .type "set", dict := none, data := .set #[] 0 (.fresh 0 0 led) }).objs.size, l] := by
     rw [Heap.size_push]; simp only [List.mem_cons, List.mem_singleton, List.not_mem_nil, or_false, not_or]
     exact ⟨Nat.ne_of_lt (Nat.lt_succ_self _), Nat.ne_of_gt hlS⟩
    refine set_update_exact (led := led) ((Walks.list hh3 _ l hneI items).toS) s.heap.objs.size
     hSf ns hns h8 hi (items.size - 0) 0 _ (by lia) (Nat.zero_le _)
     ⟨⟨_, Heap.get?_push_size _ rfl, rfl, rfl⟩, (hl1.push _)⟩ ?hS0 ?hR
    case hS0 =>
     have hget : ((s.heap.push { cls := .type "set", dict := none, data := .set #[] 0 (.fresh 0 0 led) }).push { cls := .type "list_iterator", data := .fields #[.ref l, .int 0 0] }).get? s.heap.objs.size
       = some { cls := .type "set", dict := none, data := .set #[] 0 (.fresh 0 0 led) } := Heap.get?_push_of_some _ hS
     have e0 : mOf (ns.take 0) = 0 := by rw [List.take_zero]; rfl
     rw [e0]
     exact ⟨#[], 0, by rw [tb0]; exact hget, ⟨by rw [T80]; rfl, fun e he => by simp at he⟩⟩
    case hR =>
     intro s' hm hS'
     obtain ⟨h', g', d', tk', os'⟩ := s'
     have eg : g' = s.gens := hm.gens
     have ed : d' = s.drawn := hm.drawn
     have eo : os' = s.os := hm.os
     subst eg; subst ed; subst eo
     show wpAny _ _ _ _ _ _
     refine jP ?_
     show wpAny _ _ (ret Value.none) _ _ _
     refine jP ⟨rfl, h', tk', rfl, hS', fun b o hb e => ?_⟩
     have hb1 : b ≠ s.heap.objs.size := Nat.ne_of_lt hb
     have hb2 : b ≠ (s.heap.push { cls := .type "set", dict := none, data := .set #[] 0 (.fresh 0 0 led) }).objs.size := by
      rw [Heap.size_push]; exact Nat.ne_of_lt (Nat.lt_succ_of_lt hb)
     exact hm.heap b o (by simp only [List.mem_cons, List.mem_singleton, List.not_mem_nil, or_false, not_or]; exact ⟨hb1, hb2⟩) (Heap.get?_push_of_some _ (Heap.get?_push_of_some _ e))
   ·cases r_2 with
    | error e => exact hr2
    | ok fl2 =>
     cases fl2 with
     | ret r =>
      obtain ⟨rfl, h', tk, rfl, hS', hk'⟩ := hr2
      repeat (any_goals (first | assumption | wp_step))
      exact h _ _ hS' fun b o e => hk' b o (Heap.lt_size e) e
     | _ => exact hr2.elim
  | _ => exact hr.elim
end
end
section
open PyProof.Rows
theorem slot_set_iter : Slot "set" "__iter__" "set.__iter__" :=
 .of (owner := "set") (n := "__iter__") (by rw [typeLookup_type, builtinLookup_eq_fast]; kernel_rfl) (by kernel_rfl) (by kernel_rfl) (by kernel_rfl)
  (by first | exact .inl (by kernel_rfl) | exact .inr (by kernel_rfl)) (by rw [isSubtype_type]; kernel_rfl)
theorem entry_set_iter : entryFor table "set.__iter__" = some Builtin.«frozenset.__iter__» := entryFor_alias (id' := "frozenset.__iter__") (by kernel_rfl) rfl (by kernel_rfl) (by kernel_rfl)
theorem args_set_iter (a : Value) : argsOk "set.__iter__" ⟨[a], []⟩ := by unfold argsOk; kernel_rfl
theorem slot_setit_next : Slot "set_iterator" "__next__" "set_iterator.__next__" :=
 .of (owner := "set_iterator") (n := "__next__") (by rw [typeLookup_type, builtinLookup_eq_fast]; kernel_rfl) (by kernel_rfl) (by kernel_rfl) (by kernel_rfl)
  (by first | exact .inl (by kernel_rfl) | exact .inr (by kernel_rfl)) (by rw [isSubtype_type]; kernel_rfl)
theorem entry_setit_next : entryFor table "set_iterator.__next__" = some Builtin.«set_iterator.__next__» := entryFor_of_tree (by kernel_rfl)
theorem args_setit_next (a : Value) : argsOk "set_iterator.__next__" ⟨[a], []⟩ := by unfold argsOk; kernel_rfl
theorem slot_setit_iter : Slot "set_iterator" "__iter__" "set_iterator.__iter__" :=
 .of (owner := "set_iterator") (n := "__iter__") (by rw [typeLookup_type, builtinLookup_eq_fast]; kernel_rfl) (by kernel_rfl) (by kernel_rfl) (by kernel_rfl)
  (by first | exact .inl (by kernel_rfl) | exact .inr (by kernel_rfl)) (by rw [isSubtype_type]; kernel_rfl)
theorem entry_setit_iter : entryFor table "set_iterator.__iter__" = some Builtin.«dict_keyiterator.__iter__» := entryFor_alias (id' := "dict_keyiterator.__iter__") (by kernel_rfl) rfl (by kernel_rfl) (by kernel_rfl)
theorem args_setit_iter (a : Value) : argsOk "set_iterator.__iter__" ⟨[a], []⟩ := by unfold argsOk; kernel_rfl
theorem erase_perm : ∀ (l : List α) (i : Nat) (h : i < l.length), (l[i] :: l.eraseIdx i).Perm l
 | a :: l, 0, _ => List.Perm.refl _
 | a :: l, i + 1, h => by
  have ih := erase_perm l i (by simpa using h)
  simp only [List.getElem_cons_succ, List.eraseIdx_cons_succ]
  exact (List.Perm.swap _ _ _).trans (ih.cons a)
theorem pick_go (next : Nat -> Nat) : ∀ (fuel k : Nat) (left : List α) (out : Array α), fuel = left.length -> (pickOrder.go next fuel k left out).toList.Perm (out.toList ++ left)
 | 0, k, left, out, h => by
  have : left = [] := List.eq_nil_of_length_eq_zero h.symm
  subst this; simp [pickOrder.go]
 | fuel + 1, k, left, out, h => by
  have hpos : 0 < left.length := by lia
  have hlt : next k % left.length < left.length := Nat.mod_lt _ hpos
  unfold pickOrder.go
  rw [List.getElem?_eq_getElem hlt]
  dsimp only
  refine (pick_go next fuel (k + 1) _ _ (by rw [List.length_eraseIdx]; simp [hlt]; lia)).trans ?_
  rw [Array.toList_push, List.append_assoc]
  refine List.Perm.append_left _ ?_
  exact erase_perm left _ hlt
theorem pick_perm (next : Nat -> Nat) (xs : Array α) : (pickOrder next xs).toList.Perm xs.toList := by
 have := pick_go next xs.size 0 xs.toList #[] (by simp)
 simpa [pickOrder] using this
noncomputable def setOrd (w : World) (S : Addr) (es : Array (Int × Value)) (ep : Nat) : Array (Int × Value) := if byText w then pickOrder (w.params.setOrder S ep) es else es
theorem setOrd_perm (w : World) (S : Addr) (es : Array (Int × Value)) (ep : Nat) : (setOrd w S es ep).toList.Perm es.toList := by
 unfold setOrd; split
 ·exact pick_perm _ _
 ·exact List.Perm.refl _
noncomputable def slotOf (m : Nat) : Nat -> Nat
 | 0 => 0
 | j + 1 => (T8 m).getD j 0 + 1
end
section
open PyProof.Rows
theorem below_all : ((List.range 256).all fun m => (List.range ((T8 m).length + 1)).all fun i => decide (SetTable.below (T8 m).toArray (slotOf m i) = i)) = true := by kernel_rfl
theorem below_at {m : Nat} (hm : m < 256) (hi : i <= (T8 m).length) : SetTable.below (T8 m).toArray (slotOf m i) = i := by
 have h := below_all
 rw [List.all_eq_true] at h
 have h1 := h m (List.mem_range.2 hm)
 rw [List.all_eq_true] at h1
 have h2 := h1 i (List.mem_range.2 (by lia))
 simpa using h2
theorem tb_place (led : Bool) (m : Nat) : (tb led m).place = (T8 m).toArray := by unfold tb; split <;> rfl
theorem tb_led (led : Bool) (m : Nat) : (tb led m).led = led := by unfold tb; split <;> rfl
section
noncomputable abbrev setItO (slot i : Nat) (S : Addr) (n ep : Nat) : Obj := { cls := .type "set_iterator", dict := none, data := .fields #[rawInt slot, rawInt i, .ref S, rawInt n, rawInt ep] }
theorem pyIter_set {S : Addr} {led : Bool} {m : Nat} {es : Array (Int × Value)} {ep : Nat} {Q : VP} (ho : s.heap.get? S = some (setO es ep (tb led m))) (hen : EN (T8 m) es.toList) (hm : m < 256)
  (hQ : Q (.ref s.heap.objs.size) { s with heap := s.heap.push (setItO 0 0 S es.size ep) }) : wpAny (model pg w) A (pyIter (.ref S)) Q E s := by
 have hT : s.TypeIs (.ref S) "set" := ⟨_, ho, rfl⟩
 have hf := tb_fits (led := led) hm hen
 have hpl := (tbOk_at led hm).2
 refine wpAny_pyIter_slot hT slot_set_iter (wpAny_call_entry slot_set_iter hT entry_set_iter ?_ (args_set_iter _))
 show wpAny _ _ (Builtin.Frozenset.sizeOf S >>= fun n => (do
  let first <- if <- setDrawn S then newTuple ((<- drawOrder n (List.range n)).map fun (i : Nat) => rawInt i) else pure (rawInt 0)
  ret (<- newFields "set_iterator" [first, rawInt 0, .ref S, rawInt n, rawInt (<- setEpoch S)]))) _ _ s
 unfold Builtin.Frozenset.sizeOf
 refine jB (jB (wpAny_setEntries_of ho rfl hf (jP ?_)))
 have hd : ∀ {Q' : Bool -> Shared -> Prop}, Q' false s -> wpAny (model pg w) A.in1 (setDrawn S) Q' E s := fun {Q'} hq => by
  unfold setDrawn setsByText
  refine jB (wpAny_setState_of ho rfl hf ?_)
  dsimp only
  refine jB (jB (wpAny_askSetting (jP ?_)))
  refine jP ?_
  have e : (!(model pg w).w.params.followText "set-order" && (!(tb led m).plain && decide (es.size > 1))) = false := by rw [hpl]; simp
  exact Eq.mpr (congrArg (fun b => Q' b s) e) hq
 refine jB (hd ?_)
 simp only [Bool.false_eq_true, if_false]
 refine jB (jP ?_)
 unfold setEpoch
 refine jB (jB (wpAny_setState_of ho rfl hf (jP ?_)))
 refine jB (wpAny_newObj_type (jP ⟨_, rfl, "set_iterator", _, ⟨_, Heap.get?_push_size _ rfl, rfl⟩, slot_setit_next.lookup, hQ⟩))
theorem pyIter_setit {it S : Addr} {slot ep : Nat} {Q : VP} (hit : s.heap.get? it = some (setItO slot i S n ep)) (h : Q (.ref it) s) : wpAny (model pg w) A (pyIter (.ref it)) Q E s := by
 have hT : s.TypeIs (.ref it) "set_iterator" := ⟨_, hit, rfl⟩
 refine wpAny_pyIter_slot hT slot_setit_iter (wpAny_call_entry slot_setit_iter hT entry_setit_iter ?_ (args_setit_iter _))
 show wpAny _ _ (ret (.ref it)) _ _ s
 exact jP ⟨_, rfl, "set_iterator", _, hT, slot_setit_next.lookup, h⟩
set_option tactic.hygienic true in
theorem setNext_X {S : Addr} {m : Nat} {es : Array (Int × Value)} {ep : Nat} {Q : Option (Value × Nat) -> Shared -> Prop} (ho : s.heap.get? S = some (setO es ep (tb (!byText w) m))) (hen : EN (T8 m) es.toList) (hm : m < 256) (hi : i <= es.size)
  (hQ : Q ((setOrd w S es ep)[i]?.map fun e => (e.2, if byText w then 0 else slotOf m (i + 1))) s) :
  wpAny (model pg w) A (setNext S (if byText w then 0 else slotOf m i) i ep) Q E s := by
 have hf := tb_fits (led := !byText w) hm hen
 have hpl := (tbOk_at (!byText w) hm).2
 have hl := hen.length; simp only [Array.length_toList] at hl
 unfold setNext setsByText
 refine jB (wpAny_setState_of ho rfl hf ?_)
 dsimp only
 refine jB (jB (wpAny_askSetting (jP ?_)))
 show wpAny (model pg w) A (if byText w = true then _ else _) Q E s
 cases hb : byText w with
 | true =>
  simp only [if_true, bne_self_eq_false, Bool.false_eq_true, if_false]
  unfold setWalk setsByText
  refine jB (jB (wpAny_setState_of ho rfl hf ?_))
  dsimp only
  refine jB (jB (wpAny_askSetting (jP ?_)))
  show wpAny (model pg w) A (if byText w = true then _ else _) _ E s
  rw [hb]
  simp only [if_true]
  refine jB (wpAny_askSetting (jP ?_))
  refine jP ?_
  rw [hb] at hQ
  rw [setOrd, hb] at hQ
  exact hQ
 | false =>
  simp only [Bool.false_eq_true, if_false]
  rw [hb] at hpl hQ hf
  simp only [Bool.false_eq_true, if_false, setOrd, hb] at hQ
  split
  ·rename_i hx
   have hx' : (!(tb (!false) m).plain && decide (es.size > 1)) = true := hx
   rw [hpl] at hx'; cases hx'
  ·refine jB ?_
   show wpAny (model pg w) A (if (!(tb (!false) m).led && !es.isEmpty) = true then unsupported "set:maker-not-led" else pure ()) _ E s
   rw [tb_led]
   simp only [Bool.not_false, Bool.not_true, Bool.false_and, Bool.false_eq_true, if_false]
   refine jP (jP ?_)
   rw [tb_place, below_at hm (by lia)]
   by_cases hlt : i < es.size
   ·have e1 : es[i]? = some es[i] := Array.getElem?_eq_getElem hlt
    have e2 : (T8 m).toArray[i]? = some ((T8 m).getD i 0) := by
     have : i < (T8 m).length := by lia
     simp [this]
    rw [e1, e2]
    rw [e1] at hQ
    exact hQ
   ·have e1 : es[i]? = none := Array.getElem?_eq_none (by lia)
    rw [e1]
    rw [e1] at hQ
    exact hQ
end
end
section
open PyProof.Rows
section
noncomputable def setSlot (w : World) (m i : Nat) : Nat := if byText w then 0 else slotOf m i
theorem next_set_item {it S : Addr} {m : Nat} {es : Array (Int × Value)} {ep : Nat} {e : Int × Value} {Q : Option Value -> Shared -> Prop} (hne : it ≠ S) (hit : s.heap.get? it = some (setItO (setSlot w m i) i S es.size ep)) (ho : s.heap.get? S = some (setO es ep (tb (!byText w) m))) (hen : EN (T8 m) es.toList) (hm : m < 256)
  (he : (setOrd w S es ep)[i]? = some e)
  (hQ : ∀ h', h'.get? it = some (setItO (setSlot w m (i + 1)) (i + 1) S es.size ep) -> Heap.SameBut it s.heap h' -> Q (some e.2) { s with heap := h' }) : wpAny (model pg w) A (pyNext (.ref it)) Q E s := by
 have hT : s.TypeIs (.ref it) "set_iterator" := ⟨_, hit, rfl⟩
 have hf := tb_fits (led := !byText w) hm hen
 have hsz : (setOrd w S es ep).size = es.size := by have := (setOrd_perm w S es ep).length_eq; simpa using this
 have hi : i < es.size := by rw [<- hsz]; exact (Array.getElem?_eq_some_iff.1 he).1
 unfold pyNext
 refine jB (wpAny_attempt (wpAny_callSpecial?_slot (name := PySem.Str.ofString "__next__") hT slot_setit_next
  (wpAny_call_entry slot_setit_next hT entry_setit_next ?_ (args_setit_next _))))
 show wpAny _ _ (fieldsOf (.ref it) >>= _) _ _ s
 refine jB (wpAny_fieldsOf hit rfl ?_)
 dsimp only [rawInt]
 refine jB (wpAny_setEntries_of ho rfl hf ?_)
 rw [if_neg (by simp)]
 have hnx := setNext_X (pg := pg) (w := w) (A := A.in1) (E := fun zz zz => False) (s := s) (i := i) (Q := fun r s' => s' = s /\ r = some (e.2, setSlot w m (i + 1))) ho hen hm (by lia) ⟨rfl, by rw [he]; rfl⟩
 show wpAny (model pg w) A.in1 (setNext S ((setSlot w m i : Nat) : Int).toNat ((i : Nat) : Int).toNat ((ep : Nat) : Int).toNat >>= _) _ _ s
 rw [Int.toNat_natCast, Int.toNat_natCast, Int.toNat_natCast]
 refine jB (wpAny_mono hnx (fun r s' hr => ?_) fun zz zz x => x.elim)
 obtain ⟨rfl, rfl⟩ := hr
 dsimp only
 refine jB (wpAny_setField_rec hit (by simp) fun h1 hg1 sb1 => ?_)
 refine jB (wpAny_setField_rec (s := { s' with heap := h1 }) hg1 (by simp) fun h2 hg2 sb2 => ?_)
 refine jP ⟨_, rfl, jP (hQ h2 ?_ (sb1.trans sb2))⟩
 rw [hg2]
 simp [rawInt]
theorem next_set_end {it S : Addr} {m : Nat} {es : Array (Int × Value)} {ep : Nat} {Q : Option Value -> Shared -> Prop} (hh : A.handled = none) (hit : s.heap.get? it = some (setItO (setSlot w m es.size) es.size S es.size ep)) (ho : s.heap.get? S = some (setO es ep (tb (!byText w) m))) (hen : EN (T8 m) es.toList) (hm : m < 256)
  (hQ : ∀ h', Heap.ExtBut it s.heap h' -> Q none { s with heap := h' }) : wpAny (model pg w) A (pyNext (.ref it)) Q E s := by
 have hT : s.TypeIs (.ref it) "set_iterator" := ⟨_, hit, rfl⟩
 have hf := tb_fits (led := !byText w) hm hen
 have hsz : (setOrd w S es ep).size = es.size := by have := (setOrd_perm w S es ep).length_eq; simpa using this
 have he : (setOrd w S es ep)[es.size]? = none := by rw [<- hsz]; simp
 unfold pyNext
 refine jB (wpAny_attempt (wpAny_callSpecial?_slot (name := PySem.Str.ofString "__next__") hT slot_setit_next
  (wpAny_call_entry slot_setit_next hT entry_setit_next ?_ (args_setit_next _))))
 show wpAny _ _ (fieldsOf (.ref it) >>= _) _ _ s
 refine jB (wpAny_fieldsOf hit rfl ?_)
 dsimp only [rawInt]
 refine jB (wpAny_setEntries_of ho rfl hf ?_)
 rw [if_neg (by simp)]
 have hnx := setNext_X (pg := pg) (w := w) (A := A.in1) (E := fun zz zz => False) (s := s) (i := es.size) (Q := fun r s' => s' = s /\ r = none) ho hen hm (by lia) ⟨rfl, by rw [he]; rfl⟩
 show wpAny (model pg w) A.in1 (setNext S ((setSlot w m es.size : Nat) : Int).toNat ((es.size : Nat) : Int).toNat ((ep : Nat) : Int).toNat >>= _) _ _ s
 rw [Int.toNat_natCast, Int.toNat_natCast, Int.toNat_natCast]
 refine jB (wpAny_mono hnx (fun r s' hr => ?_) fun zz zz x => x.elim)
 obtain ⟨rfl, rfl⟩ := hr
 dsimp only
 refine jB (wpAny_setField_rec hit (by simp) fun h1 hg1 sb1 => ?_)
 show wpAny _ _ (newExc (.type "StopIteration") [] >>= _) _ _ _
 refine jB ?_
 simp only [newExc, newTuple]
 refine jB (wpAny_newObj_type ?_ (by size_fits))
 refine jB (m := firstArgMember _ _) (wpAny_of_eq (a := Value.none) (by first | rfl | (simp only [firstArgMember]; rfl)) ?_)
 refine wpAny_newObj_type ?_ (by size_fits)
 simp only [raiseNew]
 refine jB (wpAny_handled ?_)
 rw [show A.in1.handled = none from hh]
 refine jB (jP (wpAny_throw ?_))
 refine jB (wpAny_isInstance (T := "StopIteration") (b := true) ⟨_, Heap.get?_push_size _ rfl, rfl⟩ isSubtype_stop ?_)
 exact jP (hQ _ ((sb1.extBut.push _).push _))
end
theorem Walks.set (hh : A.handled = none) (I S : Addr) (hne : I ≠ S) {m : Nat} {es : Array (Int × Value)} {ep : Nat} (hen : EN (T8 m) es.toList) (hm : m < 256) :
  Walks pg w A I [I, S] [I] es.size (fun i v => ∃ e, (setOrd w S es ep)[i]? = some e /\ v = e.2) (fun i h => h.get? I = some (setItO (setSlot w m i) i S es.size ep) /\ h.get? S = some (setO es ep (tb (!byText w) m))) where
 sub := fun b hb => by rw [jS.1 hb]; exact jC
 frame := fun zz zz zz st hk => ⟨hk I (by simp) _ st.1, hk S (by simp) _ st.2⟩
 item := fun i s Q E hi st hQ => by
  have hsz : (setOrd w S es ep).size = es.size := by have := (setOrd_perm w S es ep).length_eq; simpa using this
  have he : (setOrd w S es ep)[i]? = some (setOrd w S es ep)[i] := Array.getElem?_eq_getElem (by lia)
  refine next_set_item hne st.1 st.2 hen hm he fun h' hit' hs' => ?_
  exact hQ _ h' s.toks ⟨_, he, rfl⟩ ⟨hit', by rw [hs'.2 S (Ne.symm hne)]; exact st.2⟩ fun b o hb e => hs'.extBut b o (fun h => hb (by simp [h])) e
 done := fun s Q E st hQ => next_set_end hh st.1 st.2 hen hm fun h' he' => hQ h' s.toks fun b o hb e => he' b o (fun h => hb (by simp [h])) e
 self := fun zz zz zz zz st hQ => pyIter_setit st.1 hQ
end
section
open PyProof.Rows
theorem set_len_lookup : typeLookup (.type "set") "__len__" = pure (some (.builtin "set.__len__")) := by rw [typeLookup_type, builtinLookup_eq_fast]; kernel_rfl
theorem intsAre_of : ∀ {l : List (Int × Value)}, (∀ e ∈ l, ∃ i : Nat, e.1 = (i : Int) /\ ∃ t, e.2 = .int e.1 t) -> IntsAre (l.map (·.2)) ((l.map fun e => e.1.toNat).map fun i : Nat => (i : Int))
 | [], _ => .nil
 | e :: l, h => by
  obtain ⟨i, hi, t, ht⟩ := h e jC
  have ih := intsAre_of (l := l) fun x hx => h x (jT _ hx)
  rw [List.map_cons, List.map_cons, List.map_cons, ht, hi, Int.toNat_natCast]
  exact .cons _ _ ih
section
theorem collect_set {S : Addr} {m : Nat} {Q : List Value -> Shared -> Prop} (hh : A.handled = none) (hx : SetX s.heap S (!byText w) m) (hm : m < 256)
  (hQ : ∀ h' tk (vs : List Value) (ns : List Nat), Ext s.heap h' -> ns.Perm (T8 m) -> IntsAre vs (ns.map fun i : Nat => (i : Int)) -> Q vs { s with heap := h', toks := tk }) : wpAny (model pg w) A (collect (.ref S)) Q E s := by
 obtain ⟨es, ep, ho, hen⟩ := hx.at_
 have hT : s.TypeIs (.ref S) "set" := ⟨_, ho, rfl⟩
 have hlt : S < s.heap.objs.size := Heap.lt_size ho
 have hlen := hen.length; simp only [Array.length_toList] at hlen
 have h8 := T8_len m
 unfold collect
 refine jB (wpAny_runValue (codeAny_builtin F.entry_proto_collect ?_))
 rw [Around.under_plainId F.plain_proto_collect _]
 show wpAny _ A.in1 (newList [] >>= fun l => again (.builtin "list.__iadd__" ⟨[l, .ref S], []⟩)) _ _ s
 refine jB (wpAny_newObj_type ?_)
 refine jP ⟨plainId_quiet F.plain_list_iadd _, codeAny_builtin F.entry_list_iadd ?_⟩
 rw [Around.under_plainId F.plain_list_iadd _]
 generalize hL : s.heap.objs.size = L at *
 have hS1 : (s.heap.push { cls := .type "list", data := .seq ([] : List Value).toArray }).get? L = some { cls := .type "list", data := .seq ([] : List Value).toArray } := by rw [<- hL]; exact Heap.get?_push_size _ rfl
 have ho_1 : (s.heap.push { cls := .type "list", data := .seq ([] : List Value).toArray }).get? S = some (setO es ep (tb (!byText w) m)) := Heap.get?_push_of_some _ ho
 have hsz1 : (s.heap.push { cls := .type "list", data := .seq ([] : List Value).toArray }).objs.size = L + 1 := by rw [Heap.size_push, hL]
 have hT1 : Shared.TypeIs { s with heap := s.heap.push { cls := .type "list", data := .seq ([] : List Value).toArray } } (.ref S) "set" := ⟨_, ho_1, rfl⟩
 have hLS : L ≠ S := Nat.ne_of_gt hlt
 have h1 : Builtin.List.listSameRef (.ref L) (.ref S) = false := by simp [Builtin.List.listSameRef, hLS]
 show wpAny _ A.in1 (Builtin.List.listExtendWith (.ref L) (.ref S) (.ref L)) _ _ _
 unfold Builtin.List.listExtendWith
 refine jB (wpAny_typeOf hT1 ?_)
 rw [if_neg (by rw [h1]; decide)]
 refine jB (pyIter_set ho_1 hen hm ?_)
 refine jB (wpAny_holding ?_)
 rw [hsz1]
 have hT_2 : Shared.TypeIs { s with heap := (s.heap.push { cls := .type "list", data := .seq ([] : List Value).toArray }).push (setItO 0 0 S es.size ep) } (.ref S) "set" := ⟨_, Heap.get?_push_of_some _ ho_1, rfl⟩
 unfold Builtin.List.listLengthHint
 refine jB (wpAny_specialOf hT_2 set_len_lookup ?_)
 generalize hid : ("set.__len__" : String) = id0
 wp_delta
 rw [show splitId id0 = some ("set", "__len__") from by subst hid; decide +kernel]
 subst hid
 refine jB (wpAny_isInstance (b := true) hT_2 sub_set_self ?_)
 show wpAny _ _ (typeOf (Value.ref S) >>= _) _ _ _
 refine jB (wpAny_typeOf hT_2 ?_)
 refine jP ?_
 rw [if_pos (by decide)]
 have hS2 : ((s.heap.push { cls := .type "list", data := .seq ([] : List Value).toArray }).push (setItO 0 0 S es.size ep)).get? L = some { cls := .type "list", data := .seq ([] : List Value).toArray } := Heap.get?_push_of_some _ hS1
 show wpAny _ A.in1 (rule "list.extend.makes-room" >>= fun zz => Builtin.List.listTouch (.ref L) >>= fun zz => again (.builtin "list.extend.loop" ⟨[.ref L, .ref (L + 1), .ref L], []⟩)) _ _ _
 refine jB (wpAny_rule (jB ?_))
 unfold Builtin.List.listTouch
 refine jB (wpAny_updateSeq hS2 rfl ?_)
 have hS3 := Heap.get?_update_self (Obj.mapSeq (fun xs : Array Value => xs.push .none)) hS2 rfl
 refine wpAny_updateSeq hS3 rfl ?_
 have hS4 := Heap.get?_update_self (Obj.mapSeq (fun xs : Array Value => xs.pop)) hS3 rfl
 have oth : ∀ b o, b ≠ L -> ((s.heap.push { cls := .type "list", data := .seq ([] : List Value).toArray }).push (setItO 0 0 S es.size ep)).get? b = some o -> ((((s.heap.push { cls := .type "list", data := .seq ([] : List Value).toArray }).push (setItO 0 0 S es.size ep)).update L (Obj.mapSeq (fun xs : Array Value => xs.push .none))).update L (Obj.mapSeq (fun xs : Array Value => xs.pop))).get? b = some o := fun b o hb e =>
  (Heap.get?_update_other _ _ (Ne.symm hb)).trans ((Heap.get?_update_other _ _ (Ne.symm hb)).trans e)
 have hIS : (L + 1 : Nat) ≠ S := by have : @LT.lt Nat _ S L := hlt; lia
 have W := (Walks.set (pg := pg) (w := w) (A := A.in1) hh (L + 1) S hIS (ep := ep) hen hm).toS
 have hLf : L ∉ [L + 1, S] := fun hmm => by
  rcases jK.1 hmm with h | h
  ·have h : @Eq Nat L (L + 1) := h
   lia
  ·exact hLS (jS.1 h)
 have hI2 : ((s.heap.push { cls := .type "list", data := .seq ([] : List Value).toArray }).push (setItO 0 0 S es.size ep)).get? (L + 1) = some (setItO 0 0 S es.size ep) := by rw [<- hsz1]; exact Heap.get?_push_size _ rfl
 have hslot0 : setSlot w m 0 = 0 := by unfold setSlot slotOf; split <;> rfl
 refine jP ⟨plainId_quiet F.plain_extend_loop _, codeAny_extend_loopS W (by rw [sizeLine_eq]; lia) L hLf _ es.size 0 _ #[] _ rfl (Nat.zero_le _)
  ⟨by rw [hslot0]; exact oth _ _ (by have : @LT.lt Nat _ L (L + 1) := Nat.lt_succ_self _; exact Nat.ne_of_gt this) hI2, oth _ _ (Ne.symm hLS) (Heap.get?_push_of_some _ ho_1)⟩ hS4 (ItemsOf.nil _) fun s' acc' c' hmv hS' hacc => ?_⟩
 show wpAny _ A (load L >>= _) _ _ s'
 refine jB (wpAny_load hS' (jP ?_))
 have hgen := Moved.eq_with hmv
 rw [hgen]
 have hsz : (setOrd w S es ep).size = es.size := by have := (setOrd_perm w S es ep).length_eq; simpa using this
 have hord : ∀ e ∈ (setOrd w S es ep).toList, ∃ i : Nat, e.1 = (i : Int) /\ ∃ t, e.2 = .int e.1 t := fun e he => by
  have he' := (setOrd_perm w S es ep).mem_iff.1 he
  obtain ⟨i, _, hi⟩ := hen.key he'
  exact ⟨i, hi, hen.vals e he'⟩
 have hacc' : acc'.toList = (setOrd w S es ep).toList.map (·.2) := by
  apply List.ext_getElem?
  intro j
  rw [List.getElem?_map, Array.getElem?_toList, Array.getElem?_toList]
  by_cases hj : j < es.size
  ·have hja : j < acc'.size := by rw [hacc.1]; exact hj
   obtain ⟨e, he, hv⟩ := hacc.2 j _ (Array.getElem?_eq_getElem hja)
   rw [he, Array.getElem?_eq_getElem hja, hv]; rfl
  ·rw [Array.getElem?_eq_none (by rw [hacc.1]; lia), Array.getElem?_eq_none (by lia)]; rfl
 rw [hacc']
 refine hQ s'.heap s'.toks _ ((setOrd w S es ep).toList.map fun e => e.1.toNat) (fun b o e => ?_) ?_ (intsAre_of hord)
 ·have hbL : @LT.lt Nat _ b L := by rw [<- hL]; exact Heap.lt_size e
  refine hmv.heap b o (fun hmm => ?_) (oth b o (Nat.ne_of_lt hbL) (Heap.get?_push_of_some _ (Heap.get?_push_of_some _ e)))
  rcases jK.1 hmm with h | h
  ·have h : @Eq Nat b L := h
   lia
  ·have h : @Eq Nat b (L + 1) := jS.1 h
   lia
 ·refine ((setOrd_perm w S es ep).map _).trans (List.Perm.of_eq ?_)
  have := congrArg (List.map Int.toNat) hen.keys
  rw [List.map_map, List.map_map] at this
  simpa [Function.comp_def] using this
end
end
section
open PyProof.Rows
theorem uniq_sorted (l : List Nat) : (uniq l).Pairwise (· <= ·) := by
 unfold uniq
 refine List.Pairwise.filter _ ?_
 exact (List.pairwise_lt_range (n := 8)).imp fun h => Nat.le_of_lt h
theorem natCast_pairwise : ∀ {ns : List Nat}, (ns.map fun i : Nat => (i : Int)).Pairwise (· <= ·) -> ns.Pairwise (· <= ·) := by
 intro ns h
 rw [List.pairwise_map] at h
 exact h.imp fun h => by lia
theorem intsAre_ats {ns : List Nat} (a : IntsAre vs (ns.map fun i : Nat => (i : Int))) : Ats X h vs (ns.map eN) := by
 induction ns generalizing vs with
 | nil => cases a; exact .nil
 | cons n ns ih => cases a with | cons zz t r => exact .cons (.int _ _) (ih r)
theorem perm_cast : ∀ {ns' : List Int} {ns : List Nat}, ns'.Perm (ns.map fun i : Nat => (i : Int)) -> ∃ ms : List Nat, ns' = ms.map (fun i : Nat => (i : Int)) /\ ms.Perm ns := by
 intro ns' ns h
 refine ⟨ns'.map Int.toNat, ?_, ?_⟩
 ·rw [List.map_map]
  have : ∀ x ∈ ns', x = ((fun i : Nat => (i : Int)) ∘ Int.toNat) x := fun x hx => by
   obtain ⟨i, _, rfl⟩ := jM.1 (h.mem_iff.1 hx)
   simp
  exact (List.map_id ns').symm.trans (List.map_congr_left this)
 ·refine (h.map Int.toNat).trans (List.Perm.of_eq ?_)
  rw [List.map_map]; simp [Function.comp_def]
section
theorem sorted_set {S : Addr} {l : List Nat} {Q : VP} (hh : A.handled = none) (hx : SetX s.heap S (!byText w) (mOf l)) (h8 : ∀ n ∈ l, n < 8)
  (hQ : ∀ a h' tk vs n, Ext s.heap h' -> s.heap.get? a = .none -> h'.get? a = some (listO vs n) -> (∀ X, Ats X h' vs.toList ((uniq l).map eN)) -> Q (.ref a) { s with heap := h', toks := tk }) :
  wpAny (model pg w) A (call (.builtin "sorted") [.ref S]) Q E s := by
 refine Calls.call_function_entry kind_sorted plain_sorted entry_sorted (args_sorted1 _) ?_
 unfold Builtin.«sorted»
 refine jB (m := checkCount "sorted" 1 1 _) (jP ?_)
 refine jB (collect_set (A := A.in1) hh hx (mOf_lt h8) fun h1 tk1 vs ns e1 hp hI => ?_)
 rw [T8_mOf] at hp
 have hl8 : vs.length <= 8 := by
  rw [hI.length, List.length_map, hp.length_eq]
  have := List.length_filter_le (fun i => decide (i ∈ l)) (List.range 8); simpa [uniq] using this
 refine jB (wpAny_newList ?_ (by rw [sizeLine_eq]; lia))
 have hoL : (h1.push (seqObj "list" vs.toArray 0)).get? h1.objs.size = some (seqObj "list" vs.toArray 0) := Heap.get?_push_size _ rfl
 refine jB (wpAny_holding (wpAny_call_entry slot_list_sort ⟨_, hoL, rfl⟩ entry_list_sort (list_sort_tree hoL hI (by lia) fun out ns' a1 a2 a3 => ⟨_, rfl, ?_⟩) (args_list_sort _)))
 obtain ⟨e, he⟩ := sortedHeap_at (out := out) hoL
 obtain ⟨ms, rfl, hms⟩ := perm_cast a2
 have hmu : ms = uniq l := by
  refine List.Perm.eq_of_pairwise (le := (· <= ·)) (fun a b zz zz h1 h2 => Nat.le_antisymm h1 h2) (natCast_pairwise a3) (uniq_sorted l) (hms.trans hp)
 subst hmu
 refine jP ⟨_, rfl, hQ h1.objs.size _ tk1 out e (fun b o hb => ?_) (none_of_ext e1 (fresh_none _)) he fun X => intsAre_ats a1⟩
 have hb1 := e1 b o hb
 have hlt : b < h1.objs.size := Heap.lt_size hb1
 show (sortedHeap (h1.push (seqObj "list" vs.toArray 0)) h1.objs.size vs out).get? b = some o
 rw [sortedHeap_old (Nat.ne_of_lt hlt) (by rw [Heap.size_push]; exact Nat.lt_succ_of_lt hlt)]
 exact Heap.get?_push_of_some _ hb1
theorem eL_at {l : List Nat} (as : Ats X h vs (l.map eN)) (i : Nat) (v : Value) (hv : vs[i]? = some v) (x : Nat) (hx : l[i]? = some x) : ∃ t, v = .int (x : Int) t := by
 obtain ⟨d, hd, a⟩ := as.get' hv
 rw [List.getElem?_map, hx] at hd
 injection hd with hd
 rw [<- hd] at a
 exact a.int_
theorem Ev.sortedSet (C : Cx ba mg mb) {p p' pos' : Pos} {l : List Nat} (he : Ev pg w ba true k sc Γ e (eL l)) (h8 : ∀ n ∈ l, n < 8) (hx : sc.names.lookup (N "sorted") = some .globalImplicit) (hx' : sc.names.lookup (N "set") = some .globalImplicit)
  (h' : autoParam (∀ U, backTo pos' (starEach [e] U) = [(false, eval e U)]) tA)
  (h : autoParam (∀ U, backTo pos (starEach [.Call (.Name (N "set") p') [e] [] pos'] U) = [(false, eval (.Call (.Name (N "set") p') [e] [] pos') U)]) tA) :
  Ev pg w ba true k sc Γ (.Call (.Name (N "sorted") p) [.Call (.Name (N "set") p') [e] [] pos'] [] pos) (eL (uniq l)) := by
 intro U s B M G S A Q E Rm hQ
 refine PyProof.Rows.Call_ (((Ev.bn (v := .builtin "sorted") C hx) U s B M G S).bindR Rm fun g t e1 => ?_) rfl
 refine callWith_builtin (args_plain (args1 h) U) ?_
 rw [h U]
 refine evalArgs_plain (spliced_cons ?_)
 refine PyProof.Rows.Call_ (((Ev.bn (v := .type "set") C hx') U _ B M G (S.ext e1)).bindR Rm fun g2 t2 e2 => ?_) rfl
 refine PySem.callWith_type (args_plain (args1 h') U) (args_eval (args1 h') (.cons he .nil (fun U => h' U)) G ((S.ext e1).ext e2) Rm fun vs g3 t3 e3 as => ?_)
 obtain ⟨v, rfl, a⟩ := as.one_
 obtain ⟨ad, ws, n, rfl, _, e4, as'⟩ := a.list_
 have hz := size_of_ats as'
 refine call_setX (ns := l) (Rm.hd rfl) (isList_of e4) (by rw [hz, List.length_map]) h8 (fun i v hv x hx => eL_at as' i v (by simpa using hv) x hx) fun g4 t4 hset e5 => ?_
 refine spliced_nil ?_
 refine sorted_set (s := { s with heap := g4, toks := t4 }) (Rm.hd rfl) hset h8 fun b g5 t5 vs n e6 hn hg hats => ?_
 have eAll : Ext s.heap g5 := (((e1.trans e2).trans e3).trans e5).trans e6
 refine hQ _ g5 t5 eAll (At.list ?_ hg (hats _))
 intro hm
 obtain ⟨o, x⟩ := S.allLive b hm
 have : g4.get? b = some o := (((e1.trans e2).trans e3).trans e5) b o x
 have hn' : g4.get? b = .none := hn
 rw [hn'] at this; cases this
end
end
section
open PyProof.Rows
noncomputable def gathered (a : List (List Nat × List Nat)) (g : List Nat) (l : Nat) : List Nat := (g.map fun o => sel (a.getD o ([], [])) l).flatten
noncomputable def led (a : List (List Nat × List Nat)) (g : List Nat) (l : Nat) : List Nat := uniq (gathered a g l)
theorem gathered_push (a : List (List Nat × List Nat)) (g : List Nat) (l o : Nat) : gathered a (g ++ [o]) l = gathered a g l ++ sel (a.getD o ([], [])) l := by simp [gathered]
theorem gathered_len {a : List (List Nat × List Nat)} {l : Nat} (hz : ∀ p ∈ a, p.1.length <= 100 /\ p.2.length <= 100) : ∀ g : List Nat, (gathered a g l).length <= 100 * g.length
 | [] => by simp [gathered]
 | o :: g => by
  have ih := gathered_len (l := l) hz g
  have e : gathered a (o :: g) l = sel (a.getD o ([], [])) l ++ gathered a g l := by simp [gathered]
  have : (sel (a.getD o ([], [])) l).length <= 100 := by
   rw [List.getD_eq_getElem?_getD]
   cases h : a[o]? with
   | none => simp [sel]
   | some p => have := hz p (List.mem_of_getElem? h); simp only [Option.getD_some, sel]; split <;> lia
  rw [e, List.length_append, List.length_cons]; lia
theorem gathered_lt {a : List (List Nat × List Nat)} {l : Nat} (h8 : ∀ p ∈ a, ∀ n, n ∈ p.1 \/ n ∈ p.2 -> n < 8) (g : List Nat) : ∀ n ∈ gathered a g l, n < 8 := by
 intro n hn
 obtain ⟨L, hL, hnL⟩ := List.mem_flatten.1 hn
 obtain ⟨o, _, rfl⟩ := jM.1 hL
 rw [List.getD_eq_getElem?_getD] at hnL
 cases h : a[o]? with
 | none => rw [h] at hnL; simp [sel] at hnL
 | some p =>
  rw [h] at hnL
  refine h8 p (List.mem_of_getElem? h) n ?_
  simp only [Option.getD_some, sel] at hnL
  split at hnL
  ·exact .inl hnL
  ·exact .inr hnL
section
theorem Ev.natCat {a b : Expr} {x y : List Nat} (ha : Ev pg w ba q k sc Γ a (eL x)) (hb : Ev pg w ba q k sc Γ b (eL y)) (hz : x.length + y.length <= 100000) : Ev pg w ba q k sc Γ (.BinOp a .Add b pos) (eL (x ++ y)) := by
 have := Ev.bin (pos := pos) ha hb (add_ll (by simp only [List.length_map]; exact sizeOk hz))
 rw [<- List.map_append] at this; exact this
theorem led_body (C : Cx ba mg mb) {a : List (List Nat × List Nat)} {l : Nat} (ha : a.length <= 100) (hg : g.length <= 100) (hl : l < 2) (hin : ∀ o ∈ g, o < a.length) (hz : ∀ p ∈ a, p.1.length <= 100 /\ p.2.length <= 100) (h8 : ∀ p ∈ a, ∀ n, n ∈ p.1 \/ n ∈ p.2 -> n < 8) :
  Ex pg w ba true 1 (fnScope (stmtAt 36)) [(N "arrows", eA a), (N "group", eL g), (N "letter", eN l)] [] (fnBody (stmtAt 36)) (RetP (eL (led a g l))) := by
 conv => arg 9; whnf
 refine Ex.assign (d := eL (gathered a [] l)) (Ev.list (ds := []) .nil (sizeOk (by simp))) ?_
 refine Ex.for (α := Nat) (enc := eN) (xs := g) (bs := fun d => [(N "one", d)])
  (EvS.list (by walk_at "v")) (fun x hx => As.name)
  (fun pre => [(N "states", eL (gathered a pre l)), (N "arrows", eA a), (N "letter", eN l)]) (fun pre => []) (by walk_at "v") (List.Sublist.refl _) ?_ ?_
 ·intro pre o post hpre
  dsimp only [kA, kN]
  have ho : o < a.length := hin o (by rw [hpre]; simp)
  have hlen : pre.length + 1 <= g.length := by have := congrArg List.length hpre; simp at this; lia
  have h1 := gathered_len (l := l) hz pre
  have h2 := gathered_len (l := l) hz (pre ++ [o])
  rw [gathered_push, List.length_append, List.length_append, List.length_singleton] at h2
  refine Ex.assign (d := eL (gathered a (pre ++ [o]) l)) ?_ (Ex.nil ⟨by walk_at "v", List.Sublist.refl _⟩)
  rw [gathered_push]
  refine Ev.natCat (by walk_at "v") ?_ (by lia)
  exact Ev.item (ds := [eL (a.getD o ([], [])).1, eL (a.getD o ([], [])).2]) (i := l) (Ev.item (ds := a.map eP) (i := o) (by walk_at "v") (by walk_at "v") (by simp [ho, eP]) (by simp; lia)) (by walk_at "v") (eP_sel hl) (by simp)
 ·apply Ex.ret
  ·exact Ev.sortedSet C (by walk_at "v") (gathered_lt h8 g) (by kernel_rfl) (by kernel_rfl)
  ·rfl
end
end
section
open PyProof.Rows PySem.W
noncomputable def runT (lt : Nat -> Nat -> Bool) {α : Type} : KasT α -> α
 | .ret a => a
 | .ask i j k => runT lt (k (lt i j))
theorem runT_bind (lt : Nat -> Nat -> Bool) {β : Type} (f : α -> KasT β) : ∀ t : KasT α, runT lt (t.bind f) = runT lt (f (runT lt t))
 | .ret _ => rfl
 | .ask i j k => by show runT lt ((k (lt i j)).bind f) = _; rw [runT_bind lt f (k (lt i j))]; rfl
inductive AskIn (n : Nat) {α : Type} (P : α -> Prop) : KasT α -> Prop
 | ret {a : α} (ha : P a) : AskIn n P (.ret a)
 | ask {i j : Nat} {k : Bool -> KasT α} (hi : i < n) (hj : j < n) (hk : ∀ b, AskIn n P (k b)) : AskIn n P (.ask i j k)
theorem AskIn.bind {β : Type} {P : α -> Prop} {P' : β -> Prop} {f : α -> KasT β} (hf : ∀ a, P a -> AskIn n P' (f a)) {t : KasT α} (h : AskIn n P t) : AskIn n P' (t.bind f) := by
 induction h with
 | ret ha => exact hf _ ha
 | ask hi hj zz ih => exact .ask hi hj ih
theorem wp_run {cmp : Nat -> Nat -> (Bool -> Shared -> Prop) -> Shared -> Prop} {lt : Nat -> Nat -> Bool} {Inv : Shared -> Prop} (hc : ∀ i j C s, i < n -> j < n -> Inv s -> (∀ s', Inv s' -> C (lt i j) s') -> cmp i j C s) {P : α -> Prop} {Q : α -> Shared -> Prop}
  {t : KasT α} (h : AskIn n P t) (hs : Inv s) (hQ : ∀ s', Inv s' -> Q (runT lt t) s') : t.kasWp cmp Q s := by
 induction h generalizing s with
 | ret ha => exact hQ s hs
 | ask hi hj zz ih => exact hc _ _ _ s hi hj hs fun s' hs' => ih _ hs' hQ
theorem AskIn.imp {P P' : α -> Prop} (h : ∀ a, P a -> P' a) {t : KasT α} (a : AskIn n P t) : AskIn n P' t := by
 induction a with
 | ret ha => exact .ret (h _ ha)
 | ask hi hj zz ih => exact .ask hi hj ih
theorem AskIn.run {P : α -> Prop} (lt : Nat -> Nat -> Bool) {t : KasT α} (h : AskIn n P t) : P (runT lt t) := by
 induction h with
 | ret ha => exact ha
 | ask hi hj zz ih => exact ih _
structure Bd (n : Nat) (p : Array Nat) : Prop where
 pos : 0 < n
 mem : ∀ x ∈ p.toList, x < n
theorem Bd.at {p : Array Nat} (h : Bd n p) (k : Nat) : p.getD k 0 < n := by
 by_cases hk : k < p.size
 ·have e : p.getD k 0 = p[k] := by simp [Array.getD, hk]
  rw [e]
  exact h.mem _ (Array.getElem_mem_toList hk)
 ·have e : p.getD k 0 = 0 := by simp [Array.getD, hk]
  rw [e]; exact h.pos
theorem Bd.perm {p q : Array Nat} (h : Bd n p) (e : q.Perm p) : Bd n q := ⟨h.pos, fun x hx => h.mem x (by
 have := e.toList.mem_iff (a := x)
 exact this.1 hx)⟩
theorem Bd.rev {p : Array Nat} (h : Bd n p) (i j : Nat) : Bd n (kas_rev p i j) := h.perm (mirror_perm _ _ _ _)
theorem Bd.bub {p : Array Nat} (h : Bd n p) (i d : Nat) : Bd n (bubble p i d) := h.perm (bubble_perm _ _ _)
theorem ask_asc {p : Array Nat} (h : Bd n p) : ∀ f m, AskIn n (fun zz => True) (kas_asc p f m)
 | 0, m => .ret trivial
 | f + 1, m => .ask (h.at _) (h.at _) fun b => by
  cases b
  ·exact ask_asc h f (m + 1)
  ·exact .ret trivial
theorem ask_desc : ∀ (f : Nat) {p : Array Nat} (h : Bd n p) (m q : Nat), AskIn n (fun r => r.1.Perm p) (kas_desc f p m q)
 | 0, p, h, m, q => .ret (Array.Perm.refl _)
 | f + 1, p, h, m, q => .ask (h.at _) (h.at _) fun b => by
  cases b
  ·exact .ask (h.at _) (h.at _) fun d => by
    cases d
    ·exact ask_desc f h (m + 1) (q + 1)
    ·exact .ret (Array.Perm.refl _)
  ·show AskIn n _ (if true = true then (if q > 0 then kas_desc f (kas_rev p (m - (q + 1)) m) (m + 1) 0 else kas_desc f p (m + 1) 0) else _)
   rw [if_pos rfl]
   split
   ·have := ask_desc f (h.rev (m - (q + 1)) m) (m + 1) 0
    exact this.imp fun r hr => hr.trans (mirror_perm _ _ _ _)
   ·exact ask_desc f h (m + 1) 0
theorem ask_place {p : Array Nat} (h : Bd n p) (k : Nat) : ∀ f l r, AskIn n (fun zz => True) (kas_place p k f l r)
 | 0, l, r => .ret trivial
 | f + 1, l, r => by
  show AskIn n _ (if l ≥ r then .ret l else .ask (p.getD k 0) (p.getD ((l + r) / 2) 0) fun c => if c = true then kas_place p k f l ((l + r) / 2) else kas_place p k f ((l + r) / 2 + 1) r)
  split
  ·exact .ret trivial
  ·refine .ask (h.at _) (h.at _) fun b => ?_
   cases b
   ·exact ask_place h k f _ _
   ·exact ask_place h k f _ _
theorem ask_bin : ∀ (f : Nat) {p : Array Nat} (h : Bd n p) (k : Nat), AskIn n (fun r => r.Perm p) (kas_bin f p k)
 | 0, p, h, k => .ret (Array.Perm.refl _)
 | f + 1, p, h, k => AskIn.bind (fun l zz => (ask_bin f (h.bub k (k - l)) (k + 1)).imp fun r hr => hr.trans (bubble_perm _ _ _)) (ask_place h k _ _ _)
theorem ask_tail3 {p : Array Nat} (h : Bd n p) (m nrem : Nat) : AskIn n (fun r => r.2.Perm p) (kas_tail3 m nrem p) := by
 refine AskIn.bind (P := fun zz => True) (fun a zz => ?_) (ask_asc (h.rev 0 m) _ _)
 exact .ret (mirror_perm p 0 m _)
theorem ask_descPart {p : Array Nat} (h : Bd n p) (m nrem : Nat) : AskIn n (fun r => r.2.Perm p) (kas_descPart m nrem p) := by
 refine AskIn.bind (fun r hr => ?_) (ask_desc _ h _ _)
 have hb := h.perm hr
 split
 ·exact (ask_tail3 (hb.rev _ _) _ _).imp fun a ha => (ha.trans (mirror_perm _ _ _ _)).trans hr
 ·exact (ask_tail3 hb _ _).imp fun a ha => ha.trans hr
theorem ask_count {p : Array Nat} (h : Bd n p) (nrem : Nat) : AskIn n (fun r => r.2.Perm p) (kas_count nrem p) := by
 refine AskIn.bind (fun m zz => ?_) (ask_asc h _ _)
 split
 ·exact .ret (Array.Perm.refl _)
 ·split
  ·refine .ask (h.at _) (h.at _) fun b => ?_
   cases b
   ·exact (ask_descPart (h.rev 0 m) m nrem).imp fun a ha => ha.trans (mirror_perm _ _ _ _)
   ·exact .ret (Array.Perm.refl _)
  ·exact ask_descPart h m nrem
theorem bd_range (hn : 0 < n) : Bd n (List.toArray (List.range n)) := ⟨hn, fun x hx => by simpa using hx⟩
theorem ask_sort (hn : 0 < n) : AskIn n (fun r => r.Perm (List.toArray (List.range n))) (kas_sort n) := by
 refine AskIn.bind (fun r hr => ?_) (ask_count (bd_range hn) n)
 split
 ·exact (ask_bin _ ((bd_range hn).perm hr) _).imp fun a ha => ha.trans hr
 ·exact .ret hr
end
section
noncomputable def Soft (o o' : Obj) : Prop := o' = o \/ (∃ es ep sl, o.data = .dict es ep /\ o' = { o with slots := sl }) \/ (∃ ps ps', o = W.tabObj ps /\ o' = W.tabObj ps' /\ (TriplesOk ps.toList -> TriplesOk ps'.toList))
theorem Soft.refl (o : Obj) : Soft o o := .inl rfl
theorem Soft.trans {o o' o'' : Obj} (a : Soft o o') (b : Soft o' o'') : Soft o o'' := by
 rcases a with rfl | ⟨es, ep, sl, hd, rfl⟩ | ⟨ps, ps', rfl, rfl, hp⟩
 ·exact b
 ·rcases b with rfl | ⟨es', ep', sl', hd', rfl⟩ | ⟨ps, ps', e, _, _⟩
  ·exact .inr (.inl ⟨es, ep, sl, hd, rfl⟩)
  ·exact .inr (.inl ⟨es, ep, sl', hd, rfl⟩)
  ·obtain ⟨c, d, dt, s0⟩ := o; cases e; cases hd
 ·rcases b with rfl | ⟨es', ep', sl', hd', rfl⟩ | ⟨qs, qs', e, rfl, hq⟩
  ·exact .inr (.inr ⟨ps, ps', rfl, rfl, hp⟩)
  ·cases hd'
  ·cases e; exact .inr (.inr ⟨ps, qs', rfl, rfl, fun h => hq (hp h)⟩)
noncomputable def Hard (o : Obj) : Prop := (∀ es ep, o.data ≠ .dict es ep) /\ o.cls ≠ .none
theorem Soft.hard {o o' : Obj} (a : Soft o o') (h : Hard o) : o' = o := by
 rcases a with e | ⟨es, ep, sl, hd, e⟩ | ⟨ps, ps', rfl, e, hp⟩
 ·exact e
 ·exact absurd hd (h.1 es ep)
 ·exact absurd rfl h.2
theorem Soft.dict {o o' : Obj} (a : Soft o o') {es : Array DictEntry} {ep : Nat} (h : o.data = .dict es ep) : o'.data = .dict es ep := by
 rcases a with rfl | ⟨es', ep', sl, hd, rfl⟩ | ⟨ps, ps', rfl, e, hp⟩
 ·exact h
 ·exact h
 ·cases h
noncomputable def nestSt : Stmt := ((fnBody (stmtAt 31)).drop 1).head?.getD (.Pass ⟨0,0,0,0⟩)
noncomputable def posOf : Stmt -> Pos | .FunctionDef _ _ _ _ _ _ _ _ _ p => p | _ => ⟨0,0,0,0⟩
noncomputable def P0 : Pos := posOf nestSt
noncomputable def Q0 : Str := N "_law_stream.<locals>._law_read"
noncomputable def Tab1 (h : Heap) : Prop := ∃ ps, h.get? 112 = some (W.tabObj ps) /\ TriplesOk ps.toList /\ ∀ cv, codeAmong P0 ps.toList = some cv -> ∃ c oc vs t, cv = .ref c /\ h.get? c = some oc /\ oc.cls = .type "code" /\ oc.data = .fields vs /\ vs[1]? = some (.str Q0 t)
noncomputable def CodeK (o : Obj) : Prop := (∃ vs, o.data = .fields vs) /\ o.cls = .type "code"
noncomputable def TabKind (o : Obj) : Prop := (∃ vs, o.data = .fields vs) /\ (o.cls = .none \/ o.cls = .type "code")
theorem Tab1.move (a : Tab1 h) (hk : ∀ b o, h.get? b = some o -> TabKind o -> h'.get? b = some o) : Tab1 h' := by
 obtain ⟨ps, hp, ht, hc⟩ := a
 refine ⟨ps, hk _ _ hp ⟨⟨_, rfl⟩, .inl rfl⟩, ht, fun cv e => ?_⟩
 obtain ⟨c, oc, vs, t, h1, h2, h3, h4, h5⟩ := hc cv e
 exact ⟨c, oc, vs, t, h1, hk _ _ h2 ⟨⟨_, h4⟩, .inr h3⟩, h3, h4, h5⟩
theorem Tab1.ext (a : Tab1 h) (e : Ext h h') : Tab1 h' := a.move fun b o x zz => e b o x
theorem Soft.codeK {o o' : Obj} (a : Soft o o') (k : CodeK o') : CodeK o := by
 rcases a with rfl | ⟨es, ep, sl, hd, rfl⟩ | ⟨ps, ps', rfl, rfl, hp⟩
 ·exact k
 ·obtain ⟨⟨vs, k⟩, _⟩ := k
  have k : o.data = .fields vs := k
  rw [hd] at k; cases k
 ·cases k.2
structure OffW (X : List Addr) (h h' : Heap) : Prop where
 tab : Tab1 h -> Tab1 h'
 at_ : ∀ b o, h.get? b = some o -> ∃ o', h'.get? b = some o' /\ (b ∉ X -> Soft o o')
theorem OffW.refl (X : List Addr) (h : Heap) : OffW X h h := ⟨id, fun b o e => ⟨o, e, fun zz => .refl o⟩⟩
theorem OffW.live (a : OffW X h h') {b : Addr} (hn : h'.get? b = none) : h.get? b = none := by
 cases e : h.get? b with
 | none => rfl
 | some o => obtain ⟨o', e', _⟩ := a.at_ b o e; rw [hn] at e'; cases e'
theorem OffW.then {Y : List Addr} {h'' : Heap} (a : OffW X h h') (b : OffW Y h' h'') (hs : ∀ y ∈ Y, y ∈ X \/ h.get? y = none) : OffW X h h'' := ⟨fun t => b.tab (a.tab t), fun x o e => by
 obtain ⟨o', e', s'⟩ := a.at_ x o e
 obtain ⟨o'', e'', s''⟩ := b.at_ x o' e'
 exact ⟨o'', e'', fun hx => (s' hx).trans (s'' fun hm => (hs x hm).elim hx fun n => by rw [n] at e; cases e)⟩⟩
theorem OffW.trans {h'' : Heap} (a : OffW X h h') (b : OffW X h' h'') : OffW X h h'' := a.then b fun zz h => .inl h
theorem OffW.mono {Y : List Addr} (a : OffW X h h') (hs : ∀ x ∈ X, x ∈ Y) : OffW Y h h' := ⟨a.tab, fun x o e => let ⟨o', e', s'⟩ := a.at_ x o e; ⟨o', e', fun hx => s' fun m => hx (hs x m)⟩⟩
theorem Ext.offW (a : Ext h h') : OffW X h h' := ⟨fun t => t.ext a, fun b o e => ⟨o, a b o e, fun zz => .refl o⟩⟩
theorem Off.offW (a : Off X h h') (hl : ∀ b ∈ X, ∀ o, h.get? b = some o -> ∃ o', h'.get? b = some o') (hx : ∀ b ∈ X, ∀ o, h.get? b = some o -> ¬ TabKind o) : OffW X h h' := ⟨fun t => t.move fun b o e k => a b o (fun hb => hx b hb o e k) e, fun b o e => by
 by_cases hb : b ∈ X
 ·obtain ⟨o', e'⟩ := hl b hb o e; exact ⟨o', e', fun h => absurd hb h⟩
 ·exact ⟨o, a b o hb e, fun zz => .refl o⟩⟩
theorem OffW.hard (a : OffW X h h') {b : Addr} {o : Obj} (hb : b ∉ X) (e : h.get? b = some o) (hh : Hard o) : h'.get? b = some o := by
 obtain ⟨o', e', s⟩ := a.at_ b o e
 rw [(s hb).hard hh] at e'; exact e'
theorem Grow.transW {X' X'' : List Addr} (a : Grow h X X') (o : OffW X h h') (b : Grow h' X' X'') : Grow h X X'' := fun y hy => by
 rcases b y hy with hy' | hn
 ·exact a y hy'
 ·exact .inr (o.live hn)
theorem hard_type {T : String} {dt : Data} {dd : Option Addr} {sl : Array (Option Value)} (h : ∀ es ep, dt ≠ .dict es ep) : Hard ⟨.type T, dd, dt, sl⟩ := ⟨h, by intro e; cases e⟩
theorem hard_list (vs : Array Value) (n : Nat) : Hard (listO vs n) := hard_type fun zz zz e => by cases e
theorem hard_tup (vs : Array Value) (n : Nat) : Hard (tupO vs n) := hard_type fun zz zz e => by cases e
theorem At.moveW {X' : List Addr} (hk : ∀ b o, b ∉ X -> Hard o -> h.get? b = some o -> b ∉ X' /\ h'.get? b = some o) (a : At X h v d) : At X' h' v d :=
 At.rec (motive_1 := fun v d zz => At X' h' v d) (motive_2 := fun vs ds zz => Ats X' h' vs ds) .none (fun b => .bool b) (fun i t => .int i t) (fun x t => .str x t) (fun b t => .bytes b t) (fun v => .raw v) (fun hx e => .range (hk _ _ hx (hard_type fun zz zz e => by cases e) e).1 (hk _ _ hx (hard_type fun zz zz e => by cases e) e).2) (fun hx e a b c => .slice (hk _ _ hx (hard_type fun zz zz e => by cases e) e).1 (hk _ _ hx (hard_type fun zz zz e => by cases e) e).2 a b c) (fun hx e zz r => .tuple (hk _ _ hx (hard_tup _ _) e).1 (hk _ _ hx (hard_tup _ _) e).2 r) (fun hx e zz r => .list (hk _ _ hx (hard_list _ _) e).1 (hk _ _ hx (hard_list _ _) e).2 r) .nil (fun zz zz a r => .cons a r) a
theorem Ats.moveW {X' : List Addr} (hk : ∀ b o, b ∉ X -> Hard o -> h.get? b = some o -> b ∉ X' /\ h'.get? b = some o) (a : Ats X h vs ds) : Ats X' h' vs ds :=
 Ats.rec (motive_1 := fun v d zz => At X' h' v d) (motive_2 := fun vs ds zz => Ats X' h' vs ds) .none (fun b => .bool b) (fun i t => .int i t) (fun x t => .str x t) (fun b t => .bytes b t) (fun v => .raw v) (fun hx e => .range (hk _ _ hx (hard_type fun zz zz e => by cases e) e).1 (hk _ _ hx (hard_type fun zz zz e => by cases e) e).2) (fun hx e a b c => .slice (hk _ _ hx (hard_type fun zz zz e => by cases e) e).1 (hk _ _ hx (hard_type fun zz zz e => by cases e) e).2 a b c) (fun hx e zz r => .tuple (hk _ _ hx (hard_tup _ _) e).1 (hk _ _ hx (hard_tup _ _) e).2 r) (fun hx e zz r => .list (hk _ _ hx (hard_list _ _) e).1 (hk _ _ hx (hard_list _ _) e).2 r) .nil (fun zz zz a r => .cons a r) a
structure Arr (A : Around) (X : List Addr) (h : Heap) : Prop where
 frames : ∃ l, A.frames = some l /\ ∀ e ∈ l, e.scope.kind ≠ .module /\ ∃ L o es ep, e.frame = some L /\ L ∈ X /\ h.get? L = some o /\ o.data = .dict es ep
 handled : A.handled = .none \/ ∃ e oe vs T, A.handled = some (.ref e) /\ h.get? e = some oe /\ oe.cls = .type T /\ oe.data = .fields vs /\ vs[2]? = some .none /\ e ∈ X
 tab : Tab1 h
 nc : A.handled = .none -> ∀ a ∈ X, ∀ o, h.get? a = some o -> ¬ CodeK o
structure Here (A : Around) (U : Env) : Prop where
 frame : U.frame = some U.locals
 frames : ∃ outer, A.frames = some (U :: outer)
noncomputable def TbOk (k : Option Bool) (h0 h : Heap) (fr : Option Addr) (Z : List Addr) (e : Addr) (vs : Array Value) : Prop :=
 (k = .none /\ vs[1]? = some .none) \/ ∃ T oT ts fl, T ∈ Z /\ vs[1]? = some (.ref T) /\ T ≠ e /\ h0.get? T = .none /\ h.get? T = some oT /\ oT.cls = .type "traceback" /\ oT.data = .fields ts /\ ts[3]? = some fl /\
  ((fl = .none /\ k ≠ some true) \/ (∃ L, fr = some L /\ fl = rawInt L) /\ k ≠ some false)
inductive ExnIs (k : Option Bool) (h0 h : Heap) (fr : Option Addr) (Z : List Addr) (x : Value) (X : String) (t : Value) (clean : Bool) : Prop
 | mk (e : Addr) (oe : Obj) (vs : Array Value) (i0 : x = .ref e) (i1 : h0.get? e = .none) (i2 : e ∈ Z) (i3 : h.get? e = some oe) (i4 : oe.cls = .type X) (i5 : oe.data = .fields vs) (i6 : vs[0]? = some t) (i7 : clean = true -> vs[2]? = some .none) (i8 : TbOk k h0 h fr Z e vs) : ExnIs k h0 h fr Z x X t clean
structure Exn (k : Option Bool) (h0 h : Heap) (fr : Option Addr) (Z : List Addr) (x : Value) (X : String) (t : Value) (clean : Bool) : Prop where
 ex : ExnIs k h0 h fr Z x X t clean
 fresh : ∀ z ∈ Z, h0.get? z = .none
theorem TbOk.back {k : Option Bool} {h0 h0' : Heap} {fr : Option Addr} {e : Addr} {vs : Array Value} (a : TbOk k h0' h fr Z e vs) (hb : ∀ b, h0'.get? b = .none -> h0.get? b = .none) : TbOk k h0 h fr Z e vs := by
 rcases a with h9 | ⟨T, oT, ts, fl, i1, i2, i3, i4, i5⟩
 ·exact .inl h9
 ·exact .inr ⟨T, oT, ts, fl, i1, i2, i3, hb _ i4, i5⟩
theorem Exn.back {k : Option Bool} {h0 h0' : Heap} {fr : Option Addr} {x : Value} {X : String} {t : Value} (a : Exn k h0' h fr Z x X t c) (hb : ∀ b, h0'.get? b = .none -> h0.get? b = .none) : Exn k h0 h fr Z x X t c := by
 obtain ⟨⟨e, oe, vs, h1, h2, h3, h4, h5, h6, h7, h8, h9⟩, hf⟩ := a
 exact ⟨⟨e, oe, vs, h1, hb _ h2, h3, h4, h5, h6, h7, h8, h9.back hb⟩, fun z hz => hb _ (hf z hz)⟩
theorem Exn.any {k : Option Bool} {h0 : Heap} {fr : Option Addr} {x : Value} {X : String} {t : Value} (a : Exn k h0 h fr Z x X t c) : Exn .none h0 h fr Z x X t c := by
 obtain ⟨⟨e, oe, vs, h1, h2, h3, h4, h5, h6, h7, h8, h9⟩, hf⟩ := a
 refine ⟨⟨e, oe, vs, h1, h2, h3, h4, h5, h6, h7, h8, ?_⟩, hf⟩
 rcases h9 with ⟨_, h9⟩ | ⟨T, oT, ts, fl, i1, i2, i3, i4, i5, i6, i7, i8, i9⟩
 ·exact .inl ⟨rfl, h9⟩
 ·exact .inr ⟨T, oT, ts, fl, i1, i2, i3, i4, i5, i6, i7, i8, i9.imp (fun q => ⟨q.1, by intro x; cases x⟩) fun q => ⟨q.1, by intro x; cases x⟩⟩
section
variable {M' : Mut}
theorem kind_own (S : St ba B U Γ M h) (ha : a ∈ own U M) {o : Obj} (e : h.get? a = some o) : (∃ es ep, o.data = .dict es ep) \/ (∃ v, o.data = .cell v) \/ (∃ vs n, o = listO vs n) := by
 rcases mem_own.1 ha with rfl | hc | hm
 ·obtain ⟨m, o', es, ep, e', d, _⟩ := S.ok.ns
  rw [e] at e'; cases e'; exact .inl ⟨es, ep, d⟩
 ·obtain ⟨p, hp, rfl⟩ := jM.1 hc
  obtain ⟨ov, o', e', d⟩ := S.ok.cell p hp
  rw [e] at e'; cases e'; exact .inr (.inl ⟨_, d⟩)
 ·obtain ⟨p, hp, rfl⟩ := jM.1 hm
  obtain ⟨vs, n, e', _⟩ := (S.muts p hp).at_
  rw [e] at e'; cases e'; exact .inr (.inr ⟨vs, n, rfl⟩)
theorem notTab_own (S : St ba B U Γ M h) (ha : a ∈ own U M) {o : Obj} (e : h.get? a = some o) : ¬ TabKind o := fun ⟨⟨vs, k⟩, zz1⟩ => by
 rcases kind_own S ha e with ⟨es, ep, d⟩ | ⟨v, d⟩ | ⟨vs, n, d⟩
 ·rw [k] at d; cases d
 ·rw [k] at d; cases d
 ·rw [d] at k; cases k
theorem notTab_list (vs : Array Value) (n : Nat) : ¬ TabKind (listO vs n) := fun ⟨⟨zz1, k⟩, zz2⟩ => by cases k
theorem Arr.mono {X' : List Addr} (a : Arr A X h) (hs : ∀ y ∈ X, y ∈ X') (hn : ∀ y ∈ X', y ∈ X) : Arr A X' h := ⟨by obtain ⟨l, hl, hf⟩ := a.frames; exact ⟨l, hl, fun e he => by obtain ⟨hk, L, o, es, ep, h1, h2, h3⟩ := hf e he; exact ⟨hk, L, o, es, ep, h1, hs _ h2, h3⟩⟩,
 a.handled.imp id fun h => by obtain ⟨e, oe, vs, T, h1, h2, h3, h4, h5, h6⟩ := h; exact ⟨e, oe, vs, T, h1, h2, h3, h4, h5, hs _ h6⟩, a.tab, fun hh y hy => a.nc hh y (hn y hy)⟩
theorem Arr.step (a : Arr A (B ++ own U M) h) (S : St ba B U Γ M h) (S' : St ba B U Γ' M' h') (o : OffW (own U M) h h') : Arr A (B ++ own U M') h' := by
 have keepF : ∀ b ob, h.get? b = some ob -> (∀ es ep, ob.data ≠ .dict es ep) -> (∀ v, ob.data ≠ .cell v) -> (∀ vs n, ob ≠ listO vs n) -> ∃ ob', h'.get? b = some ob' /\ Soft ob ob' := fun b ob e h1 h2 h3 => by
  obtain ⟨o', e', s'⟩ := o.at_ b ob e
  refine ⟨o', e', s' fun hm => ?_⟩
  rcases kind_own S hm e with ⟨es, ep, d⟩ | ⟨v, d⟩ | ⟨vs, n, d⟩
  ·exact h1 es ep d
  ·exact h2 v d
  ·exact h3 vs n d
 refine ⟨?_, ?_, ?_, ?_⟩
 ·obtain ⟨l, hl, hf⟩ := a.frames
  refine ⟨l, hl, fun e he => ?_⟩
  obtain ⟨hk, L, ob, es, ep, h1, h2, h3, h4⟩ := hf e he
  refine ⟨hk, L, ?_⟩
  obtain ⟨o', e', s'⟩ := o.at_ L ob h3
  rcases jA.1 h2 with hB | hO
  ·have hno : L ∉ own U M := S.bdis L hB
   exact ⟨o', es, ep, h1, jA.2 (.inl hB), e', (s' hno).dict h4⟩
  ·have hLl : L = U.locals := by
    rcases mem_own.1 hO with hx | hc | hm
    ·exact hx
    ·obtain ⟨p, hp, rfl⟩ := jM.1 hc
     obtain ⟨ov, o1, e1, d⟩ := S.ok.cell p hp
     rw [h3] at e1; cases e1; rw [h4] at d; cases d
    ·obtain ⟨p, hp, rfl⟩ := jM.1 hm
     obtain ⟨vs, n, e1, _⟩ := (S.muts p hp).at_
     rw [h3] at e1; cases e1; cases h4
   obtain ⟨m, o1, es1, ep1, e1, d, _⟩ := S'.ok.ns
   exact ⟨o1, es1, ep1, h1, jA.2 (.inr (hLl ▸ mem_own_locals U M')), hLl ▸ e1, d⟩
 ·rcases a.handled with hn | ⟨e, oe, vs, T, h1, h2, h3, h4, h5, h6⟩
  ·exact .inl hn
  ·obtain ⟨o', e', s'⟩ := keepF e oe h2 (fun es ep d => by rw [h4] at d; cases d) (fun v d => by rw [h4] at d; cases d) (fun vs n d => by rw [d] at h4; cases h4)
   have : o' = oe := s'.hard ⟨fun es ep d => (by rw [h4] at d; cases d), (by rw [h3]; intro x; cases x)⟩
   subst this
   refine .inr ⟨e, o', vs, T, h1, e', h3, h4, h5, ?_⟩
   rcases jA.1 h6 with hB | hO
   ·exact jA.2 (.inl hB)
   ·rcases kind_own S hO h2 with ⟨es, ep, d⟩ | ⟨v, d⟩ | ⟨vs, n, d⟩
    ·rw [h4] at d; cases d
    ·rw [h4] at d; cases d
    ·rw [d] at h4; cases h4
 ·exact o.tab a.tab
 ·intro hh y hy o' e' k
  rcases jA.1 hy with hB | hO
  ·obtain ⟨ob, eb⟩ := S.live y hB
   obtain ⟨o2, e2, s2⟩ := o.at_ y ob eb
   rw [e'] at e2; cases e2
   exact a.nc hh y (jA.2 (.inl hB)) ob eb ((s2 (S.bdis y hB)).codeK k)
  ·exact notTab_own S' hO e' ⟨k.1, .inr k.2⟩
end
end
section
theorem ns_soft {m : SV} (hn : h.Ns a m) (hs : ∀ o, h.get? a = some o -> ∃ o', h'.get? a = some o' /\ Soft o o') : h'.Ns a m := by
 obtain ⟨o, es, ep, e, d, r⟩ := hn
 obtain ⟨o', e', s⟩ := hs o e
 exact ⟨o', es, ep, e', s.dict d, r⟩
theorem soft_cell {o o' : Obj} {v : Option Value} (s : Soft o o') (d : o.data = .cell v) : o' = o := by
 rcases s with e | ⟨es, ep, sl, hd, e⟩ | ⟨ps, ps', rfl, e, hp⟩
 ·exact e
 ·rw [d] at hd; cases hd
 ·cases d
theorem soft_fields {o o' : Obj} {T : String} {vs : Array Value} (s : Soft o o') (d : o.data = .fields vs) (c : o.cls = .type T) : o' = o :=
 s.hard ⟨fun es ep x => (by rw [d] at x; cases x), (by rw [c]; intro x; cases x)⟩
section
variable {M' : Mut} {N : List Addr}
theorem St.weak (S : St ba (Z ++ B) U Γ M h) (o : OffW Z h h') (hb : Ext ba h') (hN : ∀ z ∈ N, h.get? z = .none /\ ∃ o, h'.get? z = some o) : St ba ((N ++ Z) ++ B) U Γ M h' := by
 have zout : ∀ b, b ∈ own U M -> b ∉ Z := fun b hb hz => S.bdis b (jA.2 (.inl hz)) hb
 have soft : ∀ b ob, b ∉ Z -> h.get? b = some ob -> ∃ ob', h'.get? b = some ob' /\ Soft ob ob' := fun b ob hz e => let ⟨o', e', s⟩ := o.at_ b ob e; ⟨o', e', s hz⟩
 have live : ∀ b, (∃ ob, h.get? b = some ob) -> ∃ ob, h'.get? b = some ob := fun b ⟨ob, e⟩ => let ⟨o', e', _⟩ := o.at_ b ob e; ⟨o', e'⟩
 have mv : ∀ b ob, b ∉ (Z ++ B) ++ own U M -> Hard ob -> h.get? b = some ob -> b ∉ ((N ++ Z) ++ B) ++ own U M /\ h'.get? b = some ob := fun b ob hb hh e => by
  refine ⟨fun hm => ?_, o.hard (fun hz => hb (by simp [hz])) e hh⟩
  simp only [List.append_assoc, List.mem_append] at hm hb
  rcases hm with hm | hm
  ·have := (hN b hm).1; rw [e] at this; cases this
  ·exact hb hm
 have nnew : ∀ b ∈ N, b ∉ own U M := fun b hb hm => by
  obtain ⟨ob, e⟩ := S.allLive b (jA.2 (.inr hm))
  rw [(hN b hb).1] at e; cases e
 refine ⟨hb, ⟨?_, fun p hp => ?_, S.ok.apart, S.ok.off⟩, fun x d hx => ?_, fun p hp => ?_, S.nod, S.dis, fun a ha hm => ?_, fun a ha => ?_, fun a ha => ?_⟩
 ·obtain ⟨m, hn⟩ := S.ok.ns
  exact ⟨m, ns_soft hn fun ob e => soft _ ob (zout _ (mem_own_locals U M)) e⟩
 ·obtain ⟨ov, ob, e, d⟩ := S.ok.cell p hp
  obtain ⟨o', e', s⟩ := soft p.2 ob (zout _ (mem_own.2 (.inr (.inl (jM.2 ⟨p, hp, rfl⟩))))) e
  rw [soft_cell s d] at e'
  exact ⟨ov, ob, e', d⟩
 ·obtain ⟨v, hv, av⟩ := S.var x d hx
  refine ⟨v, ?_, av.moveW mv⟩
  rcases hv with ⟨k, m, hn, hm⟩ | ⟨k, c, hc, ob, e, d⟩
  ·exact .inl ⟨k, m, ns_soft hn fun ob e => soft _ ob (zout _ (mem_own_locals U M)) e, hm⟩
  ·obtain ⟨o', e', s⟩ := soft c ob (zout _ (mem_own_cell hc)) e
   rw [soft_cell s d] at e'
   exact .inr ⟨k, c, hc, ob, e', d⟩
 ·obtain ⟨vs, n, g, r⟩ := (S.muts p hp).at_
  exact ⟨vs, n, o.hard (zout _ (mem_own_mut hp)) g (hard_list _ _), r.moveW mv⟩
 ·simp only [List.append_assoc, List.mem_append] at ha
  rcases ha with ha | ha
  ·exact nnew a ha hm
  ·exact S.bdis a (jA.2 ha) hm
 ·simp only [List.append_assoc, List.mem_append] at ha
  rcases ha with ha | ha
  ·exact (hN a ha).2
  ·exact live a (S.live a (jA.2 ha))
 ·simp only [List.append_assoc, List.mem_append] at ha
  rcases ha with ha | ha
  ·exact none_of_ext S.keep (hN a ha).1
  ·exact S.out a (by simpa [List.append_assoc] using ha)
end
section
variable {MM : Model}
theorem entry_low {outer : List Env} {L e : Addr} {oe : Obj} {vs : Array Value} {head : Value} {hadNext : Bool} {Q : Unit -> Shared -> Prop}
  (hfr : A.frames = some (U :: outer)) (hl : s.heap.FunFrames {} (U :: outer)) (hf : U.frame = some L) (he : s.heap.get? e = some oe) (hd : oe.data = .fields vs) (hsz : 1 < vs.size)
  (h : ∀ h' T oT ts, (∀ b o, b ∉ (U :: outer).filterMap (·.frame) -> b ≠ e -> s.heap.get? b = some o -> h'.get? b = some o) -> (∀ b o, b ≠ e -> s.heap.get? b = some o -> ∃ sl, h'.get? b = some { o with slots := sl }) ->
   h'.get? e = some (oe.mapFields (·.setIfInBounds 1 (.ref T))) -> s.heap.get? T = none -> h'.get? T = some oT -> oT.cls = .type "traceback" -> oT.data = .fields ts -> ts[3]? = some (rawInt L) -> Q () { s with heap := h' }) :
  wpAny MM A (do let a <- frameOf U; let pl <- entryPlaceOf L hadNext; let b <- EntryCells.newEntry head a .none (rawInt L) .none pl; setField (.ref e) 1 b) Q E s := by
 have hene : e ∉ (U :: outer).filterMap (·.frame) := fun hm => by
  obtain ⟨_, o, ho, hnf⟩ := hl.mem hm
  rw [he] at ho; injection ho with ho; subst ho; exact hnf vs hd
 refine jB (wpAny_frameOf_fun hfr hl hf fun h_1 hs1 => ?_)
 refine jB (wpAny_entryPlaceOf fun pl hpl => ?_)
 unfold EntryCells.newEntry newFields
 refine jB (wpAny_newObj_type ?_ (hpl.sizeOk5 _ _ _ _ _))
 have he_1 : h_1.get? e = some oe := (hs1.2.1 e hene).trans he
 have he_2 := Heap.get?_push_of_some (h := h_1) { cls := .type "traceback", dict := none, data := .fields ([head, .ref L, .none, rawInt L, .none] ++ (if pl.isEmpty then List.replicate 6 Value.none else pl)).toArray } he_1
 refine wpAny_setField he_2 hd hsz ?_
 have hTe : h_1.objs.size ≠ e := Nat.ne_of_gt (Heap.lt_size he_1)
 have hd_3 := Obj.data_mapFields hd (·.setIfInBounds 1 (Value.ref h_1.objs.size))
 have he_3 := Heap.get?_update_self (Obj.mapFields (·.setIfInBounds 1 (Value.ref h_1.objs.size))) he_2 (Obj.isFreed_of_fields hd_3)
 have hT_3 := (Heap.get?_update_other (h_1.push { cls := .type "traceback", dict := none, data := .fields ([head, .ref L, .none, rawInt L, .none] ++ (if pl.isEmpty then List.replicate 6 Value.none else pl)).toArray })
  (Obj.mapFields (·.setIfInBounds 1 (Value.ref h_1.objs.size))) (Ne.symm hTe)).trans (Heap.get?_push_size h_1 rfl)
 have keep : ∀ b o, b ≠ e -> h_1.get? b = some o ->
   ((h_1.push { cls := .type "traceback", dict := none, data := .fields ([head, .ref L, .none, rawInt L, .none] ++ (if pl.isEmpty then List.replicate 6 Value.none else pl)).toArray }).update e (Obj.mapFields (·.setIfInBounds 1 (Value.ref h_1.objs.size)))).get? b = some o :=
  fun b o hbe hb => by
   rw [Heap.get?_update_other _ _ (Ne.symm hbe)]
   exact Heap.get?_push_of_some _ hb
 refine h _ h_1.objs.size _ _ (fun b o hb hbe hbo => keep b o hbe ((hs1.2.1 b hb).trans hbo)) (fun b o hbe hbo => ?_) he_3 (none_of_le (by rw [hs1.1]; exact Nat.le_refl _)) hT_3 rfl rfl
  (by first | (simp; done) | (rcases hpl with rfl | ⟨_, _, _, _, _, _, _, rfl⟩ <;> simp))
 obtain ⟨sl, e2⟩ := hs1.2.2 b o hbo
 exact ⟨sl, keep b _ hbe e2⟩
end
section
variable {MM : Model} {h0 : Heap} {x : Value} {X : String} {t : Value} {k : Option Bool}
theorem funFrames_of {X : List Addr} : ∀ {l : List Env}, (∀ e ∈ l, e.scope.kind ≠ .module /\ ∃ L o es ep, e.frame = some L /\ L ∈ X /\ h.get? L = some o /\ o.data = .dict es ep) -> h.FunFrames {} l
 | [], _ => trivial
 | e :: l, hf => by
  obtain ⟨hk, L, o, es, ep, h1, h2, h3, h4⟩ := hf e jC
  exact ⟨hk, ⟨L, o, h1, none_of_le (by simp), h3, fun vs q => by rw [h4] at q; cases q⟩, funFrames_of fun e he => hf e (jT _ he)⟩
theorem note_exn (H : Here A U) (a : Arr A (B ++ own U M) s.heap) (S : St ba (Z ++ B) U Γ M s.heap) (hx : Exn k h0 s.heap U.frame Z x X t c) (lv0 : ∀ b, s.heap.get? b = .none -> h0.get? b = .none) {Q : Unit -> Shared -> Prop}
  (hQ : ∀ h' Z', Exn (some true) h0 h' U.frame Z' x X t c -> St ba (Z' ++ B) U Γ M h' -> OffW Z s.heap h' -> (∀ z ∈ Z, z ∈ Z') -> (∀ z ∈ Z', z ∈ Z \/ s.heap.get? z = .none) -> Q () { s with heap := h' }) : wpAny MM A (noteFrame x U) Q E s := by
 obtain ⟨⟨e, oe, vs, rfl, he0, heZ, he, hc, hd, h0t, hcl, htb⟩, hfr⟩ := hx
 obtain ⟨outer, hou⟩ := H.frames
 have hl : s.heap.FunFrames {} (U :: outer) := by
  obtain ⟨l, e1, hf⟩ := a.frames
  rw [hou] at e1; cases e1
  exact funFrames_of hf
 have frB : ∀ L ∈ (U :: outer).filterMap (·.frame), L ∈ B ++ own U M /\ ∃ o es ep, s.heap.get? L = some o /\ o.data = .dict es ep := fun L hL => by
  obtain ⟨l, e1, hf⟩ := a.frames
  rw [hou] at e1; cases e1
  obtain ⟨en, hen, hLe⟩ := List.mem_filterMap.1 hL
  obtain ⟨_, L', o, es, ep, i1, i2, i3, i4⟩ := hf en hen
  rw [hLe] at i1; cases i1
  exact ⟨i2, o, es, ep, i3, i4⟩
 have frOut : ∀ L ∈ (U :: outer).filterMap (·.frame), ba.get? L = none := fun L hL => S.out L (by
  rcases jA.1 (frB L hL).1 with hb | hb
  ·simp [hb]
  ·exact jA.2 (.inr hb))
 have eOut : ba.get? e = none := S.out e (by simp [heZ])
 have hf : U.frame = some U.locals := H.frame
 have szOf : ∀ {i : Nat} {y : Value}, vs[i]? = some y -> i < vs.size := fun q => (Array.getElem?_eq_some_iff.1 q).1
 have main : ∀ (s' : Shared) (head : Value) (hadNext : Bool), (∃ hh, s' = { s with heap := hh }) -> s'.heap.get? e = some oe -> 1 < vs.size -> OffW Z s.heap s'.heap -> Off Z s.heap s'.heap -> (∀ b, s'.heap.get? b = .none -> s.heap.get? b = .none) -> s'.heap.FunFrames {} (U :: outer) -> (∀ L ∈ (U :: outer).filterMap (·.frame), ∃ o es ep, s'.heap.get? L = some o /\ o.data = .dict es ep) ->
   wpAny MM A (do let a <- frameOf U; let pl <- entryPlaceOf U.locals hadNext; let b <- EntryCells.newEntry head a .none (rawInt U.locals) .none pl; setField (.ref e) 1 b) Q E s' := by
  rintro s' head hadNext ⟨hh, rfl⟩ he' hsz ow oo lv hl' hdict
  refine entry_low hou hl' hf he' hd hsz fun h' T oT ts k1 k2 k3 k4 k5 k6 k7 k8 => ?_
  have hTe : T ≠ e := fun q => by rw [q, he'] at k4; cases k4
  have kT : s.heap.get? T = none := lv T k4
  have soft : ∀ b o, b ∉ Z -> hh.get? b = some o -> ∃ o', h'.get? b = some o' /\ Soft o o' := fun b o hb eo => by
   by_cases hm : b ∈ (U :: outer).filterMap (·.frame)
   ·obtain ⟨o1, es, ep, e1, d1⟩ := hdict b hm
    have e1' : hh.get? b = some o1 := e1
    rw [eo] at e1'; cases e1'
    obtain ⟨sl, e2⟩ := k2 b o (fun q => hb (q ▸ heZ)) eo
    exact ⟨_, e2, .inr (.inl ⟨es, ep, sl, d1, rfl⟩)⟩
   ·exact ⟨o, k1 b o hm (fun q => hb (q ▸ heZ)) eo, .refl o⟩
  have tabW : Tab1 hh -> Tab1 h' := fun ⟨ps, hp, ht, hcod⟩ => by
   have keepT : ∀ b o, hh.get? b = some o -> b ≠ e -> (∃ ws, o.data = .fields ws) -> h'.get? b = some o := fun b o eo hbe ⟨ws, hw⟩ => k1 b o (fun hm => by
    obtain ⟨o1, es, ep, e1, d1⟩ := hdict b hm
    have e1' : hh.get? b = some o1 := e1
    rw [eo] at e1'; cases e1'; rw [hw] at d1; cases d1) hbe eo
   refine ⟨ps, keepT 112 _ hp (fun q => ?_) ⟨_, rfl⟩, ht, fun cv ec => ?_⟩
   ·have he' : hh.get? e = some oe := he'
    rw [<- q, hp] at he'; cases he'; cases hc
   ·obtain ⟨c, oc, ws, t, h1, h2, h3, h4, h5⟩ := hcod cv ec
    refine ⟨c, oc, ws, t, h1, keepT c oc h2 (fun q => ?_) ⟨_, h4⟩, h3, h4, h5⟩
    have he' : hh.get? e = some oe := he'
    rw [<- q, h2] at he'; cases he'; rw [hd] at h4; cases h4
    rcases htb with ⟨_, h9⟩ | ⟨T', _, _, _, _, h9, _⟩ <;> (rw [h9] at h5; cases h5)
  have ow' : OffW Z hh h' := ⟨tabW, fun b o eo => by
   by_cases hb : b ∈ Z
   ·by_cases hbe : b = e
    ·exact ⟨_, hbe ▸ k3, fun q => absurd hb q⟩
    ·obtain ⟨sl, e2⟩ := k2 b o hbe eo
     exact ⟨_, e2, fun q => absurd hb q⟩
   ·obtain ⟨o', e', s'⟩ := soft b o hb eo
    exact ⟨o', e', fun zz => s'⟩⟩
  have owAll : OffW Z s.heap h' := ow.trans ow'
  have ext : Ext ba h' := fun b o eo => by
   have hz : b ∉ Z := fun hz => by have := S.out b (by simp [hz]); rw [eo] at this; cases this
   exact k1 b o (fun hm => by rw [frOut b hm] at eo; cases eo) (fun q => by rw [q, eOut] at eo; cases eo) (oo b o hz (S.keep b o eo))
  have hd3 : (oe.mapFields (·.setIfInBounds 1 (.ref T))).data = .fields (vs.setIfInBounds 1 (.ref T)) := Obj.data_mapFields hd _
  have h0T : h0.get? T = none := lv0 T kT
  refine hQ h' (T :: Z) ⟨⟨e, _, _, rfl, he0, jT _ heZ, k3, (Obj.cls_mapFields _ _).trans hc, hd3, ?_, fun q => ?_, .inr ⟨T, oT, ts, _, jC, ?_, hTe, h0T, k5, k6, k7, k8, .inr ⟨⟨_, hf, rfl⟩, by intro q; cases q⟩⟩⟩, fun z hz => ?_⟩ ?_ owAll (fun z hz => jT _ hz) fun z hz => ?_
  ·rw [Array.getElem?_setIfInBounds_ne (by decide)]; exact h0t
  ·rw [Array.getElem?_setIfInBounds_ne (by decide)]; exact hcl q
  ·simp [hsz]
  ·rcases jK.1 hz with rfl | hz
   ·exact h0T
   ·exact hfr z hz
  ·exact S.weak (N := [T]) owAll ext fun z hz => by rw [jS.1 hz]; exact ⟨kT, _, k5⟩
  ·rcases jK.1 hz with rfl | hz
   ·exact .inr kT
   ·exact .inl hz
 unfold noteFrame
 simp only [hf]
 rcases htb with ⟨_, h1⟩ | ⟨T, oT, ts, fl, hTZ, h1, hTe, hT0, hT, hTc, hTd, h3, hfl⟩
 ·refine jB (wpAny_field he hd h1 ?_)
  rw [if_neg (by decide)]
  exact main s _ _ ⟨_, rfl⟩ he (szOf h1) (OffW.refl _ _) (Off.refl _ _) (fun zz q => q) hl (fun L hL => (frB L hL).2)
 ·refine jB (wpAny_field he hd h1 ?_)
  rw [if_pos (show (Value.ref T != Value.none) = true from by simp)]
  refine jB (wpAny_field hT hTd h3 ?_)
  rcases hfl with ⟨rfl, _⟩ | ⟨⟨L, hL, rfl⟩, _⟩
  ·rw [if_neg (show ¬ ((Value.none == rawInt U.locals) = true) from by simp [rawInt])]
   have hT' := Heap.get?_update_self (Obj.mapFields (·.setIfInBounds 3 Value.none)) hT (Obj.isFreed_of_fields (Obj.data_mapFields hTd (·.setIfInBounds 3 Value.none)))
   have other : ∀ b, b ≠ T -> (s.heap.update T (Obj.mapFields (·.setIfInBounds 3 Value.none))).get? b = s.heap.get? b := fun b hb => Heap.get?_update_other _ _ (Ne.symm hb)
   refine jB (wpAny_setField hT hTd (Array.getElem?_eq_some_iff.1 h3).1 ?_)
   have notT : ∀ L ∈ (U :: outer).filterMap (·.frame), L ≠ T := fun L hL q => by
    obtain ⟨o, es, ep, e1, d1⟩ := (frB L hL).2
    rw [q, hT] at e1; cases e1; rw [hTd] at d1; cases d1
   refine main _ _ _ ⟨_, rfl⟩ ((other e (Ne.symm hTe)).trans he) (szOf h1) ⟨fun tb => tb.move fun b o eo kd => (other b fun q => ?_).trans eo, fun b o eo => ?_⟩ (fun b o hb eo => (other b (fun q => hb (q ▸ hTZ))).trans eo) (fun b eo => ?_) (hl.of_keeps fun b o eo hnf => ⟨o, (other b (fun q => ?_)).trans eo, rfl⟩) fun L hL => ?_
   ·rw [q, hT] at eo; cases eo
    rcases kd.2 with hk | hk <;> (rw [hTc] at hk; first | cases hk | (injection hk with hk; exact absurd hk (by decide)))
   ·by_cases hb : b = T
    ·exact ⟨_, (by rw [hb]; exact hT'), fun q => absurd (hb ▸ hTZ) q⟩
    ·exact ⟨o, (other b hb).trans eo, fun zz => .refl o⟩
   ·by_cases hb : b = T
    ·have eo' : (s.heap.update T (Obj.mapFields (·.setIfInBounds 3 Value.none))).get? b = none := eo
     rw [hb, hT'] at eo'; cases eo'
    ·exact (other b hb).symm.trans eo
   ·rw [q, hT] at eo; cases eo; exact hnf _ hTd
   ·obtain ⟨o, es, ep, e1, d1⟩ := (frB L hL).2
    exact ⟨o, es, ep, (other L (notT L hL)).trans e1, d1⟩
  ·rw [hf] at hL; cases hL
   rw [if_pos (show (rawInt U.locals == rawInt U.locals) = true from by simp)]
   refine jP (hQ s.heap Z ⟨⟨e, oe, vs, rfl, he0, heZ, he, hc, hd, h0t, hcl, .inr ⟨T, oT, ts, _, hTZ, h1, hTe, hT0, hT, hTc, hTd, h3, .inr ⟨⟨_, hf, rfl⟩, by intro q; cases q⟩⟩⟩, hfr⟩ S (OffW.refl _ _) (fun zz q => q) fun zz q => .inl q)
theorem flight_exn (S : St ba (Z ++ B) U Γ M s.heap) (hx : Exn k h0 s.heap U.frame Z x X t c) (hk : k ≠ .none) (fl : Option Addr) {Q : Unit -> Shared -> Prop} (hfl : fl = .none \/ fl = U.frame)
  (hQ : ∀ h', Exn (some fl.isSome) h0 h' U.frame Z x X t c -> St ba (Z ++ B) U Γ M h' -> OffW Z s.heap h' -> Q () { s with heap := h' }) : wpAny MM A (setFlight x fl) Q E s := by
 obtain ⟨⟨e, oe, vs, rfl, he0, heZ, he, hc, hd, h0t, hcl, htb⟩, hfr⟩ := hx
 rcases htb with ⟨q, _⟩ | ⟨T, oT, ts, f0, hTZ, h1, hTe, hT0, hT, hTc, hTd, h3, _⟩
 ·exact absurd q hk
 have hT' := Heap.get?_update_self (Obj.mapFields (·.setIfInBounds 3 (fl.elim Value.none fun f => rawInt f))) hT (Obj.isFreed_of_fields (Obj.data_mapFields hTd (·.setIfInBounds 3 (fl.elim Value.none fun f => rawInt f))))
 have other : ∀ b, b ≠ T -> (s.heap.update T (Obj.mapFields (·.setIfInBounds 3 (fl.elim Value.none fun f => rawInt f)))).get? b = s.heap.get? b := fun b hb => Heap.get?_update_other _ _ (Ne.symm hb)
 have hsz := (Array.getElem?_eq_some_iff.1 h3).1
 unfold setFlight
 refine jB (wpAny_field he hd h1 ?_)
 rw [if_pos (show (Value.ref T != Value.none) = true from by simp)]
 have ow : OffW Z s.heap (s.heap.update T (Obj.mapFields (·.setIfInBounds 3 (fl.elim Value.none fun f => rawInt f)))) := ⟨fun tb => tb.move fun b o eo kd => (other b fun q => by
  rw [q, hT] at eo; cases eo
  rcases kd.2 with hk | hk <;> (rw [hTc] at hk; first | cases hk | (injection hk with hk; exact absurd hk (by decide)))).trans eo, fun b o eo => by
  by_cases hb : b = T
  ·exact ⟨_, (by rw [hb]; exact hT'), fun q => absurd (hb ▸ hTZ) q⟩
  ·exact ⟨o, (other b hb).trans eo, fun zz => .refl o⟩⟩
 refine wpAny_setField hT hTd hsz (hQ _ ⟨⟨e, oe, vs, rfl, he0, heZ, (other e (Ne.symm hTe)).trans he, hc, hd, h0t, hcl, .inr ⟨T, _, _, _, hTZ, h1, hTe, hT0, hT', (Obj.cls_mapFields _ _).trans hTc, Obj.data_mapFields hTd _, by simp [hsz]; rfl, ?_⟩⟩, hfr⟩ ?_ ow)
 ·cases fl with
  | none => exact .inl ⟨rfl, by intro q; cases q⟩
  | some L =>
   rcases hfl with q | q
   ·cases q
   ·exact .inr ⟨⟨L, q.symm, rfl⟩, by intro q; cases q⟩
 ·have := S.weak (N := []) ow (fun b o eo => (other b (fun q => by have := S.out b (by simp [q, hTZ]); rw [eo] at this; cases this)).trans (S.keep b o eo)) (fun z hz => nomatch hz)
  simpa using this
end
end
section
noncomputable def ThenW (ba : Heap) (B : List Addr) (U : Env) (M : Mut) (s : Shared) (R : Out -> Gam -> Mut -> Prop) (Q : Flow -> Shared -> Prop) : Prop :=
 ∀ f o h' tk Γ' M', FlowAt (B ++ own U M') h' f o -> St ba B U Γ' M' h' -> OffW (own U M) s.heap h' -> Grow s.heap (own U M) (own U M') -> R o Γ' M' -> Q f { s with heap := h', toks := tk }
noncomputable def ThenE (ba : Heap) (B : List Addr) (U : Env) (M : Mut) (s : Shared) (clean : Bool) (RE : String -> D -> Gam -> Mut -> Prop) (E : VP) : Prop :=
 ∀ x X t d Z h' tk Γ' M', Exn .none s.heap h' U.frame Z x X t clean -> At (Z ++ B ++ own U M') h' t d -> St ba (Z ++ B) U Γ' M' h' -> OffW (own U M) s.heap h' -> Grow s.heap (own U M) (own U M') -> RE X d Γ' M' -> E x { s with heap := h', toks := tk }
noncomputable def Ef (pg : Program) (w : World) (ba : Heap) (q c : Bool) (k : Nat) (sc : Scope) (Γ : Gam) (M : Mut) (ss : List Stmt) (R : Out -> Gam -> Mut -> Prop) (RE : String -> D -> Gam -> Mut -> Prop) : Prop :=
 ∀ (U : Env) (s : Shared) (B : List Addr) (A : Around) (Q : Flow -> Shared -> Prop) (E : VP), EnvG sc U -> St ba B U Γ M s.heap -> Room q k A -> Arr A (B ++ own U M) s.heap -> Here A U ->
  ThenW ba B U M s R Q -> ThenE ba B U M s c RE E -> wpAny (model pg w) A (execs ss U) Q E s
noncomputable def Ef1 (pg : Program) (w : World) (ba : Heap) (q c : Bool) (k : Nat) (sc : Scope) (Γ : Gam) (M : Mut) (st : Stmt) (R : Out -> Gam -> Mut -> Prop) (RE : String -> D -> Gam -> Mut -> Prop) : Prop :=
 ∀ (U : Env) (s : Shared) (B : List Addr) (A : Around) (Q : Flow -> Shared -> Prop) (E : VP), EnvG sc U -> St ba B U Γ M s.heap -> Room q k A -> Arr A (B ++ own U M) s.heap -> Here A U ->
  ThenW ba B U M s R Q -> ThenE ba B U M s c RE E -> wpAny (model pg w) A (exec st U) Q E s
noncomputable def EvX (pg : Program) (w : World) (ba : Heap) (q c : Bool) (k : Nat) (sc : Scope) (Γ : Gam) (M : Mut) (e : Expr) (R : D -> Mut -> Prop) (RE : String -> D -> Mut -> Prop) : Prop :=
 ∀ (U : Env) (s : Shared) (B : List Addr) (A : Around) (Q : VP) (E : VP), EnvG sc U -> St ba B U Γ M s.heap -> Room q k A -> Arr A (B ++ own U M) s.heap ->
  (∀ v d h' tk M', M'.map (·.1) = M.map (·.1) -> At (B ++ own U M') h' v d -> St ba B U Γ M' h' -> OffW (M.map (·.1)) s.heap h' -> R d M' -> Q v { s with heap := h', toks := tk }) ->
  ThenE ba B U M s c (fun X d Γ' M' => Γ' = Γ /\ M'.map (·.1) = M.map (·.1) /\ RE X d M') E -> wpAny (model pg w) A (eval e U) Q E s
noncomputable def TrX (pg : Program) (w : World) (ba : Heap) (q c : Bool) (k : Nat) (sc : Scope) (Γ : Gam) (M : Mut) (e : Expr) (R : Bool -> Mut -> Prop) (RE : String -> D -> Mut -> Prop) : Prop :=
 ∀ (U : Env) (s : Shared) (B : List Addr) (A : Around) (Q : Bool -> Shared -> Prop) (E : VP), EnvG sc U -> St ba B U Γ M s.heap -> Room q k A -> Arr A (B ++ own U M) s.heap ->
  (∀ b h' tk M', M'.map (·.1) = M.map (·.1) -> St ba B U Γ M' h' -> OffW (M.map (·.1)) s.heap h' -> R b M' -> Q b { s with heap := h', toks := tk }) ->
  ThenE ba B U M s c (fun X d Γ' M' => Γ' = Γ /\ M'.map (·.1) = M.map (·.1) /\ RE X d M') E -> wpAny (model pg w) A (isTrue e U (eval e U)) Q E s
theorem own_congr {M' : Mut} (h : M'.map (·.1) = M.map (·.1)) : own U M' = own U M := by simp only [own, h]
theorem muts_own : ∀ a ∈ M.map (·.1), a ∈ own U M := fun a h => mem_own.2 (.inr (.inr h))
theorem offW_own (o : OffW (M.map (·.1)) h h') : OffW (own U M) h h' := o.mono muts_own
section
theorem ThenW.step {Q : Flow -> Shared -> Prop} {M' : Mut} {tk : Nat} (T : ThenW ba B U M s R Q) (o : OffW (own U M) s.heap h') (g : Grow s.heap (own U M) (own U M')) :
  ThenW ba B U M' ({ s with heap := h', toks := tk } : Shared) R Q := fun f out h'' tk' Γ'' M'' hf S' o' g' r =>
 T f out h'' tk' Γ'' M'' hf S' (o.then o' g) (g.transW o g') r
theorem ThenE.step {M' : Mut} {tk : Nat} (T : ThenE ba B U M s c RE E) (o : OffW (own U M) s.heap h') (g : Grow s.heap (own U M) (own U M')) :
  ThenE ba B U M' ({ s with heap := h', toks := tk } : Shared) c RE E := fun x X t d Z h'' tk' Γ'' M'' hx ha S' o' g' r =>
 T x X t d Z h'' tk' Γ'' M'' (hx.back fun b => o.live) ha S' (o.then o' g) (g.transW o g') r
theorem ThenE.imp {RE' : String -> D -> Gam -> Mut -> Prop} (T : ThenE ba B U M s c RE E) (h : ∀ X d Γ' M', RE' X d Γ' M' -> RE X d Γ' M') : ThenE ba B U M s c RE' E :=
 fun x X t d Z h'' tk' Γ'' M'' hx ha S' o' g' r => T x X t d Z h'' tk' Γ'' M'' hx ha S' o' g' (h _ _ _ _ r)
theorem ThenE.never : ThenE ba B U M s c (fun zz zz zz zz => False) E := fun zz zz zz zz zz zz zz zz zz zz zz zz zz zz r => r.elim
theorem Ef1.lift {st : Stmt} {R0 : Out -> Gam -> Mut -> Prop} (h : Ex1 pg w ba q k sc Γ M st R0) (hr : ∀ o Γ' M', R0 o Γ' M' -> R o Γ' M' /\ ∀ a ∈ M.map (·.1), a ∈ M'.map (·.1)) : Ef1 pg w ba q c k sc Γ M st R RE := by
 intro U s B A Q E G S Rm Ar H T TE
 refine h U s B A Q E G S Rm fun f o h' tk Γ' M' hf S' off gr r => ?_
 obtain ⟨r1, r2⟩ := hr o Γ' M' r
 refine T f o h' tk Γ' M' hf S' (off.offW (fun b hb ob e => ?_) fun b hb ob e => notTab_own S hb e) gr r1
 refine S'.allLive b (jA.2 (.inr (mem_own.2 ?_)))
 exact (mem_own.1 hb).imp id (Or.imp id (r2 b))
theorem Ef.nil (h : R .next Γ M) : Ef pg w ba q c k sc Γ M [] R RE := by
 intro U s B A Q E G S Rm Ar H T TE
 exact wpAny_execs_nil (T .next .next s.heap s.toks Γ M trivial S (OffW.refl _ _) (Grow.refl _ _) h)
theorem Ef.cons {st : Stmt} {R1 : Out -> Gam -> Mut -> Prop} {RE1 : String -> D -> Gam -> Mut -> Prop} (h : Ef1 pg w ba q c k sc Γ M st R1 RE1)
  (r : ∀ o Γ' M', R1 o Γ' M' -> match o with | .next => Ef pg w ba q c k sc Γ' M' ss R RE | o => R o Γ' M') (re : ∀ X d Γ' M', RE1 X d Γ' M' -> RE X d Γ' M') : Ef pg w ba q c k sc Γ M (st :: ss) R RE := by
 intro U s B A Q E G S Rm Ar H T TE
 refine wpAny_execs_cons (h U s B A _ E G S Rm Ar H (fun f o h' tk Γ' M' hf S' off gr hr => ?_) (TE.imp re))
 have hr' := r o Γ' M' hr
 cases f <;> cases o <;> first | exact hf.elim | skip
 ·exact hr' U _ B A Q E G S' Rm (Ar.step S S' off) H (T.step off gr) (TE.step off gr)
 ·exact T .brk .brk h' tk Γ' M' trivial S' off gr hr'
 ·exact T .cont .cont h' tk Γ' M' trivial S' off gr hr'
 ·exact T (.ret _) (.ret _) h' tk Γ' M' hf S' off gr hr'
theorem Ef.seq {st : Stmt} {P : Gam -> Mut -> Prop} (h : Ef1 pg w ba q c k sc Γ M st (fun o Γ' M' => o = .next /\ P Γ' M') RE) (r : ∀ Γ' M', P Γ' M' -> Ef pg w ba q c k sc Γ' M' ss R RE) : Ef pg w ba q c k sc Γ M (st :: ss) R RE :=
 Ef.cons h (fun o Γ' M' ⟨e, hp⟩ => by subst e; exact r Γ' M' hp) fun zz zz zz zz h => h
theorem Ef.mono {R' : Out -> Gam -> Mut -> Prop} {RE' : String -> D -> Gam -> Mut -> Prop} (h : Ef pg w ba q c k sc Γ M ss R RE) (hr : ∀ o Γ' M', R o Γ' M' -> R' o Γ' M') (hre : ∀ X d Γ' M', RE X d Γ' M' -> RE' X d Γ' M') : Ef pg w ba q c k sc Γ M ss R' RE' :=
 fun U s B A Q E G S Rm Ar H T TE => h U s B A Q E G S Rm Ar H (fun f o h' tk Γ' M' hf S' off gr r => T f o h' tk Γ' M' hf S' off gr (hr _ _ _ r)) (TE.imp hre)
theorem Ef.sub {Γ0 : Gam} (h : Ef pg w ba q c k sc Γ0 M ss R RE) (hs : Sub Γ0 Γ) : Ef pg w ba q c k sc Γ M ss R RE :=
 fun U s B A Q E G S Rm Ar H T TE => h U s B A Q E G (S.sub hs) Rm Ar H T TE
theorem Ef.perm {M' : Mut} (h : Ef pg w ba q c k sc Γ M' ss R RE) (p : M'.Perm M) : Ef pg w ba q c k sc Γ M ss R RE := by
 have ow : ∀ (U : Env) (a : Addr), a ∈ own U M' ↔ a ∈ own U M := fun U => own_perm p
 intro U s B A Q E G S Rm Ar H T TE
 refine h U s B A Q E G (S.perm p) Rm (Ar.mono (fun y hy => ?_) fun y hy => jA.2 ((jA.1 hy).imp id (ow U y).1)) H (fun f o h' tk Γ' M'' hf S' off gr r => T f o h' tk Γ' M'' hf S' (off.mono fun y hy => (ow U y).1 hy) (fun y hy => (gr y hy).imp (ow U y).1 id) r)
  fun x X t d Z h'' tk' Γ'' M'' hx ha S' o' g' r => TE x X t d Z h'' tk' Γ'' M'' hx ha S' (o'.mono fun y hy => (ow U y).1 hy) (fun y hy => (g' y hy).imp (ow U y).1 id) r
 exact jA.2 ((jA.1 hy).imp id (ow U y).2)
theorem Ef1.mono {st : Stmt} {R' : Out -> Gam -> Mut -> Prop} {RE' : String -> D -> Gam -> Mut -> Prop} (h : Ef1 pg w ba q c k sc Γ M st R RE) (hr : ∀ o Γ' M', R o Γ' M' -> R' o Γ' M') (hre : ∀ X d Γ' M', RE X d Γ' M' -> RE' X d Γ' M') : Ef1 pg w ba q c k sc Γ M st R' RE' :=
 fun U s B A Q E G S Rm Ar H T TE => h U s B A Q E G S Rm Ar H (fun f o h' tk Γ' M' hf S' off gr r => T f o h' tk Γ' M' hf S' off gr (hr _ _ _ r)) (TE.imp hre)
variable {RX : D -> Mut -> Prop} {RXE : String -> D -> Mut -> Prop}
theorem Ev.y (h : Ev pg w ba q k sc Γ e d) (hr : RX d M) : EvX pg w ba q c k sc Γ M e RX RXE := by
 intro U s B A Q E G S Rm Ar hQ TE
 exact (h U s B M G S).bind Rm fun v h' tk e a => hQ v d h' tk M rfl a (S.ext e) e.offW hr
theorem Tr.y {b : Bool} {RT : Bool -> Mut -> Prop} (h : Tr pg w ba q k sc Γ e b) (hr : RT b M) : TrX pg w ba q c k sc Γ M e RT RXE := by
 intro U s B A Q E G S Rm Ar hQ TE
 exact h U s B M A Q E G S Rm fun h' tk e => hQ b h' tk M rfl (S.ext e) e.offW hr
theorem Ef1.assign (h : EvX pg w ba q c k sc Γ M value RX RXE) (hx : storable sc x = true) (hr : ∀ d M', RX d M' -> R .next ((x, d) :: Γ) M') (hre : ∀ X d M', RXE X d M' -> RE X d Γ M')
  (hs : autoParam (∀ U, swapsWith value (some (.Name x px)) pos.line U = pure false) tA) : Ef1 pg w ba q c k sc Γ M (.Assign [.Name x px] value pos) R RE := by
 intro U s B A Q E G S Rm Ar H T TE
 refine wpAny_Assign_Name (h U s B A _ E G S Rm Ar (fun v d h' tk M' hm a S' o r => ?_) (TE.imp fun X d Γ' M' ⟨e1, e2, e3⟩ => by subst e1; exact hre X d M' e3)) (hs U)
 have ho : own U M' = own U M := own_congr hm
 refine S'.store G hx a fun h'' tk' S'' off zz => ?_
 refine T .next .next h'' tk' _ M' trivial S'' ((offW_own o).trans ?_) (by rw [ho]; exact Grow.refl _ _) (hr d M' r)
 rw [<- ho]
 exact off.offW (fun b hb ob e => S''.allLive b (jA.2 (.inr hb))) fun b hb ob e => notTab_own S' hb e
theorem Ef1.ret (h : EvX pg w ba q c k sc Γ M e RX RXE) (hr : ∀ d M', RX d M' -> R (.ret d) Γ M') (hre : ∀ X d M', RXE X d M' -> RE X d Γ M') : Ef1 pg w ba q c k sc Γ M (.Return (some e) pos) R RE := by
 intro U s B A Q E G S Rm Ar H T TE
 refine wpAny_Return_some (h U s B A _ E G S Rm Ar (fun v d h' tk M' hm a S' o r => ?_) (TE.imp fun X d Γ' M' ⟨e1, e2, e3⟩ => by subst e1; exact hre X d M' e3))
 exact T (.ret v) (.ret d) h' tk Γ M' a S' (offW_own o) (by rw [own_congr hm]; exact Grow.refl _ _) (hr d M' r)
theorem Ef1.ife {t : Expr} {a b : List Stmt} {RT : Bool -> Mut -> Prop} (ht : TrX pg w ba q c k sc Γ M t RT RXE) (ha : ∀ M', RT true M' -> Ef pg w ba q c k sc Γ M' a R RE) (hb : ∀ M', RT false M' -> Ef pg w ba q c k sc Γ M' b R RE)
  (hre : ∀ X d M', RXE X d M' -> RE X d Γ M') : Ef1 pg w ba q c k sc Γ M (.If t a b pos) R RE := by
 intro U s B A Q E G S Rm Ar H T TE
 refine wpAny_If (ht U s B A _ E G S Rm Ar (fun p h' tk M' hm S' o r => ?_) (TE.imp fun X d Γ' M' ⟨e1, e2, e3⟩ => by subst e1; exact hre X d M' e3))
 have ho : own U M' = own U M := own_congr hm
 have gr : Grow s.heap (own U M) (own U M') := by rw [ho]; exact Grow.refl _ _
 have Ar' := Ar.step S S' (offW_own o)
 cases p with
 | true => exact ha M' r U _ B A Q E G S' Rm Ar' H (T.step (offW_own o) gr) (TE.step (offW_own o) gr)
 | false => exact hb M' r U _ B A Q E G S' Rm Ar' H (T.step (offW_own o) gr) (TE.step (offW_own o) gr)
theorem Ef1.expr (h : EvX pg w ba q c k sc Γ M e RX RXE) (hr : ∀ d M', RX d M' -> R .next Γ M') (hre : ∀ X d M', RXE X d M' -> RE X d Γ M')
  (hs : autoParam (∀ U, swapsWith e none pos.line U = pure false) tA) : Ef1 pg w ba q c k sc Γ M (.Expr e pos) R RE := by
 intro U s B A Q E G S Rm Ar H T TE
 refine wpAny_Expr_any (h U s B A _ E G S Rm Ar (fun v d h' tk M' hm a S' o r => ?_) (TE.imp fun X d Γ' M' ⟨e1, e2, e3⟩ => by subst e1; exact hre X d M' e3)) (interactive_false G) (hs U)
 exact T .next .next h' tk Γ M' trivial S' (offW_own o) (by rw [own_congr hm]; exact Grow.refl _ _) (hr d M' r)
theorem TrX.not {RT : Bool -> Mut -> Prop} (h : TrX pg w ba q c k sc Γ M e RT RXE) : TrX pg w ba q c k sc Γ M (.UnaryOp .Not e pos) (fun b M' => RT (!b) M') RXE := by
 intro U s B A Q E G S Rm Ar hQ TE
 show wpAny _ _ (do return !(<- isTrue e U (eval e U))) _ _ _
 refine jB (h U s B A _ E G S Rm Ar (fun b h' tk M' hm S' o r => jP (hQ (!b) h' tk M' hm S' o (by simpa using r))) TE)
theorem EvX.truth {RT : Bool -> Mut -> Prop} (h : EvX pg w ba q c k sc Γ M e (fun d M' => ∃ b, d = .bool b /\ RT b M') RXE) (he : autoParam (∀ U whole, isTrue e U whole = (do let v <- whole; standAt e.pos; holding [v] (truthy v))) tA) : TrX pg w ba q c k sc Γ M e RT RXE := by
 intro U s B A Q E G S Rm Ar hQ TE
 rw [he]
 refine jB (h U s B A _ E G S Rm Ar (fun v d h' tk M' hm a S' o r => ?_) TE)
 obtain ⟨b, rfl, r⟩ := r
 obtain rfl := a.bool_
 exact jB (wpAny_standAt (wpAny_holding (wpAny_truthy_bool (hQ b h' tk M' hm S' o r))))
theorem TrX.cmpL {l r : Expr} {op : CmpOp} {d_2 : D} {RT : Bool -> Mut -> Prop} (h_1 : EvX pg w ba q c k sc Γ M l RX RXE) (h_2 : Ev pg w ba q k sc Γ r d_2) (h : ∀ d_1 M', RX d_1 M' -> ∃ b, Fun2 pg w ba q k (compareOp op) d_1 d_2 (.bool b) /\ RT b M') (hm : behindInMarks op r = false) :
  TrX pg w ba q c k sc Γ M (.Compare l [op] [r] pos) RT RXE := by
 intro U s B A Q E G S Rm Ar hQ TE
 refine wpAny_isTrue_Compare1 (h_1 U s B A _ E G S Rm Ar (fun v_1 d_1 h_1 t_1 M' hm' a_1 S' o r => ?_) TE) hm
 obtain ⟨b, hf, hr⟩ := h d_1 M' r
 refine (h_2 U _ B M' G S').bind Rm fun v_2 g_2 t_2 e_2 a_2 => ?_
 refine (hf _ _ _ _ (S'.ext e_2).toOk (a_1.ext e_2) a_2).bindB Rm fun g t e => ?_
 exact wpAny_truthy_bool (hQ b g t M' hm' ((S'.ext e_2).ext e) (o.trans (e_2.trans e).offW) hr)
end
end
section
section
theorem St.dropZ (S : St ba (Z ++ B) U Γ M h) : St ba B U Γ M h := by
 have sX : ∀ a ∈ B ++ own U M, a ∈ (Z ++ B) ++ own U M := fun a ha => by rw [List.append_assoc]; exact jA.2 (.inr ha)
 exact ⟨S.keep, S.ok, fun x d hx => let ⟨v, a, b⟩ := S.var x d hx; ⟨v, a, b.sub sX⟩, fun p hp => let ⟨vs, n, g, r⟩ := (S.muts p hp).at_; ⟨vs, n, g, r.sub sX⟩, S.nod, S.dis,
  fun a ha => S.bdis a (jA.2 (.inr ha)), fun a ha => S.live a (jA.2 (.inr ha)), fun a ha => S.out a (sX a ha)⟩
end
section
theorem exn_fields {k : Option Bool} {h0 : Heap} {fr : Option Addr} {x : Value} {X : String} {t : Value} (hx : Exn k h0 h fr Z x X t c) (hk : k ≠ .none) : ∃ e oe vs T, x = .ref e /\ h.get? e = some oe /\ oe.data = .fields vs /\ vs[1]? = some (.ref T) := by
 obtain ⟨⟨e, oe, vs, rfl, he0, heZ, he, hc, hd, h0t, hcl, htb⟩, _⟩ := hx
 rcases htb with ⟨q, _⟩ | ⟨T, oT, ts, f0, hTZ, h1, _⟩
 ·exact absurd q hk
 ·exact ⟨e, oe, vs, T, rfl, he, hd, h1⟩
theorem At.note {Z' : List Addr} {t : Value} (a : At (Z ++ B ++ own U M) h t d) (o : OffW Z h h') (hz : ∀ z ∈ Z', z ∈ Z \/ h.get? z = .none) : At (Z' ++ B ++ own U M) h' t d := by
 refine a.moveW fun b ob hb hh e => ⟨fun hm => ?_, o.hard (fun hm => hb (by simp [hm])) e hh⟩
 simp only [List.append_assoc, List.mem_append] at hm hb
 rcases hm with hm | hm
 ·rcases hz b hm with hm | hn
  ·exact hb (.inl hm)
  ·rw [hn] at e; cases e
 ·exact hb (.inr hm)
theorem ThenE.noted {A' : Around} (T : ThenE ba B U M s c RE E) (S : St ba B U Γ M s.heap) (Ar : Arr A (B ++ own U M) s.heap) (H : Here A U) :
  ThenE ba B U M s c RE (notedBy (model pg w) A U (cameBackBy (model pg w) A' U E)) := by
 intro x X t d Z h' tk Γ' M' hx ha S' o g r
 have Ar' : Arr A (B ++ own U M') h' := Ar.step S S'.dropZ o
 refine note_exn H Ar' S' hx (fun b hb => o.live hb) fun h1 Z1 hx1 S1 o1 z1 z2 => ?_
 obtain ⟨e, oe, vs, Tb, rfl, he, hd, h1'⟩ := exn_fields hx1 (by intro q; cases q)
 refine jB (wpAny_field he hd h1' ?_)
 rw [if_neg (by simp)]
 refine flight_exn S1 hx1 (by intro q; cases q) U.frame (.inr rfl) fun h2 hx2 S2 o2 => ?_
 have fz : ∀ z ∈ Z1, s.heap.get? z = .none := hx1.fresh
 have oAll : OffW (own U M) s.heap h2 := (o.then o1 fun y hy => .inr (hx.fresh y hy)).then o2 fun y hy => .inr (fz y hy)
 refine T (.ref e) X t d Z1 h2 tk Γ' M' hx2.any (At.note (ha.note o1 z2) o2 fun z hz => .inl hz) S2 oAll g r
theorem Ef1.while {test : Expr} {RXE : String -> D -> Gam -> Mut -> Prop} (I : Nat -> Gam -> Mut -> Prop)
  (turn : ∀ n Γ M, I n Γ M -> ∃ (T : Bool -> Mut -> Prop), TrX pg w ba q c k sc Γ M test T (fun X d M' => RE X d Γ M') /\
   (∀ M', T true M' -> Ef pg w ba q c k sc Γ M' body (fun o Γ' M'' => match o with | .next | .cont => ∃ m, m < n /\ I m Γ' M'' | .brk => R .next Γ' M'' | .ret d => R (.ret d) Γ' M'') RE) /\ (∀ M', T false M' -> R .next Γ M'))
  (n : Nat) (h0 : I n Γ M) : Ef1 pg w ba q c k sc Γ M (.While test body [] pos) R RE := by
 intro U s B A Q E G S Rm Ar H T TE
 refine wpAny_While (codeAny_whileLoop (fun n s' => ∃ h' tk Γ' M', s' = { s with heap := h', toks := tk } /\ St ba B U Γ' M' h' /\ OffW (own U M) s.heap h' /\ Grow s.heap (own U M) (own U M') /\ I n Γ' M') ?_ n ⟨s.heap, s.toks, Γ, M, rfl, S, OffW.refl _ _, Grow.refl _ _, h0⟩)
 intro n s' hI
 refine bc fun hn => ?_
 obtain ⟨h', tk, Γ', M', rfl, S', o, g, hI⟩ := hI
 refine hn ?_
 obtain ⟨T', htest, htrue, hfalse⟩ := turn n Γ' M' hI
 have Ar' := Ar.step S S' o
 have TE' : ThenE ba B U M' ({ s with heap := h', toks := tk } : Shared) c RE E := TE.step o g
 refine htest U _ B A _ _ G S' Rm Ar' (fun b h1 tk1 M1 hm S1 o1 r => ?_) ((ThenE.noted TE' S' Ar' H).imp fun X d Γ'' M'' ⟨e1, e2, e3⟩ => by subst e1; exact e3)
 have ho : own U M1 = own U M' := own_congr hm
 have o1' : OffW (own U M) s.heap h1 := o.then (offW_own o1) g
 have g1 : Grow s.heap (own U M) (own U M1) := by rw [ho]; exact g
 cases b with
 | false =>
  simp only [Bool.false_eq_true, if_false]
  exact wpAny_execs_nil (T .next .next h1 tk1 Γ' M1 trivial S1 o1' g1 (hfalse M1 r))
 | true =>
  simp only [if_true]
  have Ar1 := Ar.step S S1 o1'
  refine htrue M1 r U _ B A _ _ G S1 Rm Ar1 H (fun f out h2 tk2 Γ2 M2 hf S2 o2 g2 hr => ?_) (ThenE.noted (TE.step o1' g1) S1 Ar1 H)
  have o2' : OffW (own U M) s.heap h2 := o1'.then o2 g1
  have g2' : Grow s.heap (own U M) (own U M2) := g1.transW o1' g2
  have on : (∃ m, m < n /\ I m Γ2 M2) -> ∃ m, m < n /\ ∃ h' tk Γ' M', ({ s with heap := h2, toks := tk2 } : Shared) = { s with heap := h', toks := tk } /\ St ba B U Γ' M' h' /\ OffW (own U M) s.heap h' /\ Grow s.heap (own U M) (own U M') /\ I m Γ' M' :=
   fun ⟨m, hm, hI⟩ => ⟨m, hm, h2, tk2, Γ2, M2, rfl, S2, o2', g2', hI⟩
  cases f <;> cases out <;> first | exact hf.elim | skip
  ·exact on hr
  ·exact T .next .next h2 tk2 Γ2 M2 trivial S2 o2' g2' hr
  ·exact on hr
  ·exact T (.ret _) (.ret _) h2 tk2 Γ2 M2 hf S2 o2' g2' hr
structure ExcCls (T : String) : Prop where
 exc : isSubtype (.type T) (.type "BaseException") = pure true
 nt : isSubtype (.type ((Manifest.find? T).elim "type" fun x => x.metatype)) (.type "tuple") = pure false
 self : isSubtype (.type T) (.type T) = pure true
theorem excCls_IndexError : ExcCls "IndexError" := ⟨PySem.F.isExc_IndexError, PySem.F.notTuple_IndexError, by rw [isSubtype_type]; kernel_rfl⟩
theorem excCls_ValueError : ExcCls "ValueError" := ⟨PySem.F.isExc_ValueError, PySem.F.notTuple_ValueError, by rw [isSubtype_type]; kernel_rfl⟩
theorem Here.mark {v : Option Value} (H : Here A U) : Here (A.mark v) U := ⟨H.frame, H.frames⟩
theorem Room.mark {v : Option Value} (R : Room q k A) : Room false k (A.mark v) := ⟨(fun h => by cases h), R.depth, R.units⟩
theorem Arr.upMark {e : Addr} {oe : Obj} {vs : Array Value} {T : String} (a : Arr A (B ++ own U M) h) (he : h.get? e = some oe) (hc : oe.cls = .type T) (hd : oe.data = .fields vs) (h2 : vs[2]? = some .none) (hX : e ∈ (Z ++ B) ++ own U M) : Arr (A.mark (some (.ref e))) ((Z ++ B) ++ own U M) h :=
 ⟨by obtain ⟨l, hl, hf⟩ := a.frames; exact ⟨l, hl, fun e he => by obtain ⟨hk, L, o, es, ep, h1, h2, h3⟩ := hf e he; exact ⟨hk, L, o, es, ep, h1, by rw [List.append_assoc]; exact jA.2 (.inr h2), h3⟩⟩, .inr ⟨e, oe, vs, T, rfl, he, hc, hd, h2, hX⟩, a.tab, fun h => by cases h⟩
theorem Ef1.tryExcept {T : String} {c_1 : Bool} (C : ExcCls T) {suite : List Stmt} {b_0 : Stmt} {t : Expr} {hpos : Pos} {R1 : Out -> Gam -> Mut -> Prop} {RE1 : String -> D -> Gam -> Mut -> Prop} (hb : Ef pg w ba q c_1 k sc Γ M body R1 RE1)
  (hn : ∀ o Γ' M', R1 o Γ' M' -> R o Γ' M') (ht : ∀ Γ', Ev pg w ba false k sc Γ' t (.raw (.type T)))
  (he : ∀ X d Γ' M', RE1 X d Γ' M' -> X = T /\ Ex pg w ba false k sc Γ' M' (b_0 :: suite) (fun o Γ'' M'' => R o Γ'' M'' /\ ∀ a ∈ M'.map (·.1), a ∈ M''.map (·.1))) : Ef1 pg w ba q c k sc Γ M (.Try body [.ExceptHandler (some t) none (b_0 :: suite) hpos] [] [] pos) R RE := by
 intro U s B A Q E G S Rm Ar H TT TE
 refine wpAny_Try_except (hb U s B A _ _ G S Rm Ar H (fun f o h' tk Γ' M' hf S' off gr r => ?_) fun x X tv d Z h' tk Γ' M' hx ha S' o g r => ?_)
 ·have := TT f o h' tk Γ' M' hf S' off gr (hn _ _ _ r)
  cases f <;> first | exact this | exact wpAny_execs_nil this
 obtain ⟨rfl, hs⟩ := he X d Γ' M' r
 have Ar' : Arr A (B ++ own U M') h' := Ar.step S S'.dropZ o
 refine note_exn H Ar' S' hx (fun b hb => o.live hb) fun h1 Z1 hx1 S1 o1 z1 z2 => ?_
 refine flight_exn S1 hx1 (by intro q; cases q) .none (.inl rfl) fun h2 hx2 S2 o2 => ?_
 have o12 : OffW (own U M) s.heap h2 := (o.then o1 fun y hy => .inr (hx.fresh y hy)).then o2 fun y hy => .inr (hx1.fresh y hy)
 obtain ⟨⟨e, oe, vs, rfl, he0, heZ, heg, hc, hd, h0t, hcl, htb⟩, hfr⟩ := id hx2
 refine wpAny_handleBy_builtin (X := X) (T := X) (b := true) C.exc C.nt C.self ?_
 refine (ht Γ' U ({ s with heap := h2, toks := tk } : Shared) (Z1 ++ B) M' G S2).bind Rm.mark fun v h3 tk3 e3 a3 => ?_
 obtain rfl := a3.raw_
 refine ⟨rfl, ⟨oe, e3 _ _ heg, hc⟩, ?_⟩
 rw [if_pos rfl]
 have hx3 : Exn (some false) s.heap h3 U.frame Z1 (.ref e) X tv c_1 := by
  refine ⟨⟨e, oe, vs, rfl, he0, heZ, e3 _ _ heg, hc, hd, h0t, hcl, ?_⟩, hfr⟩
  rcases htb with ⟨q, _⟩ | ⟨T, oT, ts, f0, hTZ, i1, i2, i3, i4, i5⟩
  ·cases q
  ·exact .inr ⟨T, oT, ts, f0, hTZ, i1, i2, i3, e3 _ _ i4, i5⟩
 refine flight_exn (S2.ext e3) hx3 (by intro q; cases q) .none (.inl rfl) fun h4 hx4 S4 o4 => ?_
 have o14 : OffW (own U M) s.heap h4 := (o12.trans e3.offW).then o4 fun y hy => .inr (hfr y hy)
 refine hs U _ (Z1 ++ B) (A.mark (some (.ref e))) _ _ G S4 Rm.mark fun f out h5 tk5 Γ5 M5 hf S5 o5 g5 r5 => ?_
 have o5' : OffW (own U M') h4 h5 := o5.offW (fun b hb ob e => S5.allLive b (jA.2 (.inr (mem_own.2 ((mem_own.1 hb).imp id (Or.imp id (r5.2 b)))))))  fun b hb ob e => notTab_own S4 hb e
 refine TT f out h5 tk5 Γ5 M5 ?_ S5.dropZ (o14.then o5' g) (g.transW o14 g5) r5.1
 cases f <;> cases out <;> first | exact hf | exact At.sub hf fun y hy => by rw [List.append_assoc]; exact jA.2 (.inr hy)
end
end
section
theorem entry_unchain : entryFor table "proto.unchain" = some Builtin.«proto.unchain» := entryFor_of_tree (by kernel_rfl)
structure Fresh (h h' : Heap) (cls : String) (e : Addr) (args : List Value) (clean : Bool) : Prop where
 keep : Ext h h'
 new : h.get? e = .none
 there : ∃ t c, h'.get? e = some { cls := .type cls, dict := .none, data := .fields #[.ref t, .none, c, .none, .bool false, .none] } /\ (clean = true -> c = .none) /\ h.get? t = .none /\ h'.get? t = some (tupO args.toArray 0) /\ t ≠ e
section
theorem raise_new {cls : String} (hp : PlainExc cls) (Ar : Arr A X s.heap) {args : List Value} (hq : q = true -> A.handled = .none) {Q : α -> Shared -> Prop}
  (h : ∀ h' e, Fresh s.heap h' cls e args q -> E (.ref e) { s with heap := h' }) (hsz : args.length <= sizeLine) : wpAny (model pg w) A (newExc (.type cls) args >>= fun e => (raiseNew e : Sem α)) Q E s := by
 unfold newExc newTuple
 refine jB (jB (wpAny_newObj_type ?_ (by show args.toArray.size <= sizeLine; rw [List.size_toArray]; exact hsz)))
 refine jB (m := firstArgMember _ _) (wpAny_of_eq (a := Value.none) (by simp only [firstArgMember, hp.first]; rfl) ?_)
 rw [hp.own]
 refine wpAny_newObj_type ?_
 have hsz0 : ∀ (h : Heap) (o : Obj), (h.push o).objs.size = h.objs.size + 1 := fun h o => Heap.size_push ..
 have kp : Ext s.heap ((s.heap.push { cls := .type "tuple", dict := .none, data := .seq args.toArray }).push { cls := .type cls, dict := .none, data := .fields (#[Value.ref s.heap.objs.size, .none, .none, .none, .bool false, Value.none] ++ #[]) }) := (Ext.push _ _).trans (Ext.push _ _)
 have he := Heap.get?_push_size (s.heap.push { cls := .type "tuple", dict := .none, data := .seq args.toArray }) (o := { cls := .type cls, dict := .none, data := .fields (#[Value.ref s.heap.objs.size, .none, .none, .none, .bool false, Value.none] ++ #[]) }) rfl
 have ht := Ext.push (s.heap.push { cls := .type "tuple", dict := .none, data := .seq args.toArray }) { cls := .type cls, dict := .none, data := .fields (#[Value.ref s.heap.objs.size, .none, .none, .none, .bool false, Value.none] ++ #[]) } _ _ (Heap.get?_push_size s.heap (o := { cls := .type "tuple", dict := .none, data := .seq args.toArray }) rfl)
 have hen : s.heap.get? (s.heap.push { cls := .type "tuple", dict := .none, data := .seq args.toArray }).objs.size = none := none_of_le (by rw [hsz0]; lia)
 have hte : s.heap.objs.size ≠ (s.heap.push { cls := .type "tuple", dict := .none, data := .seq args.toArray }).objs.size := by rw [hsz0]; exact Nat.ne_of_lt (Nat.lt_succ_self _)
 unfold raiseNew
 refine jB (wpAny_handled ?_)
 rcases Ar.handled with hn | ⟨eh, oh, vh, T, hA, hg, hc, hd, h2, hX⟩
 ·rw [hn]
  first
   | refine wpAny_throw ?_
   | refine jB (jP (wpAny_throw ?_))
  exact h _ _ ⟨kp, hen, _, _, he, fun zz => rfl, fresh_none _, ht, hte⟩
 ·rw [hA]
  have hne : ¬ ((Value.ref eh != Value.ref (s.heap.push { cls := .type "tuple", dict := .none, data := .seq args.toArray }).objs.size) = false) := by
   simp only [bne_eq_false_iff_eq]
   intro x
   have : eh = (s.heap.push { cls := .type "tuple", dict := .none, data := .seq args.toArray }).objs.size := by injection x
   rw [<- this, hg] at hen; cases hen
  have hne' : (Value.ref eh != Value.ref (s.heap.push { cls := .type "tuple", dict := .none, data := .seq args.toArray }).objs.size) = true := by
   cases q : (Value.ref eh != Value.ref (s.heap.push { cls := .type "tuple", dict := .none, data := .seq args.toArray }).objs.size) with
   | true => rfl
   | false => exact absurd q hne
  dsimp only
  rw [if_pos hne']
  refine jB (wpAny_holding (wpAny_runValue (codeAny_builtin entry_unchain ?_)))
  unfold Builtin.«proto.unchain»
  dsimp only
  refine jB (wpAny_field (kp _ _ hg) hd h2 ?_)
  rw [if_pos (by rfl)]
  refine jP ?_
  have he' := Heap.get?_update_self (Obj.mapFields (·.setIfInBounds 2 (Value.ref eh))) he (Obj.isFreed_of_fields (Obj.data_mapFields rfl (·.setIfInBounds 2 (Value.ref eh))))
  have other : ∀ b, b ≠ (s.heap.push { cls := .type "tuple", dict := .none, data := .seq args.toArray }).objs.size -> (((s.heap.push { cls := .type "tuple", dict := .none, data := .seq args.toArray }).push { cls := .type cls, dict := .none, data := .fields (#[Value.ref s.heap.objs.size, .none, .none, .none, .bool false, Value.none] ++ #[]) }).update (s.heap.push { cls := .type "tuple", dict := .none, data := .seq args.toArray }).objs.size (Obj.mapFields (·.setIfInBounds 2 (Value.ref eh)))).get? b = ((s.heap.push { cls := .type "tuple", dict := .none, data := .seq args.toArray }).push { cls := .type cls, dict := .none, data := .fields (#[Value.ref s.heap.objs.size, .none, .none, .none, .bool false, Value.none] ++ #[]) }).get? b := fun b hb => Heap.get?_update_other _ _ (Ne.symm hb)
  have fin : wpAny (model pg w) A (setField (.ref (s.heap.push { cls := .type "tuple", dict := .none, data := .seq args.toArray }).objs.size) 2 (.ref eh)) (fun zz s' => wpAny (model pg w) A (throw (.ref (s.heap.push { cls := .type "tuple", dict := .none, data := .seq args.toArray }).objs.size) : Sem α) Q E s') E ({ s with heap := ((s.heap.push { cls := .type "tuple", dict := .none, data := .seq args.toArray }).push { cls := .type cls, dict := .none, data := .fields (#[Value.ref s.heap.objs.size, .none, .none, .none, .bool false, Value.none] ++ #[]) }) } : Shared) := by
   refine wpAny_setField he rfl (by simp) (wpAny_throw (h _ _ ⟨fun b o hb => (other b fun q => ?_).trans (kp b o hb), hen, s.heap.objs.size, .ref eh, he', fun hc => ?_, fresh_none _, (other _ hte).trans ht, hte⟩))
   ·rw [q, hen] at hb; cases hb
   ·have := hq hc; rw [hA] at this; cases this
  exact jB fin
end
end
section
section
theorem Arr.in1 (a : Arr A X h) : Arr A.in1 X h := ⟨a.frames, a.handled, a.tab, a.nc⟩
theorem raise_words {cls msg : String} (hp : PlainExc cls) (Ar : Arr A X s.heap) (hq : q = true -> A.handled = .none) {Q : α -> Shared -> Prop}
  (h : ∀ h' tk e t, Fresh s.heap h' cls e [.str (Str.ofString msg) t] q -> E (.ref e) { s with heap := h', toks := tk }) : wpAny (model pg w) A (raiseErrorWords cls msg : Sem α) Q E s := by
 unfold raiseErrorWords
 refine jB (wpAny_mkText ?_)
 exact raise_new (s := { s with toks := s.toks + 1 }) hp Ar hq (fun h' e F => h h' (s.toks + 1) e _ F) (by simp [sizeLine_eq])
theorem ThenE.fire {tk : Nat} {cls : String} {e : Addr} {args : List Value} (hqc : c = true -> q = true) (TE : ThenE ba B U M s c RE E) (S : St ba B U Γ M s.heap) (F : Fresh s.heap h' cls e args q) (ha : Ats (B ++ own U M) s.heap args ds) (r : RE cls (.tuple ds) Γ M) : E (.ref e) { s with heap := h', toks := tk } := by
 obtain ⟨t, cx, he, hc, htn, ht, hte⟩ := F.there
 have tX : t ∉ [e] ++ B ++ own U M := fun hm => by
  simp only [List.append_assoc, List.mem_append, List.mem_singleton] at hm
  rcases hm with hm | hm
  ·exact hte hm
  ·obtain ⟨o, x⟩ := S.allLive t (jA.2 hm); rw [htn] at x; cases x
 have S' : St ba ([e] ++ B) U Γ M h' := S.addB F.keep F.new ⟨_, he⟩
 refine TE (.ref e) cls (.ref t) (.tuple ds) [e] h' tk Γ M ⟨⟨e, _, _, rfl, F.new, jS.2 rfl, he, rfl, rfl, rfl, fun q => ?_, .inl ⟨rfl, rfl⟩⟩, fun z hz => by rw [jS.1 hz]; exact F.new⟩ (.tuple tX ht ?_) S' F.keep.offW (Grow.refl _ _) r
 ·show (#[Value.ref t, Value.none, cx, Value.none, Value.bool false, Value.none])[2]? = some Value.none
  rw [hc (hqc q)]; rfl
 ·refine Ats.ext (Ats.more (by simpa using ha) fun y hy => ?_) F.keep
  simp only [List.append_assoc, List.mem_append, List.mem_singleton] at hy ⊢
  rcases hy with rfl | hy
  ·exact .inr F.new
  ·exact .inl hy
theorem getItem_out {l : Addr} {items : Array Value} {i : Int} {t : Tok} {Q : VP} (Ar : Arr A X s.heap) (hq : q = true -> A.handled = .none) (hl : s.heap.IsList l items) (hout : (items.size : Int) <= i) (hhi : i < 2 ^ 63)
  (hE : ∀ h' tk e t, Fresh s.heap h' "IndexError" e [.str (Str.ofString "list index out of range") t] q -> E (.ref e) { s with heap := h', toks := tk }) : wpAny (model pg w) A (getItem (.ref l) (.int i t)) Q E s := by
 obtain ⟨o, ho, hc, ne, hd⟩ := id hl
 unfold getItem
 try with_reducible refine wpAny_holding ?_
 first | refine jB (jP ?_) | skip
 refine jB (wpAny_sequenceKey hl.typeIs (by decide) ?_)
 refine jB (wpAny_callSpecial?_slot (name := Str.ofString "__getitem__") hl.typeIs slot_list_getitem
  (wpAny_call_entry slot_list_getitem hl.typeIs entry_list_getitem ?_ (args_list_getitem _ _)))
 show wpAny _ _ (Builtin.List.listSubscript? (.int i t) >>= _) _ _ s
 refine jB (wpAny_listSubscript_int (fitsIndex_both (by lia) hhi) ?_)
 clear hhi
 cases i with
 | ofNat j =>
  have hx : items[j]? = none := Array.getElem?_eq_none (by have : (items.size : Int) <= (j : Int) := hout; lia)
  show wpAny _ _ ((seqItemAt l j >>= fun r => pure (r.map (j, ·))) >>= _) _ _ s
  refine jB (jB (wpAny_seqItemAt ho hd (jP ?_)))
  rw [hx]
  exact jB (wpAny_rule (jB (raise_words plainExc_IndexError Ar.in1 hq hE)))
 | negSucc j => exact absurd hout (by have := Int.negSucc_lt_zero j; lia)
theorem EvX.item (hqc : c = true -> q = true) {slice : Expr} {RX : D -> Mut -> Prop} {RXE : String -> D -> Mut -> Prop} (h_1 : Ev pg w ba q k sc Γ value (.list ds)) (h_2 : Ev pg w ba q k sc Γ slice (.int i)) (hsz : ds.length <= 100000) (hi : i <= 100000)
  (hr : ∀ d, ds[i]? = some d -> RX d M) (hre : ds.length <= i -> ∀ d, RXE "IndexError" d M)
  (hs : autoParam (∀ o i, (∃ vs, subscripted slice false o i = operate vs (getItem o i))) tA) : EvX pg w ba q c k sc Γ M (.Subscript value slice pos) RX RXE := by
 intro U s B A Q E G S Rm Ar hQ TE
 rw [eval_Subscript]
 refine jB ((h_1 U s B M G S).bind Rm fun o g_1 t_1 e_1 a_1 => jB (wpAny_holding ((h_2 U _ B M G (S.ext e_1)).bind Rm fun iv g_2 t_2 e_2 a_2 => jB (wpAny_standAt ?_))))
 have S2 := (S.ext e_1).ext e_2
 have e12 := e_1.trans e_2
 obtain ⟨l, vs, n, rfl, hX, el, as⟩ := (a_1.ext e_2).list_
 obtain ⟨u, rfl⟩ := a_2.int_
 have hz := size_of_ats as
 have hT : ({ s with heap := g_2, toks := t_2 } : Shared).TypeIs (.ref l) "list" := ⟨_, el, rfl⟩
 refine jB ?_
 rw [getitemInPython_of_ne hT.not_modules]
 refine jB (wpAny_specialOf hT slot_list_getitem.lookup ?_)
 refine jP (jB ?_)
 obtain ⟨ws, he⟩ := hs (.ref l) (.int i u)
 rw [he]
 refine wpAny_operating ?_
 by_cases hlt : i < ds.length
 ·obtain ⟨d, hd⟩ : ∃ d, ds[i]? = some d := ⟨ds[i], List.getElem?_eq_getElem hlt⟩
  obtain ⟨v, hv, av⟩ := as.get hd
  refine wpAny_getItem_list (isList_of el) (by lia) (by lia) (x := v) (by simpa using hv) ?_
  exact jB (wpAny_letTemporaryGo (jP (hQ v d g_2 t_2 M rfl av S2 e12.offW (hr d hd))))
 ·have Ar2 : Arr A (B ++ own U M) g_2 := Ar.step S S2 e12.offW
  refine getItem_out (q := q) Ar2 (fun hq => Rm.hd hq) (isList_of el) (by rw [hz]; lia) (by lia) fun h' tk e t F => ?_
  exact ThenE.fire hqc (s := ({ s with heap := g_2, toks := t_2 } : Shared)) (TE.step (tk := t_2) e12.offW (Grow.refl _ _)) S2 F (.cons (.str _ t) .nil) ⟨rfl, rfl, hre (by lia) _⟩
end
end
section
theorem TbOk.offW {k : Option Bool} {h0 : Heap} {fr : Option Addr} {Y : List Addr} {e : Addr} {vs : Array Value} (a : TbOk k h0 h fr Z e vs) (o : OffW Y h h') (hz : ∀ z ∈ Z, z ∉ Y) : TbOk k h0 h' fr Z e vs := by
 rcases a with h9 | ⟨T, oT, ts, fl, i1, i2, i3, i4, i5, i6, i7, i8⟩
 ·exact .inl h9
 ·obtain ⟨o', e', s'⟩ := o.at_ T oT i5
  rw [soft_fields (s' (hz T i1)) i7 i6] at e'
  exact .inr ⟨T, oT, ts, fl, i1, i2, i3, i4, e', i6, i7, i8⟩
theorem Exn.offW {k : Option Bool} {h0 : Heap} {fr : Option Addr} {Y : List Addr} {x : Value} {X : String} {t : Value} (a : Exn k h0 h fr Z x X t c) (o : OffW Y h h') (hz : ∀ z ∈ Z, z ∉ Y) : Exn k h0 h' fr Z x X t c := by
 obtain ⟨⟨e, oe, vs, h1, h2, h3, h4, h5, h6, h7, h8, h9⟩, hf⟩ := a
 obtain ⟨o', e', s'⟩ := o.at_ e oe h4
 rw [soft_fields (s' (hz e h3)) h6 h5] at e'
 exact ⟨⟨e, oe, vs, h1, h2, h3, e', h5, h6, h7, h8, h9.offW o hz⟩, hf⟩
theorem Exn.rest {h0 : Heap} {fr fr' : Option Addr} {x : Value} {X : String} {t : Value} (a : Exn (some false) h0 h fr Z x X t c) : Exn (some false) h0 h fr' Z x X t c := by
 obtain ⟨⟨e, oe, vs, h1, h2, h3, h4, h5, h6, h7, h8, h9⟩, hf⟩ := a
 refine ⟨⟨e, oe, vs, h1, h2, h3, h4, h5, h6, h7, h8, ?_⟩, hf⟩
 rcases h9 with ⟨q, _⟩ | ⟨T, oT, ts, fl, i1, i2, i3, i4, i5, i6, i7, i8, i9⟩
 ·cases q
 ·refine .inr ⟨T, oT, ts, fl, i1, i2, i3, i4, i5, i6, i7, i8, ?_⟩
  rcases i9 with i9 | ⟨_, i9⟩
  ·exact .inl i9
  ·exact absurd rfl i9
theorem Exn.clean {k : Option Bool} {h0 : Heap} {fr : Option Addr} {x : Value} {X : String} {t : Value} (a : Exn k h0 h fr Z x X t true) : Exn k h0 h fr Z x X t c := by
 obtain ⟨⟨e, oe, vs, h1, h2, h3, h4, h5, h6, h7, h8, h9⟩, hf⟩ := a
 exact ⟨⟨e, oe, vs, h1, h2, h3, h4, h5, h6, h7, (fun zz => h8 rfl), h9⟩, hf⟩
section
theorem Ef1.tryFinally {fs : List Stmt} {f_0 : Stmt} {R1 : Out -> Gam -> Mut -> Prop} {RE1 : String -> D -> Gam -> Mut -> Prop} (hb : Ef pg w ba q true k sc Γ M body R1 RE1)
  (hn : ∀ o Γ' M', R1 o Γ' M' -> o = .next /\ Ef pg w ba q c k sc Γ' M' (f_0 :: fs) (fun o Γ'' M'' => o = .next /\ R .next Γ'' M'') RE)
  (he : ∀ X d Γ' M', RE1 X d Γ' M' -> Ef pg w ba false c k sc Γ' M' (f_0 :: fs) (fun o Γ'' M'' => o = .next /\ RE X d Γ'' M'') RE) : Ef1 pg w ba q c k sc Γ M (.Try body [] [] (f_0 :: fs) pos) R RE := by
 intro U s B A Q E G S Rm Ar H TT TE
 refine wpAny_Try_finally (hb U s B A _ _ G S Rm Ar H (fun f o h' tk Γ' M' hf S' off gr r => ?_) fun x X tv d Z h' tk Γ' M' hx ha S' o g r => ?_)
 ·obtain ⟨rfl, hfin⟩ := hn o Γ' M' r
  cases f <;> first | exact hf.elim | skip
  refine wpAny_execs_nil ?_
  have Ar' : Arr A (B ++ own U M') h' := Ar.step S S' off
  have TE' : ThenE ba B U M' ({ s with heap := h', toks := tk } : Shared) c RE E := TE.step off gr
  refine hfin U _ B A _ _ G S' Rm Ar' H (fun g out h2 tk2 Γ2 M2 hf2 S2 o2 g2 r2 => ?_) (ThenE.noted TE' S' Ar' H)
  obtain ⟨rfl, r2⟩ := r2
  cases g <;> first | exact hf2.elim | skip
  exact TT .next .next h2 tk2 Γ2 M2 trivial S2 (off.then o2 gr) (gr.transW off g2) r2
 ·have hfin := he X d Γ' M' r
  have Ar' : Arr A (B ++ own U M') h' := Ar.step S S'.dropZ o
  refine note_exn H Ar' S' hx (fun b hb => o.live hb) fun h1 Z1 hx1 S1 o1 z1 z2 => ?_
  obtain ⟨e, oe, vs, Tb, rfl, _, _, _⟩ := exn_fields hx1 (by intro q; cases q)
  refine ⟨ref_ne_byPass e, ?_⟩
  have oA1 : OffW (own U M) s.heap h1 := o.then o1 fun y hy => .inr (hx.fresh y hy)
  have Ar1 : Arr A (B ++ own U M') h1 := Ar.step S S1.dropZ oA1
  refine note_exn H Ar1 S1 hx1 (fun b hb => oA1.live hb) fun h2 Z2 hx2 S2 o2 z3 z4 => ?_
  refine flight_exn S2 hx2 (by intro q; cases q) .none (.inl rfl) fun h3 hx3 S3 o3 => ?_
  have oA3 : OffW (own U M) s.heap h3 := (oA1.then o2 fun y hy => .inr (hx1.fresh y hy)).then o3 fun y hy => .inr (hx2.fresh y hy)
  have ha3 : At (Z2 ++ B ++ own U M') h3 tv d := At.note (At.note (ha.note o1 z2) o2 z4) o3 fun z hz => .inl hz
  obtain ⟨⟨e', oe', vs', hee, he0, heZ, heg, hc, hd, h0t, hcl, htb⟩, hfr⟩ := id hx3
  cases hee
  have Ar3 : Arr (A.mark (some (.ref e))) ((Z2 ++ B) ++ own U M') h3 := Arr.upMark (Ar.step S S3.dropZ oA3) heg hc hd (hcl rfl) (by simp [heZ])
  have TE3 : ThenE ba (Z2 ++ B) U M' ({ s with heap := h3, toks := tk } : Shared) c RE E := fun x2 X2 t2 d2 Z' h' tk' Γ'' M'' hx' ha' S' o' g' r' => by
   have e1 : Z' ++ (Z2 ++ B) = (Z' ++ Z2) ++ B := (List.append_assoc _ _ _).symm
   refine TE x2 X2 t2 d2 Z' h' tk' Γ'' M'' (hx'.back fun b hb => oA3.live hb) (ha'.sub fun y hy => ?_) ?_ (oA3.then o' g) (g.transW oA3 g') r'
   ·simp only [List.append_assoc, List.mem_append] at hy ⊢
    exact hy.imp id .inr
   ·have sX : ∀ a ∈ (Z' ++ B) ++ own U M'', a ∈ (Z' ++ (Z2 ++ B)) ++ own U M'' := fun y hy => by
     simp only [List.append_assoc, List.mem_append] at hy ⊢
     exact hy.imp id .inr
    exact ⟨S'.keep, S'.ok, fun x d hx => let ⟨v, a, b⟩ := S'.var x d hx; ⟨v, a, b.sub sX⟩, fun p hp => let ⟨vs, n, g, r⟩ := (S'.muts p hp).at_; ⟨vs, n, g, r.sub sX⟩, S'.nod, S'.dis,
     fun a ha => S'.bdis a (by simp only [List.mem_append] at ha ⊢; exact ha.imp id .inr), fun a ha => S'.live a (by simp only [List.mem_append] at ha ⊢; exact ha.imp id .inr), fun a ha => S'.out a (sX a ha)⟩
  refine hfin U _ (Z2 ++ B) (A.mark (some (.ref e))) _ _ G S3 Rm.mark Ar3 H.mark (fun g' out h4 tk4 Γ4 M4 hf4 S4 o4 g4 r4 => ?_) (ThenE.noted TE3 S3 Ar3 H.mark)
  obtain ⟨rfl, r4⟩ := r4
  cases g' <;> first | exact hf4.elim | skip
  have zno : ∀ z ∈ Z2, z ∉ own U M' := fun z hz => S3.bdis z (by simp [hz])
  have hx4 := hx3.offW o4 zno
  have ha4 : At (Z2 ++ B ++ own U M4) h4 tv d := ha3.moveW fun b ob hb hh eo => by
   refine ⟨fun hm => ?_, o4.hard (fun hm => hb (by simp [hm])) eo hh⟩
   simp only [List.append_assoc, List.mem_append] at hb hm
   rcases hm with hm | hm | hm
   ·exact hb (.inl hm)
   ·exact hb (.inr (.inl hm))
   ·rcases g4 b hm with hm' | hn
    ·exact hb (.inr (.inr hm'))
    ·have eo' : h3.get? b = some ob := eo
     rw [show h3.get? b = none from hn] at eo'; cases eo'
  obtain ⟨e'', oe'', vs'', Tb', hee, heg', hd', h1'⟩ := exn_fields hx4 (by intro q; cases q)
  cases hee
  have oA4 : OffW (own U M) s.heap h4 := oA3.then o4 g
  unfold passOn
  refine jB (wpAny_field heg' hd' h1' ?_)
  rw [if_neg (by simp)]
  refine jB (flight_exn S4 hx4 (by intro q; cases q) U.frame (.inr rfl) fun h5 hx5 S5 o5 => wpAny_throw ?_)
  have oA5 : OffW (own U M) s.heap h5 := oA4.then o5 fun y hy => .inr (hfr y hy)
  exact TE (.ref e) X tv d Z2 h5 tk4 Γ4 M4 hx5.any.clean (ha4.note o5 fun z hz => .inl hz) S5 oA5 (g.transW oA3 g4) r4
end
end
section
noncomputable def FunX (pg : Program) (w : World) (ba : Heap) (k : Nat) (f : List Value -> Sem Value) (ds : List D) (M : Mut) (R : D -> Mut -> Prop) (RE : String -> D -> Mut -> Prop) : Prop :=
 ∀ (s : Shared) (X : List Addr) (vs : List Value) (A : Around) (Q : VP) (E : VP), Room true k A -> Ok ba X s.heap -> Arr A (X ++ M.map (·.1)) s.heap -> MOk ba X M s.heap -> Ats (X ++ M.map (·.1)) s.heap vs ds ->
  (∀ v d h' tk M', R d M' -> M'.map (·.1) = M.map (·.1) -> At (X ++ M.map (·.1)) h' v d -> MOk ba X M' h' -> OffW (M.map (·.1)) s.heap h' -> Ext ba h' -> Q v { s with heap := h', toks := tk }) ->
  (∀ x Xc t d Z h' tk M', RE Xc d M' -> M'.map (·.1) = M.map (·.1) -> Exn (some false) s.heap h' .none Z x Xc t true -> At (Z ++ X ++ M.map (·.1)) h' t d -> (∀ z ∈ Z, ∃ o, h'.get? z = some o) -> MOk ba (Z ++ X) M' h' -> OffW (M.map (·.1)) s.heap h' -> Ext ba h' -> E x { s with heap := h', toks := tk }) ->
  wpAny (model pg w) A (f vs) Q E s
section
theorem enter (L : Gl ba mg mb) {name : Str} {params : Arguments} {scope : Scope} {o : Obj} {pm code doc : Value} (ho : ba.get? a = some o) (hdat : o.data = .func (docDef name params body scope pm code doc)) (hcd : ba.CodeRec code name)
  {ns : List Str} (hok : fnOk ns scope = true) (hbind : bindArgs (docDef name params body scope pm code doc) ⟨vs, []⟩ = pure (ns.zip vs))
 {Q : VP} (Rm : Room true (k + 1) A) (ok : Ok ba X s.heap) (Ar : Arr A (X ++ M.map (·.1)) s.heap) (mok : MOk ba X M s.heap) (as : Ats (X ++ M.map (·.1)) s.heap vs ds)
  (h : ∀ U h_1 tk_1, EnvG scope U -> U.code = code -> U.qual = name ++ ".<locals>." -> St ba X U (ns.zip ds) M h_1 -> Ext s.heap h_1 -> Here (A.deeper U) U -> Arr (A.deeper U) (X ++ own U M) h_1 -> Room true k (A.deeper U) -> (∀ y ∈ own U M, y ∈ M.map (·.1) \/ s.heap.get? y = .none) ->
   wpAny (model pg w) (A.deeper U) (execs body U) (fun f s' => Q (match f with | .ret v => v | _ => .none) s') (fun e s' => wpAny (model pg w) (A.deeper U) (leaving U e) (fun zz s'' => E e s'') (fun e' s'' => E e' s'') s') { s with heap := h_1, toks := tk_1 }) :
  wpAny (model pg w) A (call (.ref a) vs) Q E s := by
 refine enter0 L ho hdat hcd hok hbind Rm ok mok as fun U h_1 tk_1 G hc hq hframe S keep1 Rm1 ofOwn => ?_
 have H : Here (A.deeper U) U := by
  obtain ⟨l, hl, _⟩ := Ar.frames
  exact ⟨hframe, l, Around.frames_deeper hl⟩
 have Ar1 : Arr (A.deeper U) (X ++ own U M) h_1 := by
  refine ⟨?_, .inl (Rm1.hd rfl), ?_, fun zz y hy o' e' k => ?_⟩
  ·obtain ⟨l, hl, hfr⟩ := Ar.frames
   refine ⟨U :: l, Around.frames_deeper hl, fun e he => ?_⟩
   rcases jK.1 he with rfl | he
   ·obtain ⟨o, es, ep, e1, e2, _⟩ := S.ok.ns.choose_spec
    exact ⟨by rw [G.scope, G.kind]; decide, _, o, es, ep, hframe, jA.2 (.inr (mem_own_locals _ _)), e1, e2⟩
   ·obtain ⟨i1, L', o', es, ep, i2, i3, i4, i5⟩ := hfr e he
    refine ⟨i1, L', o', es, ep, i2, ?_, keep1 _ _ i4, i5⟩
    exact jA.2 ((jA.1 i3).imp id (muts_own L'))
  ·exact Ar.tab.ext keep1
  ·rcases jA.1 hy with hX | hO
   ·obtain ⟨ob, eb⟩ := ok.live y hX
    have := keep1 _ _ eb
    rw [e'] at this; cases this
    exact Ar.nc (Rm.hd rfl) y (jA.2 (.inl hX)) o' eb k
   ·exact notTab_own S hO e' ⟨k.1, .inr k.2⟩
 exact h U h_1 tk_1 G hc hq S keep1 H Ar1 Rm1 ofOwn
set_option tactic.hygienic true in
theorem fun_of_bodyX (L : Gl ba mg mb) {name : Str} {params : Arguments} {scope : Scope} (hf : FnAt ba a name params body scope) {ns : List Str} {R : D -> Mut -> Prop} {RE : String -> D -> Mut -> Prop}
  (hok : fnOk ns scope = true) (hbind : ∀ (vs : List Value) pm code doc, vs.length = ds.length -> bindArgs (docDef name params body scope pm code doc) ⟨vs, []⟩ = pure (ns.zip vs))
  (h : Ef pg w ba true true k scope (ns.zip ds) M body (fun o zz M' => ∃ d M_1, o = .ret d /\ M_1.Sublist M' /\ M_1.map (·.1) = M.map (·.1) /\ R d M_1) (fun X d zz M' => ∃ M_1, M_1.Sublist M' /\ M_1.map (·.1) = M.map (·.1) /\ RE X d M_1)) : FunX pg w ba (k + 1) (fun vs => call (.ref a) vs) ds M R RE := by
 intro s X vs A Q E Rm ok Ar mok as hQ hE
 obtain ⟨o, pm, code, doc, ho, hdat, hcd⟩ := hf.at_
 refine enter L ho hdat hcd hok (hbind vs pm code doc as.length) Rm ok Ar mok as fun U h_1 tk_1 G zz zz S keep1 H Ar1 Rm1 ofOwn => ?_
 refine h U _ X (A.deeper U) _ _ G S Rm1 Ar1 H (fun f out h' tk Γ' M' hfl S' off gr hr => ?_) fun x Xc tv d Z h' tk Γ' M' hx ha S' off gr hr => ?_
 ·obtain ⟨d, M_1, rfl, hsub, hM1, hR⟩ := hr
  cases f <;> first | exact hfl.elim | skip
  rename_i v
  have S_1 := S'.subM hsub
  have sX : ∀ y ∈ X ++ M_1.map (·.1), y ∈ X ++ own U M_1 := fun y hy => jA.2 ((jA.1 hy).imp id fun h => mem_own.2 (.inr (.inr h)))
  refine hQ v d h' tk M_1 hR hM1 ?_ ⟨fun p hp => ?_, S_1.nod, fun y hy hX => S_1.bdis y hX (mem_own.2 (.inr (.inr hy))), fun y hy => S_1.out y (jA.2 (.inr (mem_own.2 (.inr (.inr hy)))))⟩ (keep1.offW.then off ofOwn) S'.keep
  ·rw [<- hM1]
   exact At.sub hfl fun y hy => jA.2 ((jA.1 hy).imp id fun h => mem_own.2 (.inr (.inr ((hsub.map _).subset h))))
  ·obtain ⟨vs', n, e, r⟩ := (S_1.muts p hp).at_
   exact ⟨vs', n, e, r.sub sX⟩
 ·obtain ⟨M_1, hsub, hM1, hR⟩ := hr
  have Ar' : Arr (A.deeper U) (X ++ own U M') h' := Ar1.step S S'.dropZ off
  unfold leaving
  refine jB (note_exn H Ar' S' hx (fun b hb => off.live hb) fun h2 Z2 hx2 S2 o2 z1 z2 => ?_)
  refine flight_exn S2 hx2 (by intro q; cases q) .none (.inl rfl) fun h3 hx3 S3 o3 => ?_
  have S_1 := S3.subM hsub
  have sX : ∀ y ∈ (Z2 ++ X) ++ M_1.map (·.1), y ∈ (Z2 ++ X) ++ own U M_1 := fun y hy => jA.2 ((jA.1 hy).imp id fun h => mem_own.2 (.inr (.inr h)))
  have oAll : OffW (own U M) h_1 h3 := (off.then o2 fun y hy => .inr (hx.fresh y hy)).then o3 fun y hy => .inr (hx2.fresh y hy)
  have ha3 : At (Z2 ++ X ++ own U M') h3 tv d := At.note (At.note ha o2 z2) o3 fun z hz => .inl hz
  refine hE x Xc tv d Z2 h3 tk M_1 hR hM1 (hx3.rest.back fun b hb => none_of_ext keep1 hb) ?_ (fun z hz => S3.live z (jA.2 (.inl hz))) ⟨fun p hp => ?_, S_1.nod, fun y hy hX => S_1.bdis y hX (mem_own.2 (.inr (.inr hy))), fun y hy => S_1.out y (jA.2 (.inr (mem_own.2 (.inr (.inr hy)))))⟩ (keep1.offW.then oAll ofOwn) S3.keep
  ·rw [<- hM1]
   refine ha3.sub fun y hy => ?_
   simp only [List.append_assoc, List.mem_append] at hy ⊢
   exact hy.imp id (Or.imp id fun h => mem_own.2 (.inr (.inr ((hsub.map _).subset h))))
  ·obtain ⟨vs', n, e, r⟩ := (S_1.muts p hp).at_
   exact ⟨vs', n, e, r.sub sX⟩
end
end
section
section
variable {M0 M_1 : Mut}
noncomputable abbrev handX (B : List Addr) (U : Env) (M_1 : Mut) : List Addr := B ++ own U M_1
theorem handX_iff {y : Addr} : y ∈ handX B U M_1 ++ M0.map (·.1) ↔ y ∈ B ++ own U (M0 ++ M_1) := by
 simp only [handX, List.mem_append, mem_own, List.map_append]
 constructor
 ·rintro ((h | h | h | h) | h)
  ·exact .inl h
  ·exact .inr (.inl h)
  ·exact .inr (.inr (.inl h))
  ·exact .inr (.inr (.inr (.inr h)))
  ·exact .inr (.inr (.inr (.inl h)))
 ·rintro (h | h | h | h | h)
  ·exact .inl (.inl h)
  ·exact .inl (.inr (.inl h))
  ·exact .inl (.inr (.inr (.inl h)))
  ·exact .inr h
  ·exact .inl (.inr (.inr (.inr h)))
theorem St.handOk (S : St ba B U Γ (M0 ++ M_1) h) : Ok ba (handX B U M_1) h := by
 have sX : ∀ a ∈ handX B U M_1, a ∈ B ++ own U (M0 ++ M_1) := fun a ha => handX_iff.1 (jA.2 (.inl ha))
 exact ⟨S.keep, fun a ha => S.allLive a (sX a ha), fun a ha => S.out a (sX a ha)⟩
theorem St.handM (S : St ba B U Γ (M0 ++ M_1) h) : MOk ba (handX B U M_1) M0 h := by
 have nd := S.nod
 rw [List.map_append, List.nodup_append] at nd
 refine ⟨fun p hp => ?_, nd.1, fun a ha hX => ?_, fun a ha => S.out a (handX_iff.1 (jA.2 (.inr ha)))⟩
 ·obtain ⟨vs, n, g, r⟩ := (S.muts p (jA.2 (.inl hp))).at_
  exact ⟨vs, n, g, r.sub fun y hy => handX_iff.1 hy⟩
 ·have hall : a ∈ (M0 ++ M_1).map (·.1) := by rw [List.map_append]; exact jA.2 (.inl ha)
  rcases jA.1 hX with hb | ho
  ·exact S.bdis a hb (mem_own.2 (.inr (.inr hall)))
  ·rcases mem_own.1 ho with h | h | h
   ·exact (S.dis a hall).1 h
   ·exact (S.dis a hall).2 h
   ·exact nd.2.2 a ha a h rfl
theorem St.handBack {M0' : Mut} (S : St ba B U Γ (M0 ++ M_1) h) (hm : M0'.map (·.1) = M0.map (·.1)) (mo : MOk ba (Z ++ handX B U M_1) M0' h') (o : OffW (M0.map (·.1)) h h') (kp : Ext ba h') (hZ : ∀ z ∈ Z, h.get? z = .none /\ ∃ o, h'.get? z = some o) : St ba (Z ++ B) U Γ (M0' ++ M_1) h' := by
 have hme : (M0' ++ M_1).map (·.1) = (M0 ++ M_1).map (·.1) := by rw [List.map_append, List.map_append, hm]
 have ow : own U (M0' ++ M_1) = own U (M0 ++ M_1) := own_congr hme
 have hM0 : ∀ b ∈ M0.map (·.1), b ∈ (M0 ++ M_1).map (·.1) := fun b hb => by rw [List.map_append]; exact jA.2 (.inl hb)
 have zno : ∀ z ∈ Z, z ∉ own U (M0 ++ M_1) := fun z hz hm => by
  obtain ⟨ob, e⟩ := S.allLive z (jA.2 (.inr hm)); rw [(hZ z hz).1] at e; cases e
 have mv : ∀ b ob, b ∉ B ++ own U (M0 ++ M_1) -> Hard ob -> h.get? b = some ob -> b ∉ (Z ++ B) ++ own U (M0' ++ M_1) /\ h'.get? b = some ob := fun b ob hb hh e => by
  refine ⟨fun hm => ?_, o.hard (fun hx => hb (jA.2 (.inr (mem_own.2 (.inr (.inr (hM0 b hx))))))) e hh⟩
  rw [ow, List.append_assoc] at hm
  rcases jA.1 hm with hz | hm
  ·rw [(hZ b hz).1] at e; cases e
  ·exact hb hm
 have soft : ∀ b ob, b ∉ M0.map (·.1) -> h.get? b = some ob -> ∃ ob', h'.get? b = some ob' /\ Soft ob ob' := fun b ob hz e => let ⟨o', e', s⟩ := o.at_ b ob e; ⟨o', e', s hz⟩
 have nl : U.locals ∉ M0.map (·.1) := fun hx => (S.dis _ (hM0 _ hx)).1 rfl
 have nc : ∀ a ∈ U.cells.map (·.2), a ∉ M0.map (·.1) := fun a ha hx => (S.dis a (hM0 a hx)).2 ha
 have nd := S.nod
 rw [List.map_append, List.nodup_append] at nd
 refine ⟨kp, ⟨?_, fun p hp => ?_, S.ok.apart, S.ok.off⟩, fun x d hx => ?_, fun p hp => ?_, by rw [hme]; exact S.nod, by rw [hme]; exact S.dis, fun a ha hm => ?_, fun a ha => ?_, fun a ha => ?_⟩
 ·obtain ⟨m, hn⟩ := S.ok.ns
  exact ⟨m, ns_soft hn fun ob e => soft _ ob nl e⟩
 ·obtain ⟨ov, ob, e, d⟩ := S.ok.cell p hp
  obtain ⟨o', e', s⟩ := soft p.2 ob (nc _ (jM.2 ⟨p, hp, rfl⟩)) e
  rw [soft_cell s d] at e'
  exact ⟨ov, ob, e', d⟩
 ·obtain ⟨v, hv, av⟩ := S.var x d hx
  refine ⟨v, ?_, av.moveW mv⟩
  rcases hv with ⟨k, m, hn, hm⟩ | ⟨k, c, hc, ob, e, d⟩
  ·exact .inl ⟨k, m, ns_soft hn fun ob e => soft _ ob nl e, hm⟩
  ·obtain ⟨o', e', s⟩ := soft c ob (nc _ (jM.2 ⟨_, mem_of_lookup hc, rfl⟩)) e
   rw [soft_cell s d] at e'
   exact .inr ⟨k, c, hc, ob, e', d⟩
 ·rcases jA.1 hp with hp | hp
  ·obtain ⟨vs, n, g, r⟩ := (mo.lat p hp).at_
   refine ⟨vs, n, g, r.sub fun y hy => ?_⟩
   rw [ow] at hy
   rw [List.append_assoc] at hy
   rw [List.append_assoc]
   rcases jA.1 hy with hy | hy
   ·exact jA.2 (.inl hy)
   ·rw [hm]; exact jA.2 (.inr (handX_iff.2 hy))
  ·obtain ⟨vs, n, g, r⟩ := (S.muts p (jA.2 (.inr hp))).at_
   exact ⟨vs, n, o.hard (fun hx => nd.2.2 p.1 hx p.1 (jM.2 ⟨p, hp, rfl⟩) rfl) g (hard_list _ _), r.moveW mv⟩
 ·rw [ow] at hm
  rcases jA.1 ha with ha | ha
  ·exact zno a ha hm
  ·exact S.bdis a ha hm
 ·rcases jA.1 ha with ha | ha
  ·exact (hZ a ha).2
  ·obtain ⟨ob, e⟩ := S.live a ha
   obtain ⟨o', e', _⟩ := o.at_ a ob e
   exact ⟨o', e'⟩
 ·rw [ow, List.append_assoc] at ha
  rcases jA.1 ha with ha | ha
  ·exact none_of_ext S.keep (hZ a ha).1
  ·exact S.out a ha
noncomputable def EvLX (pg : Program) (w : World) (ba : Heap) (q c : Bool) (k : Nat) (sc : Scope) (Γ : Gam) (M : Mut) (pos : Pos) (es : List Expr) (R : List D -> Mut -> Prop) (RE : String -> D -> Mut -> Prop) : Prop :=
 ∀ (U : Env) (s : Shared) (B : List Addr) (A : Around) (Q : List Value -> Shared -> Prop) (E : VP), EnvG sc U -> St ba B U Γ M s.heap -> Room q k A -> Arr A (B ++ own U M) s.heap ->
  (∀ vs ds h' tk M', M'.map (·.1) = M.map (·.1) -> Ats (B ++ own U M') h' vs ds -> St ba B U Γ M' h' -> OffW (M.map (·.1)) s.heap h' -> R ds M' -> Q vs { s with heap := h', toks := tk }) ->
  ThenE ba B U M s c (fun X d Γ' M' => Γ' = Γ /\ M'.map (·.1) = M.map (·.1) /\ RE X d M') E -> wpAny (model pg w) A (spliced (backTo pos (starEach es U))) Q E s
variable {RL : List D -> Mut -> Prop} {RX : D -> Mut -> Prop} {RXE : String -> D -> Mut -> Prop}
theorem EvL.y {es : List Expr} (h : EvL pg w ba q k sc Γ pos es ds) (hr : RL ds M) : EvLX pg w ba q c k sc Γ M pos es RL RXE := by
 intro U s B A Q E G S Rm Ar hQ TE
 exact h U s B M A Q E G S Rm fun vs h' tk e as => hQ vs ds h' tk M rfl as (S.ext e) e.offW hr
theorem EvLX.cons {es : List Expr} (h : EvX pg w ba q c k sc Γ M e RX RXE) (r : EvL pg w ba q k sc Γ pos es ds) (hr : ∀ d M', RX d M' -> RL (d :: ds) M')
  (he : autoParam (∀ U, backTo pos (starEach (e :: es) U) = (false, eval e U) :: backTo pos (starEach es U)) tA) : EvLX pg w ba q c k sc Γ M pos (e :: es) RL RXE := by
 intro U s B A Q E G S Rm Ar hQ TE
 rw [he]
 refine spliced_cons (h U s B A _ E G S Rm Ar (fun v d h' tk M' hm a S' o rr => ?_) TE)
 exact r U _ B M' A _ E G S' Rm fun vs g' t' e' as => hQ (v :: vs) (d :: ds) g' t' M' hm (.cons (a.ext e') as) (S'.ext e') (o.trans e'.offW) (hr d M' rr)
theorem EvX.call {func : Expr} {args : List Expr} {name : Str} {params : Arguments} {scope : Scope} (hfn : FnAt ba a name params body scope)
  (hf : Ev pg w ba true k sc Γ func (.raw (.ref a))) (ha : EvLX pg w ba true c k sc Γ M pos args RL RXE)
  (h : ∀ ds M', RL ds M' -> ∃ (M0 M_1 : Mut) (R0 : D -> Mut -> Prop) (RE0 : String -> D -> Mut -> Prop), M' = M0 ++ M_1 /\ FunX pg w ba k (fun vs => call (.ref a) vs) ds M0 R0 RE0 /\ (∀ d M0', R0 d M0' -> RX d (M0' ++ M_1)) /\ (∀ X d M0', RE0 X d M0' -> RXE X d (M0' ++ M_1))) (hs : ArgsOk pos args)
  (he : autoParam (∀ U, eval (.Call func args [] pos) U = (do callWith pos (<- eval func U) [] (backTo pos (starEach args U)) (backToKw pos (keywordEach [] U)))) tA) : EvX pg w ba true c k sc Γ M (.Call func args [] pos) RX RXE := by
 intro U s B A Q E G S Rm Ar hQ TE
 obtain ⟨o, pm, code, doc, ho, hdat, hcd⟩ := hfn.at_
 refine PyProof.Rows.Call_ ((hf U s B M G S).bindR Rm fun g t e => ?_) (he U)
 have S1 := S.ext e
 have Ar1 : Arr A (B ++ own U M) g := Ar.step S S1 e.offW
 refine callWith_function (o := o) (fd := docDef name params body scope pm code doc) ?_
 obtain ⟨x, rest, ex, _⟩ := hs U
 rw [ex]
 refine evalArgs_plain ?_
 rw [<- ex]
 refine ha U _ B A _ E G S1 Rm Ar1 (fun vs ds g' t' M' hm as S2 o2 rl => ⟨⟨S2.keep _ _ ho, hdat⟩, ?_⟩) (TE.step (tk := t) e.offW (Grow.refl _ _))
 obtain ⟨M0, M_1, R0, RE0, rfl, hfun, hr, hre⟩ := h ds M' rl
 have oAll : OffW (M.map (·.1)) s.heap g' := e.offW.trans o2
 have Ar2 : Arr A (B ++ own U (M0 ++ M_1)) g' := Ar.step S S2 (offW_own oAll)
 have hmX : ∀ b ∈ M0.map (·.1), b ∈ M.map (·.1) := fun b hb => by rw [<- hm, List.map_append]; exact jA.2 (.inl hb)
 refine hfun _ (handX B U M_1) vs A _ _ Rm S2.handOk (Ar2.mono (fun y hy => handX_iff.2 hy) fun y hy => handX_iff.1 hy) S2.handM (as.sub fun y hy => handX_iff.1 hy) (fun v d h' tk M0' hR hm' av mo o3 kp => ?_) fun x Xc tv d Z h' tk M0' hR hm' hx av hl mo o3 kp => ?_
 ·have S3 : St ba B U Γ (M0' ++ M_1) h' := by
   have := S2.handBack (Z := []) hm' (by simpa using mo) o3 kp (fun z hz => nomatch hz)
   simpa using this
  have hme : (M0' ++ M_1).map (·.1) = M.map (·.1) := by rw [<- hm, List.map_append, List.map_append, hm']
  refine hQ v d h' tk (M0' ++ M_1) hme (av.sub fun y hy => ?_) S3 (oAll.trans (o3.mono hmX)) (hr d M0' hR)
  rw [own_congr (show (M0' ++ M_1).map (·.1) = (M0 ++ M_1).map (·.1) by rw [List.map_append, List.map_append, hm'])] at hy
  exact handX_iff.2 hy
 ·have hme : (M0' ++ M_1).map (·.1) = M.map (·.1) := by rw [<- hm, List.map_append, List.map_append, hm']
  have hZ : ∀ z ∈ Z, g'.get? z = .none /\ ∃ o, h'.get? z = some o := fun z hz => ⟨hx.fresh z hz, hl z hz⟩
  have S3 := S2.handBack (Z := Z) hm' mo o3 kp hZ
  refine TE x Xc tv d Z h' tk Γ (M0' ++ M_1) ((hx.rest.any.back fun b hb => oAll.live hb).clean) (av.sub fun y hy => ?_) S3 ((offW_own oAll).trans (offW_own (o3.mono hmX))) (by rw [own_congr hme]; exact Grow.refl _ _) ⟨rfl, hme, hre Xc d M0' hR⟩
  rw [own_congr (show (M0' ++ M_1).map (·.1) = (M0 ++ M_1).map (·.1) by rw [List.map_append, List.map_append, hm']), List.append_assoc] at hy
  rw [List.append_assoc]
  rcases jA.1 hy with hy | hy
  ·exact jA.2 (.inl hy)
  ·exact jA.2 (.inr (handX_iff.2 hy))
end
end
section
section
theorem Ex1.augInt {a b : Int} (hx : Γ.lookup x = some (.int a)) (he : Ev pg w ba q k sc Γ e (.int b)) (hst : storable sc x = true) (hr : R .next ((x, .int (a + b)) :: Γ) M) (hn : (x == ("__classdict__" : Str)) = false) :
  Ex1 pg w ba q k sc Γ M (.AugAssign (.Name x px) .Add e pos) R := by
 intro U s B A Q E G S Rm T
 obtain ⟨v, hv, av⟩ := S.var x _ hx
 obtain ⟨t, rfl⟩ := av.int_
 refine wpAny_AugAssign_Name (hv.load G hn ((he U s B M G S).bind Rm fun v2 g t2 e2 a2 => ?_))
 obtain ⟨u, rfl⟩ := a2.int_
 refine wpAny_iadd_int ?_
 refine (S.ext e2).store G hst (d := .int (a + b)) (.int _ _) fun h' tk S' off zz => ?_
 exact T .next .next h' tk _ M trivial S' (e2.off.trans off) (Grow.refl _ _) hr
theorem Ex1.assign2 {y : Str} {py : Pos} (h : Ev pg w ba q k sc Γ value d) (hx : storable sc x = true) (hy : storable sc y = true) (hr : R .next ((y, d) :: (x, d) :: Γ) M)
  (he : autoParam (∀ U, (assignEach [.Name x px, .Name y py] U).map (·.2) = [PySem.assign (.Name x px) U, PySem.assign (.Name y py) U]) tA) (hw : autoParam (∀ U, swappedStores [.Name x px, .Name y py] value U = pure none) tA) : Ex1 pg w ba q k sc Γ M (.Assign [.Name x px, .Name y py] value pos) R := by
 intro U s B A Q E G S Rm T
 refine wpAny_Assign_two ((h U s B M G S).bind Rm fun v g t e a => ?_) (he U) (hw U)
 refine wpAny_assign_Name ((S.ext e).store G hx a fun h' tk S' off zz => ?_)
 refine wpAny_assign_Name (S'.store G hy (a.off (off.mono fun y hy => jA.2 (.inr hy))) fun h'' tk' S'' off' zz => ?_)
 exact T .next .next h'' tk' _ M trivial S'' (e.off.trans (off.trans off')) (Grow.refl _ _) hr
theorem Ex1.extend {apos pos' : Pos} {es : List D} (hx : Γ.lookup x = some (.raw (.ref a))) (he : Ev pg w ba q k sc Γ e (.list es)) (hsz : ds.length + es.length <= 100000) (hr : R .next Γ ((a, ds ++ es) :: M))
  (hn : (x == ("__debug__" : Str) || x == ("__classdict__" : Str)) = false) (hline : autoParam ((apos.endLine == pos.line) = true) tA) (htrees : autoParam (∀ U, backTo pos (starEach [e] U) = [(false, eval e U)]) tA)
  (hbase : autoParam (∀ U, attributeBase (.Name x px) "extend" U (eval (.Name x px) U) = eval (.Name x px) U) tA) :
  Ex1 pg w ba q k sc Γ ((a, ds) :: M) (.Expr (.Call (.Attribute (.Name x px) "extend" apos) [e] [] pos) pos') R := by
 intro U s B A Q E G S Rm T
 refine wpAny_Expr (wpAny_Call_method1_late (hbase U) hline (htrees U) ((Ev.var hx hn U s B _ G S).bindR Rm fun g t e' => ?_)) (interactive_false G) rfl
 obtain ⟨vs, n, ha, as⟩ := ((S.ext e').muts _ jC).at_
 refine ⟨"list", "list.extend", F.plainAttrs_list, F.slot_list_extend, F.type_list_extend, ⟨_, ha, rfl⟩, fun b hb => by cases hb; exact ⟨_, ha, rfl⟩, P.extend_list ((he U _ B _ G (S.ext e')).bind Rm fun u g' t' e'' au => ?_)⟩
 have ha' := e'' _ _ ha
 obtain ⟨l, ws, n2, rfl, hX, hl, bs⟩ := au.list_
 have z1 : vs.size = ds.length := size_of_ats as
 have z2 := size_of_ats bs
 refine ⟨l, vs, ws, n, n2, by rw [sizeLine_eq]; lia, by rw [sizeLine_eq]; lia, ?_, rfl, ha', hl, ?_⟩
 ·simp only [Builtin.List.listTooLong, sizeLine, Bool.and_eq_true, decide_eq_true_eq, not_and, gt_iff_lt]
  intro _; lia
 have hup := Heap.get?_update_self (Obj.mapSeq fun xs => xs ++ ws) ha' rfl
 have o : Off [a] g' (g'.update a (Obj.mapSeq fun xs => xs ++ ws)) := same_off (Heap.SameBut.update ..)
 have S2 := (S.ext e').ext e''
 have offX : Off (B ++ Mine.own U ((a, ds) :: M)) g' (g'.update a (Obj.mapSeq fun xs => xs ++ ws)) := o.mono fun y hy => by rw [jS.1 hy]; exact own_cons.2 (.inl rfl)
 have S3 := S2.setM (ds' := ds ++ es) (vs := vs ++ ws) (n := if (vs ++ ws).size == vs.size then n else n + 1) o hup (by
  rw [Array.toList_append]
  exact (((as.ext e'').off offX).append (bs.off offX)))
 exact T .next .next _ t' Γ _ trivial S3 (((e'.trans e'').off).trans (o.mono fun y hy => by rw [jS.1 hy]; exact mem_own.2 (.inr (.inr (by simp))))) (Grow.refl _ _) hr
theorem own_list_frame (S : St ba B U Γ ((a, ds) :: M) h) (Ar : Arr A (B ++ own U ((a, ds) :: M)) h) : Arr A (B ++ own U M) h := by
 obtain ⟨vs, n, g, _⟩ := (S.muts _ jC).at_
 have drop : ∀ L, L ∈ B ++ own U ((a, ds) :: M) -> (∀ ob, h.get? L = some ob -> ob ≠ listO vs n) -> (∃ ob, h.get? L = some ob) -> L ∈ B ++ own U M := fun L hL hne ⟨ob, e⟩ => by
  rcases own_cons.1 hL with rfl | h
  ·exact absurd rfl (hne _ g)
  ·exact h
 refine ⟨?_, ?_, Ar.tab, fun hh y hy => Ar.nc hh y (jA.2 ((jA.1 hy).imp id (own_sub (List.sublist_cons_self (a, ds) M) y)))⟩
 ·obtain ⟨l, hl, hf⟩ := Ar.frames
  refine ⟨l, hl, fun e he => ?_⟩
  obtain ⟨i1, L, o, es, ep, i2, i3, i4, i5⟩ := hf e he
  exact ⟨i1, L, o, es, ep, i2, drop L i3 (fun ob e q => by rw [i4] at e; cases e; rw [q] at i5; cases i5) ⟨o, i4⟩, i4, i5⟩
 ·rcases Ar.handled with hn | ⟨e, oe, vs', T, i1, i2, i3, i4, i5, i6⟩
  ·exact .inl hn
  ·exact .inr ⟨e, oe, vs', T, i1, i2, i3, i4, i5, drop e i6 (fun ob x q => by rw [i2] at x; cases x; rw [q] at i4; cases i4) ⟨oe, i2⟩⟩
theorem Ef.freeze (hx : Γ.lookup x = some (.raw (.ref a))) (h : Ef pg w ba q c k sc ((x, .list ds) :: Γ) M ss R RE) : Ef pg w ba q c k sc Γ ((a, ds) :: M) ss R RE := by
 intro U s B A Q E G S Rm Ar H T TE
 have sb := own_sub (U := U) (List.sublist_cons_self (a, ds) M)
 exact h U s B A Q E G (S.freeze hx) Rm (own_list_frame S Ar) H (fun f o h' tk Γ' M' hf S' off gr r => T f o h' tk Γ' M' hf S' (off.mono sb) (fun y hy => (gr y hy).imp (sb y) id) r)
  fun x X t d Z h'' tk' Γ'' M'' hx ha S' o' g' r => TE x X t d Z h'' tk' Γ'' M'' hx ha S' (o'.mono sb) (fun y hy => (g' y hy).imp (sb y) id) r
theorem Ef.stm {st : Stmt} {P : Gam -> Mut -> Prop} (h : Ex1 pg w ba q k sc Γ M st (fun o Γ' M' => o = .next /\ P Γ' M')) (hm : ∀ Γ' M', P Γ' M' -> ∀ a ∈ M.map (·.1), a ∈ M'.map (·.1)) (r : ∀ Γ' M', P Γ' M' -> Ef pg w ba q c k sc Γ' M' ss R RE) : Ef pg w ba q c k sc Γ M (st :: ss) R RE :=
 Ef.seq (Ef1.lift h fun o Γ' M' ⟨e, p⟩ => ⟨⟨e, p⟩, hm Γ' M' p⟩) r
theorem Ef.augInt {a b : Int} (hx : Γ.lookup x = some (.int a)) (he : Ev pg w ba q k sc Γ e (.int b)) (hst : storable sc x = true) (hn : (x == ("__classdict__" : Str)) = false) (r : Ef pg w ba q c k sc ((x, .int (a + b)) :: Γ) M ss R RE) :
  Ef pg w ba q c k sc Γ M (.AugAssign (.Name x px) .Add e pos :: ss) R RE :=
 Ef.stm (P := fun Γ' M' => Γ' = (x, .int (a + b)) :: Γ /\ M' = M) (Ex1.augInt hx he hst ⟨rfl, rfl, rfl⟩ hn) (fun zz zz ⟨h1, h2⟩ a ha => by rw [h2]; exact ha) fun zz zz ⟨h1, h2⟩ => by subst h1 h2; exact r
theorem Ef.own (h : EvN pg w ba q k sc Γ value ds) (r : ∀ a, Ef pg w ba q c k sc ((x, .raw (.ref a)) :: Γ) ((a, ds) :: M) ss R RE) (hx : autoParam (storable sc x = true) tA)
  (hs : autoParam (∀ U, swapsWith value (some (.Name x px)) pos.line U = pure false) tA) : Ef pg w ba q c k sc Γ M (.Assign [.Name x px] value pos :: ss) R RE :=
 Ef.stm (P := fun Γ' M' => ∃ a, Γ' = (x, .raw (.ref a)) :: Γ /\ M' = (a, ds) :: M) (Ex1.own h hx (fun a => ⟨rfl, a, rfl, rfl⟩) hs) (fun zz zz ⟨b, h1, h2⟩ a ha => by rw [h2]; exact jT _ ha) fun zz zz ⟨a, h1, h2⟩ => by subst h1 h2; exact r a
theorem Ef.append {apos pos' : Pos} (hx : Γ.lookup x = some (.raw (.ref a))) (he : Ev pg w ba q k sc Γ e d) (hsz : ds.length <= sizeLine) (r : Ef pg w ba q c k sc Γ ((a, ds ++ [d]) :: M) ss R RE)
  (hn : autoParam ((x == ("__debug__" : Str) || x == ("__classdict__" : Str)) = false) tA) (hline : autoParam ((apos.endLine == pos.line) = true) tA) (htrees : autoParam (∀ U, backTo pos (starEach [e] U) = [(false, eval e U)]) tA)
  (hbase : autoParam (∀ U, attributeBase (.Name x px) "append" U (eval (.Name x px) U) = eval (.Name x px) U) tA) :
  Ef pg w ba q c k sc Γ ((a, ds) :: M) (.Expr (.Call (.Attribute (.Name x px) "append" apos) [e] [] pos) pos' :: ss) R RE :=
 Ef.stm (P := fun Γ' M' => Γ' = Γ /\ M' = (a, ds ++ [d]) :: M) (Ex1.append hx he hsz ⟨rfl, rfl, rfl⟩ hn hline htrees hbase) (fun zz zz ⟨h1, h2⟩ a ha => by rw [h2]; exact ha) fun zz zz ⟨h1, h2⟩ => by subst h1 h2; exact r
theorem Ex.extend {apos pos' : Pos} {es : List D} (hx : Γ.lookup x = some (.raw (.ref a))) (he : Ev pg w ba q k sc Γ e (.list es)) (hsz : ds.length + es.length <= 100000) (r : Ex pg w ba q k sc Γ ((a, ds ++ es) :: M) ss R)
  (hn : (x == ("__debug__" : Str) || x == ("__classdict__" : Str)) = false) (hline : autoParam ((apos.endLine == pos.line) = true) tA) (htrees : autoParam (∀ U, backTo pos (starEach [e] U) = [(false, eval e U)]) tA)
  (hbase : autoParam (∀ U, attributeBase (.Name x px) "extend" U (eval (.Name x px) U) = eval (.Name x px) U) tA) :
  Ex pg w ba q k sc Γ ((a, ds) :: M) (.Expr (.Call (.Attribute (.Name x px) "extend" apos) [e] [] pos) pos' :: ss) R :=
 Ex.seq (P := fun Γ' M' => Γ' = Γ /\ M' = (a, ds ++ es) :: M) (Ex1.extend hx he hsz ⟨rfl, rfl, rfl⟩ hn hline htrees hbase) fun zz zz ⟨h1, h2⟩ => by subst h1 h2; exact r
end
end
section
section
variable [DecidableEq α] {lt : α -> α -> Bool}
structure Lin (lt : α -> α -> Bool) (ok : α -> Prop) : Prop where
 irr : ∀ x, lt x x = false
 tr : ∀ x y z, lt x y = true -> lt y z = true -> lt x z = true
 tri : ∀ x y, ok x -> ok y -> x ≠ y -> lt x y = true \/ lt y x = true
noncomputable def SortedBy (lt : α -> α -> Bool) (xs : List α) : Prop := xs.Pairwise fun x y => lt x y = true
structure Side (lt : α -> α -> Bool) (xs ys : List α) (i j : Nat) : Prop where
 hi : i <= xs.length
 hj : j <= ys.length
 xy : ∀ x ∈ xs.take i, ∀ y ∈ ys.drop j, lt x y = true
 yx : ∀ y ∈ ys.take j, ∀ x ∈ xs.drop i, lt y x = true
noncomputable def lack (xs ys : List α) : List α := xs.filter fun x => decide (x ∉ ys)
theorem lack_push (xs ys : List α) (x : α) : lack (xs ++ [x]) ys = lack xs ys ++ if x ∈ ys then [] else [x] := by
 unfold lack
 rw [List.filter_append]
 by_cases h : x ∈ ys <;> simp [h]
theorem Side.zero (xs ys : List α) : Side lt xs ys 0 0 := ⟨Nat.zero_le _, Nat.zero_le _, fun x hx => by simp at hx, fun y hy => by simp at hy⟩
theorem Side.swap {ys : List α} {j : Nat} (s : Side lt xs ys i j) : Side lt ys xs j i := ⟨s.hj, s.hi, s.yx, s.xy⟩
theorem take_succ {x : α} (h : xs[i]? = some x) : xs.take (i + 1) = xs.take i ++ [x] := by
 obtain ⟨hlt, e⟩ := List.getElem?_eq_some_iff.1 h
 rw [<- e]; simp
theorem drop_at {x : α} (h : xs[i]? = some x) : xs.drop i = x :: xs.drop (i + 1) := by
 obtain ⟨hlt, e⟩ := List.getElem?_eq_some_iff.1 h
 rw [<- e]; exact List.drop_eq_getElem_cons hlt
theorem sorted_drop {x : α} (hs : SortedBy lt xs) (h : xs[i]? = some x) : ∀ y ∈ xs.drop (i + 1), lt x y = true := by
 have := hs.sublist (List.drop_sublist i xs)
 rw [drop_at h, List.pairwise_cons] at this
 exact this.1
theorem lt_ne (L : Lin lt ok) {x y : α} (h : lt x y = true) : x ≠ y := fun e => by rw [e, L.irr] at h; cases h
theorem next_ne (L : Lin lt ok) {x y : α} (hs : SortedBy lt xs) (h : xs[i]? = some x) (h' : xs[i + 1]? = some y) : y ≠ x :=
 (lt_ne L (sorted_drop hs h y (by rw [drop_at h']; exact jC))).symm
theorem Side.left (L : Lin lt ok) {ys : List α} {j : Nat} {x y : α} (s : Side lt xs ys i j) (sx : SortedBy lt xs) (sy : SortedBy lt ys) (hx : xs[i]? = some x) (hy : ys[j]? = some y) (h : lt x y = true) :
  Side lt xs ys (i + 1) j /\ lack (xs.take (i + 1)) ys = lack (xs.take i) ys ++ [x] := by
 have hlt := (List.getElem?_eq_some_iff.1 hx).1
 have xall : ∀ z ∈ ys.drop j, lt x z = true := fun z hz => by
  rw [drop_at hy] at hz
  rcases jK.1 hz with rfl | hz
  ·exact h
  ·exact L.tr _ _ _ h (sorted_drop sy hy z hz)
 refine ⟨⟨hlt, s.hj, fun z hz w hw => ?_, fun z hz w hw => s.yx z hz w ?_⟩, ?_⟩
 ·rw [take_succ hx] at hz
  rcases jA.1 hz with hz | hz
  ·exact s.xy z hz w hw
  ·rw [jS.1 hz]; exact xall w hw
 ·rw [drop_at hx]; exact jT _ hw
 ·rw [take_succ hx, lack_push, if_neg]
  intro hm
  have : x ∈ ys.take j ++ ys.drop j := by rw [List.take_append_drop]; exact hm
  rcases jA.1 this with h1 | h1
  ·have := s.yx x h1 x (by rw [drop_at hx]; exact jC)
   rw [L.irr] at this; cases this
  ·have := xall x h1; rw [L.irr] at this; cases this
theorem Side.both (L : Lin lt ok) {ys : List α} {j : Nat} {x : α} (s : Side lt xs ys i j) (sx : SortedBy lt xs) (sy : SortedBy lt ys) (hx : xs[i]? = some x) (hy : ys[j]? = some x) :
  Side lt xs ys (i + 1) (j + 1) /\ lack (xs.take (i + 1)) ys = lack (xs.take i) ys /\ lack (ys.take (j + 1)) xs = lack (ys.take j) xs := by
 have hlt := (List.getElem?_eq_some_iff.1 hx).1
 have hlt' := (List.getElem?_eq_some_iff.1 hy).1
 refine ⟨⟨hlt, hlt', fun z hz w hw => ?_, fun z hz w hw => ?_⟩, ?_, ?_⟩
 ·rw [take_succ hx] at hz
  rcases jA.1 hz with hz | hz
  ·exact s.xy z hz w (by rw [drop_at hy]; exact jT _ hw)
  ·rw [jS.1 hz]; exact sorted_drop sy hy w hw
 ·rw [take_succ hy] at hz
  rcases jA.1 hz with hz | hz
  ·exact s.yx z hz w (by rw [drop_at hx]; exact jT _ hw)
  ·rw [jS.1 hz]; exact sorted_drop sx hx w hw
 ·rw [take_succ hx, lack_push, if_pos (List.mem_of_getElem? hy), List.append_nil]
 ·rw [take_succ hy, lack_push, if_pos (List.mem_of_getElem? hx), List.append_nil]
theorem Side.done (L : Lin lt ok) {ys : List α} {j : Nat} (s : Side lt xs ys i j) (h : i = xs.length \/ j = ys.length) : lack (xs.take i) ys ++ xs.drop i = lack xs ys := by
 have e : lack (xs.drop i) ys = xs.drop i := by
  unfold lack
  rw [List.filter_eq_self]
  intro x hx
  rcases h with h | h
  ·rw [h, List.drop_length] at hx; cases hx
  ·simp only [decide_not, Bool.not_eq_eq_eq_not, Bool.not_true, decide_eq_false_iff_not]
   intro hm
   have := s.yx x (by rw [h, List.take_length]; exact hm) x hx
   rw [L.irr] at this; cases this
 have e2 : lack xs ys = lack (xs.take i) ys ++ lack (xs.drop i) ys := by
  unfold lack
  rw [<- List.filter_append, List.take_append_drop]
 rw [e2, e]
theorem lack_sub (xs ys : List α) : (lack xs ys).Sublist xs := List.filter_sublist
end
end
section
open PyProof.Rows
structure Ord (pg : Program) (w : World) (ba : Heap) {α : Type} [DecidableEq α] (enc : α -> D) (ok : α -> Prop) (lt : α -> α -> Bool) : Prop where
 lt_ : ∀ q k x y, ok x -> ok y -> Fun2 pg w ba q k (compareOp .Lt) (enc x) (enc y) (.bool (lt x y))
 gt_ : ∀ q k x y, ok x -> ok y -> Fun2 pg w ba q k (compareOp .Gt) (enc x) (enc y) (.bool (lt y x))
 eq_ : ∀ q k x y, ok x -> ok y -> Fun2 pg w ba q k (compareOp .Eq) (enc x) (enc y) (.bool (decide (x = y)))
 lin : Lin lt ok
section
variable [DecidableEq α] {lt : α -> α -> Bool}
theorem Ef.one {st : Stmt} (h : Ef1 pg w ba q c k sc Γ M st R RE) : Ef pg w ba q c k sc Γ M [st] R RE :=
 Ef.cons h (fun o Γ' M' r => by cases o <;> first | exact Ef.nil r | exact r) fun zz zz zz zz h => h
theorem ne_while (O : Ord pg w ba enc ok lt) (hqc : c = true -> q = true) {l i e : Str} {p1 p2 p3 p4 p5 p6 : Pos} {zs : List α} {x : α} (hl : Γ.lookup l = some (.list (zs.map enc))) (hi : Γ.lookup i = some (eN n)) (he : Γ.lookup e = some (enc x))
  (hln : (l == ("__debug__" : Str) || l == ("__classdict__" : Str)) = false) (hin : (i == ("__debug__" : Str) || i == ("__classdict__" : Str)) = false) (hen : (e == ("__debug__" : Str) || e == ("__classdict__" : Str)) = false)
  (hzs : ∀ z ∈ zs, ok z) (hx : ok x) (hsz : zs.length <= 1000) (hn : n <= 1000) (hne : ∀ z, zs[n]? = some z -> z ≠ x) :
  Ef1 pg w ba q c k sc Γ M (.While (.Compare (.Subscript (.Name l p1) (.Name i p2) p3) [.Eq] [.Name e p4] p5) body [] p6) (fun o Γ' M' => o = .next /\ Γ' = Γ /\ M' = M) (fun X d Γ' M' => X = "IndexError" /\ zs.length <= n /\ Γ' = Γ /\ M' = M) := by
 refine Ef1.while (RXE := fun zz zz zz zz => True) (fun m Γ' M' => Γ' = Γ /\ M' = M) (fun m Γ' M' hI => ?_) 0 ⟨rfl, rfl⟩
 obtain ⟨rfl, rfl⟩ := hI
 refine ⟨fun b M'' => b = false /\ M'' = M', ?_, (fun M'' h => by cases h.1), fun M'' h => ⟨rfl, rfl, h.2⟩⟩
 refine TrX.cmpL (RX := fun d M'' => ∃ z, zs[n]? = some z /\ d = enc z /\ M'' = M') (EvX.item hqc (ds := zs.map enc) (i := n) (Ev.var hl hln) (Ev.var hi hin) (by simp; lia) (by lia) (fun d hd => ?_) (fun h d => ⟨rfl, by simpa using h, rfl, rfl⟩)) (Ev.var he hen) (fun d M'' hd => ?_) rfl
 ·rw [List.getElem?_map] at hd
  obtain ⟨z, hz, rfl⟩ := Option.map_eq_some_iff.1 hd
  exact ⟨z, hz, rfl, rfl⟩
 ·obtain ⟨z, hz, rfl, rfl⟩ := hd
  refine ⟨false, ?_, rfl, rfl⟩
  have := O.eq_ q k z x (hzs z (List.mem_of_getElem? hz)) hx
  rwa [show decide (z = x) = false from decide_eq_false (hne z hz)] at this
noncomputable abbrev sldG (enc : α -> D) (xs ys : List α) (a1 a2 i j : Nat) : Gam := [(N "i", eN i), (N "j", eN j), (N "expected", .list (xs.map enc)), (N "actual", .list (ys.map enc)), (N "missing", .raw (.ref a1)), (N "unexpected", .raw (.ref a2))]
noncomputable abbrev sldM (enc : α -> D) (xs ys : List α) (a1 a2 i j : Nat) : Mut := [(a1, (lack (xs.take i) ys).map enc), (a2, (lack (ys.take j) xs).map enc)]
inductive SldI (enc : α -> D) (lt : α -> α -> Bool) (xs ys : List α) (a1 a2 n : Nat) (Γ' : Gam) (M' : Mut) : Prop
 | mk (i j : Nat) (hn : n = (xs.length - i) + (ys.length - j)) (sd : Side lt xs ys i j) (hs : Sub (sldG enc xs ys a1 a2 i j) Γ') (hp : M'.Perm (sldM enc xs ys a1 a2 i j))
inductive SldE (enc : α -> D) (lt : α -> α -> Bool) (xs ys : List α) (a1 a2 : Nat) (Γ' : Gam) (M' : Mut) : Prop
 | mk (i j : Nat) (sd : Side lt xs ys i j) (he : i = xs.length \/ j = ys.length) (hs : Sub (sldG enc xs ys a1 a2 i j) Γ') (hp : M'.Perm (sldM enc xs ys a1 a2 i j))
theorem sld_body (C : Cx ba mg mb) (O : Ord pg w ba enc ok lt) {ys : List α} (hxs : ∀ x ∈ xs, ok x) (hys : ∀ y ∈ ys, ok y) (sx : SortedBy lt xs) (sy : SortedBy lt ys) (zx : xs.length <= 500) (zy : ys.length <= 500) :
  Ef pg w ba true true 1 (fnScope (stmtAt 1)) [(N "expected", .list (xs.map enc)), (N "actual", .list (ys.map enc))] [] (fnBody (stmtAt 1))
   (fun o zz M' => ∃ (d : D) (M_1 : Mut), o = .ret d /\ M_1.Sublist M' /\ M_1.map (·.1) = ([] : Mut).map (·.1) /\ d = .tuple [.list ((lack xs ys).map enc), .list ((lack ys xs).map enc)]) (fun X d zz M' => ∃ M_1 : Mut, M_1.Sublist M' /\ M_1.map (·.1) = ([] : Mut).map (·.1) /\ False) := by
 conv => arg 10; whnf
 refine Ef.stm (P := fun Γ' M' => Γ' = [(N "j", eN 0), (N "i", eN 0), (N "expected", .list (xs.map enc)), (N "actual", .list (ys.map enc))] /\ M' = []) (Ex1.assign2 (d := eN 0) Ev.int (by kernel_rfl) (by kernel_rfl) ⟨rfl, rfl, rfl⟩) (fun zz zz zz a ha => nomatch ha) fun Γ' M' ⟨h1, h2⟩ => ?_
 subst h1 h2
 refine Ef.own (ds := []) EvN.nil fun a1 => ?_
 refine Ef.own (ds := []) EvN.nil fun a2 => ?_
 refine Ef.perm (M' := sldM enc xs ys a1 a2 0 0) (Ef.sub (Γ0 := sldG enc xs ys a1 a2 0 0) ?_ (by walk_at "v")) (List.Perm.swap _ _ _)
 refine Ef.cons (R1 := fun o Γ' M' => o = .next /\ Sub [(N "missing", .raw (.ref a1)), (N "unexpected", .raw (.ref a2))] Γ' /\ M'.Perm [(a1, (lack xs ys).map enc), (a2, (lack ys xs).map enc)]) (RE1 := fun zz zz zz zz => False) ?_ ?_ (fun zz zz zz zz h => h.elim)
 ·refine Ef1.while (RXE := fun zz zz zz zz => True) (SldI enc lt xs ys a1 a2) (fun n Γ' M' hI => ?_) _ ⟨0, 0, rfl, Side.zero xs ys, Sub.refl _, List.Perm.refl _⟩
  refine ⟨fun b M'' => b = true /\ M'' = M', Tr.y (b := true) (Tr.val Ev.bool truth_bool) ⟨rfl, rfl⟩, fun M'' h => ?_, (fun M'' h => by cases h.1)⟩
  obtain ⟨_, rfl⟩ := h
  obtain ⟨i, j, hn, sd, hsub, hperm⟩ := hI
  refine Ef.perm (Ef.sub (Γ0 := sldG enc xs ys a1 a2 i j) ?_ hsub) hperm.symm
  have hi := sd.hi
  have hj := sd.hj
  refine Ef.one (Ef1.tryExcept excCls_IndexError (c_1 := false) (R1 := fun o Γ' M' => o = .next /\ ∃ m, m < n /\ SldI enc lt xs ys a1 a2 m Γ' M')
   (RE1 := fun X d Γ' M' => X = "IndexError" /\ SldE enc lt xs ys a1 a2 Γ' M') ?_ (fun o Γ' M' h => ?_) (fun Γ' => Ev.bn C) (fun X d Γ' M' h => ⟨h.1, ?_⟩))
  ·skip
   refine Ef.cons (R1 := fun o Γ' M' => o = .next /\ ∃ x, xs[i]? = some x /\ Γ' = (N "e", enc x) :: sldG enc xs ys a1 a2 i j /\ M' = sldM enc xs ys a1 a2 i j) (RE1 := fun X d Γ' M' => X = "IndexError" /\ xs.length <= i /\ Γ' = sldG enc xs ys a1 a2 i j /\ M' = sldM enc xs ys a1 a2 i j)
    (Ef1.assign (RX := fun d M' => ∃ x, xs[i]? = some x /\ d = enc x /\ M' = sldM enc xs ys a1 a2 i j) (EvX.item (by intro h; cases h) (ds := xs.map enc) (i := i) (by walk_at "v") (by walk_at "v") (by simp; lia) (by lia) (fun d hd => ?_) (fun h d => ?_)) (by kernel_rfl) (fun d M' h => ?_) (fun X d M' h => h)) ?_ (fun X d Γ' M' h => ?_)
   ·rw [List.getElem?_map] at hd
    obtain ⟨z, hz, rfl⟩ := Option.map_eq_some_iff.1 hd
    exact ⟨z, hz, rfl, rfl⟩
   ·exact ⟨rfl, by simpa using h, rfl, rfl⟩
   ·obtain ⟨x, h1, rfl, rfl⟩ := h; exact ⟨rfl, x, h1, rfl, rfl⟩
   rotate_left
   ·obtain ⟨h1, h2, rfl, rfl⟩ := h
    exact ⟨h1, SldE.mk _ _ sd (.inl (by lia)) (Sub.refl _) (List.Perm.refl _)⟩
   rintro o Γ' M' ⟨rfl, x, hx, rfl, rfl⟩
   have hxi := (List.getElem?_eq_some_iff.1 hx).1
   have okx := hxs x (List.mem_of_getElem? hx)
   refine Ef.cons (R1 := fun o Γ' M' => o = .next /\ ∃ y, ys[j]? = some y /\ Γ' = (N "a", enc y) :: (N "e", enc x) :: sldG enc xs ys a1 a2 i j /\ M' = sldM enc xs ys a1 a2 i j) (RE1 := fun X d Γ' M' => X = "IndexError" /\ ys.length <= j /\ Γ' = (N "e", enc x) :: sldG enc xs ys a1 a2 i j /\ M' = sldM enc xs ys a1 a2 i j)
    (Ef1.assign (RX := fun d M' => ∃ y, ys[j]? = some y /\ d = enc y /\ M' = sldM enc xs ys a1 a2 i j) (EvX.item (by intro h; cases h) (ds := ys.map enc) (i := j) (by walk_at "v") (by walk_at "v") (by simp; lia) (by lia) (fun d hd => ?_) (fun h d => ?_)) (by kernel_rfl) (fun d M' h => ?_) (fun X d M' h => h)) ?_ (fun X d Γ' M' h => ?_)
   ·rw [List.getElem?_map] at hd
    obtain ⟨z, hz, rfl⟩ := Option.map_eq_some_iff.1 hd
    exact ⟨z, hz, rfl, rfl⟩
   ·exact ⟨rfl, by simpa using h, rfl, rfl⟩
   ·obtain ⟨y, h1, rfl, rfl⟩ := h; exact ⟨rfl, y, h1, rfl, rfl⟩
   rotate_left
   ·obtain ⟨h1, h2, rfl, rfl⟩ := h
    exact ⟨h1, SldE.mk _ _ sd (.inr (by lia)) (by walk_at "v") (List.Perm.refl _)⟩
   rintro o Γ' M' ⟨rfl, y, hy, rfl, rfl⟩
   have hyj := (List.getElem?_eq_some_iff.1 hy).1
   have oky := hys y (List.mem_of_getElem? hy)
   have inc : ∀ m : Nat, D.int ((m : Int) + 1) = eN (m + 1) := fun m => rfl
   have lk : ∀ {us vs : List α} {m : Nat}, us.length <= 500 -> (lack (us.take m) vs).length <= 500 := fun {us vs m} h => by
    have h1 := (lack_sub (us.take m) vs).length_le
    have h2 : (us.take m).length <= us.length := by rw [List.length_take]; lia
    lia
   refine Ef.one (Ef1.ife (RT := fun b M' => b = lt x y /\ M' = sldM enc xs ys a1 a2 i j) (RXE := fun zz zz zz => False) (Tr.y (Tr.cmp (by walk_at "v") (by walk_at "v") (O.lt_ true 1 x y okx oky) rfl) ⟨rfl, rfl⟩) (fun M' h => ?_) (fun M' h => ?_) (fun zz zz zz h => h.elim))
   ·
    obtain ⟨hlt, rfl⟩ := h
    obtain ⟨sd', hm⟩ := sd.left O.lin sx sy hx hy hlt.symm
    refine Ef.append (x := N "missing") (d := enc x) (by walk_at "v") (by walk_at "v") (sizeOk (by have := lk (vs := ys) (m := i) zx; simp; lia)) ?_
    refine Ef.augInt (x := N "i") (a := i) (b := 1) (by walk_at "v") Ev.int (by kernel_rfl) (by kernel_rfl) ?_
    rw [inc]
    have hM : ∀ {M' : Mut}, M' = (a1, (lack (xs.take i) ys).map enc ++ [enc x]) :: [(a2, (lack (ys.take j) xs).map enc)] -> M'.Perm (sldM enc xs ys a1 a2 (i + 1) j) := fun {M'} e => by
     rw [e]
     show List.Perm _ [(a1, (lack (xs.take (i + 1)) ys).map enc), _]
     rw [hm, List.map_append]
     exact List.Perm.refl _
    refine Ef.one (Ef1.mono (ne_while O (by intro h; cases h) (zs := xs) (n := i + 1) (x := x) (by walk_at "v") (by walk_at "v") (by walk_at "v") (by kernel_rfl) (by kernel_rfl) (by kernel_rfl) hxs okx (by lia) (by lia) (fun z hz => next_ne O.lin sx hx hz)) (fun o Γ' M' h => ?_) (fun X d Γ' M' h => ?_))
    ·obtain ⟨rfl, rfl, h⟩ := h
     exact ⟨rfl, _, by lia, i + 1, j, rfl, sd', by walk_at "v", hM h⟩
    ·obtain ⟨rfl, hl, rfl, h⟩ := h
     exact ⟨rfl, SldE.mk _ _ sd' (.inl (by have := sd'.hi; lia)) (by walk_at "v") (hM h)⟩
   obtain ⟨hnlt, rfl⟩ := h
   refine Ef.one (Ef1.ife (RT := fun b M' => b = lt y x /\ M' = sldM enc xs ys a1 a2 i j) (RXE := fun zz zz zz => False) (Tr.y (Tr.cmp (by walk_at "v") (by walk_at "v") (O.gt_ true 1 x y okx oky) rfl) ⟨rfl, rfl⟩) (fun M' h => ?_) (fun M' h => ?_) (fun zz zz zz h => h.elim))
   ·
    obtain ⟨hlt, rfl⟩ := h
    obtain ⟨sd'', hm⟩ := sd.swap.left O.lin sy sx hy hx hlt.symm
    have sd' := sd''.swap
    refine Ef.perm (M' := [(a2, (lack (ys.take j) xs).map enc), (a1, (lack (xs.take i) ys).map enc)]) ?_ (List.Perm.swap _ _ _)
    refine Ef.append (x := N "unexpected") (d := enc y) (by walk_at "v") (by walk_at "v") (sizeOk (by have := lk (vs := xs) (m := j) zy; simp; lia)) ?_
    refine Ef.augInt (x := N "j") (a := j) (b := 1) (by walk_at "v") Ev.int (by kernel_rfl) (by kernel_rfl) ?_
    rw [inc]
    have hM : ∀ {M' : Mut}, M' = (a2, (lack (ys.take j) xs).map enc ++ [enc y]) :: [(a1, (lack (xs.take i) ys).map enc)] -> M'.Perm (sldM enc xs ys a1 a2 i (j + 1)) := fun {M'} e => by
     rw [e]
     show List.Perm _ [_, (a2, (lack (ys.take (j + 1)) xs).map enc)]
     rw [hm, List.map_append]
     exact List.Perm.swap _ _ _
    refine Ef.one (Ef1.mono (ne_while O (by intro h; cases h) (zs := ys) (n := j + 1) (x := y) (by walk_at "v") (by walk_at "v") (by walk_at "v") (by kernel_rfl) (by kernel_rfl) (by kernel_rfl) hys oky (by lia) (by lia) (fun z hz => next_ne O.lin sy hy hz)) (fun o Γ' M' h => ?_) (fun X d Γ' M' h => ?_))
    ·obtain ⟨rfl, rfl, h⟩ := h
     exact ⟨rfl, _, by lia, i, j + 1, rfl, sd', by walk_at "v", hM h⟩
    ·obtain ⟨rfl, hl, rfl, h⟩ := h
     exact ⟨rfl, SldE.mk _ _ sd' (.inr (by have := sd'.hj; lia)) (by walk_at "v") (hM h)⟩
   ·
    obtain ⟨hngt, rfl⟩ := h
    have hxy : x = y := Decidable.byContradiction fun hne => by
     rcases O.lin.tri x y okx oky hne with h | h
     ·rw [h] at hnlt; cases hnlt
     ·rw [h] at hngt; cases hngt
    subst hxy
    obtain ⟨sd', hm, hm'⟩ := sd.both O.lin sx sy hx hy
    have hM : (sldM enc xs ys a1 a2 i j).Perm (sldM enc xs ys a1 a2 (i + 1) (j + 1)) := by
     show List.Perm _ [(a1, (lack (xs.take (i + 1)) ys).map enc), (a2, (lack (ys.take (j + 1)) xs).map enc)]
     rw [hm, hm']
    refine Ef.augInt (x := N "i") (a := i) (b := 1) (by walk_at "v") Ev.int (by kernel_rfl) (by kernel_rfl) ?_
    rw [inc]
    refine Ef.one (Ef1.tryFinally (Ef.one (ne_while O (by intro h; rfl) (zs := xs) (n := i + 1) (x := x) (by walk_at "v") (by walk_at "v") (by walk_at "v") (by kernel_rfl) (by kernel_rfl) (by kernel_rfl) hxs okx (by lia) (by lia) (fun z hz => next_ne O.lin sx hx hz))) (fun o Γ' M' h => ?_) (fun X d Γ' M' h => ?_))
    ·obtain ⟨rfl, rfl, rfl⟩ := h
     refine ⟨rfl, ?_⟩
     refine Ef.augInt (x := N "j") (a := j) (b := 1) (by walk_at "v") Ev.int (by kernel_rfl) (by kernel_rfl) ?_
     rw [inc]
     refine Ef.one (Ef1.mono (ne_while O (by intro h; cases h) (zs := ys) (n := j + 1) (x := x) (by walk_at "v") (by walk_at "v") (by walk_at "v") (by kernel_rfl) (by kernel_rfl) (by kernel_rfl) hys oky (by lia) (by lia) (fun z hz => next_ne O.lin sy hy hz)) (fun o Γ' M' h => ?_) (fun X d Γ' M' h => ?_))
     ·obtain ⟨rfl, rfl, rfl⟩ := h
      exact ⟨rfl, rfl, _, by lia, i + 1, j + 1, rfl, sd', by walk_at "v", hM⟩
     ·obtain ⟨rfl, hl, rfl, rfl⟩ := h
      exact ⟨rfl, SldE.mk _ _ sd' (.inr (by have := sd'.hj; lia)) (by walk_at "v") hM⟩
    ·obtain ⟨rfl, hl1, rfl, rfl⟩ := h
     refine Ef.augInt (x := N "j") (a := j) (b := 1) (by walk_at "v") Ev.int (by kernel_rfl) (by kernel_rfl) ?_
     rw [inc]
     refine Ef.one (Ef1.mono (ne_while O (by intro h; cases h) (zs := ys) (n := j + 1) (x := x) (by walk_at "v") (by walk_at "v") (by walk_at "v") (by kernel_rfl) (by kernel_rfl) (by kernel_rfl) hys oky (by lia) (by lia) (fun z hz => next_ne O.lin sy hy hz)) (fun o Γ' M' h => ?_) (fun X d Γ' M' h => ?_))
     ·obtain ⟨rfl, rfl, rfl⟩ := h
      exact ⟨rfl, rfl, SldE.mk _ _ sd' (.inl (by have := sd'.hi; lia)) (by walk_at "v") hM⟩
     ·obtain ⟨rfl, hl, rfl, rfl⟩ := h
      exact ⟨rfl, SldE.mk _ _ sd' (.inr (by have := sd'.hj; lia)) (by walk_at "v") hM⟩
  ·obtain ⟨rfl, h⟩ := h; exact h
  ·obtain ⟨i, j, sd, hend, hsub, hperm⟩ := h.2
   have lk : ∀ {us vs : List α} {m : Nat}, us.length <= 500 -> (lack (us.take m) vs).length <= 500 := fun {us vs m} h => by
    have h1 := (lack_sub (us.take m) vs).length_le
    have h2 : (us.take m).length <= us.length := by rw [List.length_take]; lia
    lia
   refine Ex.perm (M' := sldM enc xs ys a1 a2 i j) (Ex.sub (Γ0 := sldG enc xs ys a1 a2 i j) ?_ hsub) hperm.symm
   refine Ex.extend (es := (xs.map enc).drop i) (by walk_at "v") (Ev.sub (d_1 := .list (xs.map enc)) (by walk_at "v") (Ev.slice (l := some (i : Int)) (.some (by walk_at "v")) .none .none) (item_from (by simp; exact sd.hi) (sizeOk (by simp; lia)))) (by have := lk (vs := ys) (m := i) zx; simp; lia) ?_ (by kernel_rfl)
   refine Ex.perm (M' := [(a2, (lack (ys.take j) xs).map enc), (a1, (lack (xs.take i) ys).map enc ++ (xs.map enc).drop i)]) ?_ (List.Perm.swap _ _ _)
   refine Ex.extend (es := (ys.map enc).drop j) (by walk_at "v") (Ev.sub (d_1 := .list (ys.map enc)) (by walk_at "v") (Ev.slice (l := some (j : Int)) (.some (by walk_at "v")) .none .none) (item_from (by simp; exact sd.hj) (sizeOk (by simp; lia)))) (by have := lk (vs := xs) (m := j) zy; simp; lia) ?_ (by kernel_rfl)
   refine Ex.brk ⟨⟨rfl, by walk_at "v", ?_⟩, fun a ha => ?_⟩
   ·rw [<- List.map_drop, <- List.map_drop, <- List.map_append, <- List.map_append, sd.done O.lin hend, sd.swap.done O.lin hend.symm]
    exact List.Perm.swap _ _ _
   ·have := (hperm.map (·.1)).mem_iff.1 ha
    simpa [or_comm] using this
 ·rintro o Γ' M' ⟨rfl, hsub, hperm⟩
  refine Ef.perm (Ef.sub (Γ0 := [(N "missing", .raw (.ref a1)), (N "unexpected", .raw (.ref a2))]) ?_ hsub) hperm.symm
  refine Ef.freeze (x := N "missing") (by walk_at "v") ?_
  refine Ef.freeze (x := N "unexpected") (by walk_at "v") ?_
  refine Ef.one (Ef1.ret (RX := fun d M' => d = .tuple [.list ((lack xs ys).map enc), .list ((lack ys xs).map enc)] /\ M' = []) (RXE := fun zz zz zz => False) (Ev.y (Ev.tuple (.cons (by walk_at "v") (.cons (by walk_at "v") .nil)) (sizeOk (by simp))) ⟨rfl, rfl⟩) (fun d M' h => ⟨d, [], rfl, List.nil_sublist _, rfl, h.1⟩) (fun zz zz zz h => h.elim))
end
end
section
noncomputable def posOk (st : Stmt) (ns : List Str) : Prop := ∀ (vs : List Value) pm code doc, vs.length = ns.length -> bindArgs (docDef (fnName st) (fnParams st) (fnBody st) (fnScope st) pm code doc) ⟨vs, []⟩ = pure (ns.zip vs)
theorem listS : ∀ {l : List α}, l.length = n + 1 -> ∃ a t, l = a :: t /\ t.length = n
 | a :: t, h => ⟨a, t, rfl, Nat.succ.inj h⟩
theorem list0 {l : List α} (h : l.length = 0) : l = [] := List.length_eq_zero_iff.1 h
theorem posOk1 {st : Stmt} {x0 : Str} (h : ∀ v0 pm code doc, bindArgs (docDef (fnName st) (fnParams st) (fnBody st) (fnScope st) pm code doc) ⟨[v0], []⟩ = pure ([x0].zip [v0])) : posOk st [x0] := fun vs pm code doc hl => by
 obtain ⟨v0, l0, rfl, h0⟩ := listS hl
 obtain rfl := list0 h0
 exact h v0 pm code doc
theorem posOk2 {st : Stmt} {x0 x1 : Str} (h : ∀ v0 v1 pm code doc, bindArgs (docDef (fnName st) (fnParams st) (fnBody st) (fnScope st) pm code doc) ⟨[v0, v1], []⟩ = pure ([x0, x1].zip [v0, v1])) : posOk st [x0, x1] := fun vs pm code doc hl => by
 obtain ⟨v0, l0, rfl, h0⟩ := listS hl
 obtain ⟨v1, l1, rfl, h1⟩ := listS h0
 obtain rfl := list0 h1
 exact h v0 v1 pm code doc
theorem posOk3 {st : Stmt} {x0 x1 x2 : Str} (h : ∀ v0 v1 v2 pm code doc, bindArgs (docDef (fnName st) (fnParams st) (fnBody st) (fnScope st) pm code doc) ⟨[v0, v1, v2], []⟩ = pure ([x0, x1, x2].zip [v0, v1, v2])) : posOk st [x0, x1, x2] := fun vs pm code doc hl => by
 obtain ⟨v0, l0, rfl, h0⟩ := listS hl
 obtain ⟨v1, l1, rfl, h1⟩ := listS h0
 obtain ⟨v2, l2, rfl, h2⟩ := listS h1
 obtain rfl := list0 h2
 exact h v0 v1 v2 pm code doc
theorem posOk5 {st : Stmt} {x0 x1 x2 x3 x4 : Str} (h : ∀ v0 v1 v2 v3 v4 pm code doc, bindArgs (docDef (fnName st) (fnParams st) (fnBody st) (fnScope st) pm code doc) ⟨[v0, v1, v2, v3, v4], []⟩ = pure ([x0, x1, x2, x3, x4].zip [v0, v1, v2, v3, v4])) : posOk st [x0, x1, x2, x3, x4] := fun vs pm code doc hl => by
 obtain ⟨v0, l0, rfl, h0⟩ := listS hl
 obtain ⟨v1, l1, rfl, h1⟩ := listS h0
 obtain ⟨v2, l2, rfl, h2⟩ := listS h1
 obtain ⟨v3, l3, rfl, h3⟩ := listS h2
 obtain ⟨v4, l4, rfl, h4⟩ := listS h3
 obtain rfl := list0 h4
 exact h v0 v1 v2 v3 v4 pm code doc
theorem posOk_1 : posOk (stmtAt 1) [N "expected", N "actual"] := posOk2 fun zz zz zz zz zz => rfl
section
theorem fnX_of_body (C : Cx ba mg mb) {st : Stmt} (hf : FnG ba mg st a) {ns : List Str} {R : D -> Mut -> Prop} {RE : String -> D -> Mut -> Prop}
  (hok : fnOk ns (fnScope st) = true) (hp : posOk st ns) (hl : ds.length = ns.length)
  (h : Ef pg w ba true true k (fnScope st) (ns.zip ds) M (fnBody st) (fun o zz M' => ∃ (d : D) (M_1 : Mut), o = .ret d /\ M_1.Sublist M' /\ M_1.map (·.1) = M.map (·.1) /\ R d M_1) (fun X d zz M' => ∃ M_1 : Mut, M_1.Sublist M' /\ M_1.map (·.1) = M.map (·.1) /\ RE X d M_1)) : FunX pg w ba (k + 1) (fun vs => call (.ref a) vs) ds M R RE :=
 fun_of_bodyX C.L hf.fn hok (fun vs pm code doc hv => hp vs pm code doc (hv.trans hl)) h
theorem FunX.up {f : List Value -> Sem Value} {k' : Nat} {R : D -> Mut -> Prop} {RE : String -> D -> Mut -> Prop} (h : FunX pg w ba k f ds M R RE) (hk : k <= k') : FunX pg w ba k' f ds M R RE := fun s X vs A Q E Rm => h s X vs A Q E (Rm.mono hk)
theorem ThenE.fireN {tk : Nat} {cls : String} {e : Addr} (TE : ThenE ba B U M s c RE E) (S : St ba B U Γ M s.heap) (F : Heap.NewExc s.heap h' e cls) (r : ∀ d, RE cls d Γ M) : E (.ref e) { s with heap := h', toks := tk } := by
 obtain ⟨ob, t, he, hc, hd⟩ := F.there
 have S' : St ba ([e] ++ B) U Γ M h' := S.addB F.keeps F.new ⟨_, he⟩
 exact TE (.ref e) cls t (.raw t) [e] h' tk Γ M ⟨⟨e, _, _, rfl, F.new, jS.2 rfl, he, hc, hd, rfl, (fun zz => rfl), .inl ⟨rfl, rfl⟩⟩, fun z hz => by rw [jS.1 hz]; exact F.new⟩ (.raw t) S' (Ext.offW F.keeps) (Grow.refl _ _) (r _)
theorem TrX.own {RT : Bool -> Mut -> Prop} {RXE : String -> D -> Mut -> Prop} (hx : Γ.lookup x = some (.raw (.ref a))) (hm : (a, ds) ∈ M) (hsz : ds.length <= 100000) (hr : RT (!ds.isEmpty) M) (hn : (x == ("__debug__" : Str) || x == ("__classdict__" : Str)) = false) :
  TrX pg w ba q c k sc Γ M (.Name x pos) RT RXE := by
 intro U s B A Q E G S Rm Ar hQ TE
 show wpAny _ _ (do let v <- eval (.Name x pos) U; standAt pos; holding [v] (truthy v)) _ _ _
 refine jB ((Ev.var hx hn U s B M G S).bindR Rm fun g t e => jB (wpAny_standAt (wpAny_holding ?_)))
 obtain ⟨vs, n, ha, as⟩ := ((S.ext e).muts _ hm).at_
 have hz : vs.size = ds.length := size_of_ats as
 refine wpAny_truthy_list (isList_of ha) (by lia) ?_
 rw [isEmpty_of_ats as]
 exact hQ _ g _ M rfl (S.ext e) e.offW hr
theorem EvX.pop {apos : Pos} {RX : D -> Mut -> Prop} {RXE : String -> D -> Mut -> Prop} (hx : Γ.lookup x = some (.raw (.ref a))) (hsz : ds.length + 1 <= 100000) (hr : RX d ((a, ds) :: M))
  (hn : (x == ("__debug__" : Str) || x == ("__classdict__" : Str)) = false) (hline : autoParam ((apos.endLine == pos.line) = true) tA)
  (hbase : autoParam (∀ U, attributeBase (.Name x px) "pop" U (eval (.Name x px) U) = eval (.Name x px) U) tA) :
  EvX pg w ba q c k sc Γ ((a, ds ++ [d]) :: M) (.Call (.Attribute (.Name x px) "pop" apos) [] [] pos) RX RXE := by
 intro U s B A Q E G S Rm Ar hQ TE
 refine wpAny_Call_method0_late (hbase U) hline ((Ev.var hx hn U s B _ G S).bindR Rm fun g t e' => ?_)
 obtain ⟨vs, n, ha, as⟩ := ((S.ext e').muts _ jC).at_
 have hz : vs.size = ds.length + 1 := by have := size_of_ats as; simpa using this
 obtain ⟨y, hy, ay⟩ := as.get (k := ds.length) (d := d) (by simp)
 have hy' : vs[vs.size - 1]? = some y := by rw [hz]; simpa using hy
 refine ⟨"list", "list.pop", F.plainAttrs_list, F.slot_list_pop, F.type_list_pop, ⟨_, ha, rfl⟩, fun b hb => by cases hb; exact ⟨_, ha, rfl⟩, P.pop_list ha hy' ?_ (by rw [sizeLine_eq]; lia)⟩
 have hup := Heap.get?_update_self (Obj.mapSeq fun xs => xs.eraseIdxIfInBounds (vs.size - 1)) ha rfl
 have o : Off [a] g (g.update a (Obj.mapSeq fun xs => xs.eraseIdxIfInBounds (vs.size - 1))) := same_off (Heap.SameBut.update ..)
 have S2 := S.ext e'
 have offX : Off (B ++ Mine.own U ((a, ds ++ [d]) :: M)) g (g.update a (Obj.mapSeq fun xs => xs.eraseIdxIfInBounds (vs.size - 1))) := o.mono fun y hy => by rw [jS.1 hy]; exact own_cons.2 (.inl rfl)
 have hl : (vs.eraseIdxIfInBounds (vs.size - 1)).toList = vs.toList.take ds.length := by
  have hlt : vs.size - 1 < vs.size := by lia
  rw [Array.eraseIdxIfInBounds, dif_pos hlt, Array.toList_eraseIdx, List.eraseIdx_eq_take_drop_succ, show vs.size - 1 + 1 = vs.toList.length by simp; lia, List.drop_length, List.append_nil, hz]; rfl
 have S3 := S2.setM (ds' := ds) (vs := vs.eraseIdxIfInBounds (vs.size - 1)) (n := if (vs.eraseIdxIfInBounds (vs.size - 1)).size == vs.size then n else n + 1) o hup (by
  rw [hl]
  have := (as.off offX).take ds.length
  simpa using this)
 have ow : OffW (((a, ds ++ [d]) :: M).map (·.1)) s.heap (g.update a (Obj.mapSeq fun xs => xs.eraseIdxIfInBounds (vs.size - 1))) := e'.offW.trans ((o.offW (fun b hb ob eo => by rw [jS.1 hb]; exact ⟨_, hup⟩) fun b hb ob eo => by rw [jS.1 hb, ha] at eo; cases eo; exact notTab_list _ _).mono fun y hy => by rw [jS.1 hy]; exact jC)
 exact hQ y d _ _ ((a, ds) :: M) rfl (ay.off offX) S3 ow hr
theorem eq_words {xs : List (List Bool)} {x : List Bool} {t : Tok} : ∀ {vs : List Value}, Ats X h vs (xs.map eW) -> ∃ e : Value -> Bool, (∀ y, y ∈ vs.toArray -> MeetsSeq.EqGives y (.str (strOf x) t) (e y)) /\ ∀ (m : Nat) (hm : m < vs.length) (hm' : m < xs.length), e vs[m] = decide (xs[m] = x) := by
 intro vs as
 refine ⟨fun y => match y with | .str s _ => s == strOf x | _ => false, fun y hy => ?_, fun m hm hm' => ?_⟩
 ·obtain ⟨m, hm, e⟩ := List.getElem_of_mem (List.mem_toArray.1 hy)
  obtain ⟨d, hd, av⟩ := as.get' (k := m) (v := y) (by rw [List.getElem?_eq_getElem hm, e])
  rw [List.getElem?_map] at hd
  obtain ⟨z, hz, rfl⟩ := Option.map_eq_some_iff.1 hd
  obtain ⟨u, rfl⟩ := av.str_
  exact PyProof.Rows.eqGives_str _ _ _ _
 ·obtain ⟨d, hd, av⟩ := as.get' (k := m) (v := vs[m]) (List.getElem?_eq_getElem hm)
  rw [List.getElem?_map, List.getElem?_eq_getElem hm'] at hd
  cases hd
  obtain ⟨u, hu⟩ := av.str_
  rw [hu]
  show (strOf xs[m] == strOf x) = _
  rw [Bool.eq_iff_iff]
  simp only [beq_iff_eq, decide_eq_true_eq]
  constructor
  ·intro e
   have h1 : (xs[m].map fun b => if b then 49 else 48).toArray = (x.map fun b => if b then 49 else 48).toArray := congrArg Str.cps e
   have h2 : (xs[m].map fun b => if b then (49 : Nat) else 48) = (x.map fun b => if b then 49 else 48) := by simpa using h1
   refine List.map_inj_right (f := fun b : Bool => if b then (49 : Nat) else 48) ?_ |>.1 h2
   intro a b; cases a <;> cases b <;> simp
  ·intro e; rw [e]
end
end
section
section
theorem EvX.remove {apos : Pos} {ys : List (List Bool)} {z : List Bool} {RX : D -> Mut -> Prop} {RXE : String -> D -> Mut -> Prop} (hx : Γ.lookup x = some (.raw (.ref a))) (he : Ev pg w ba true k sc Γ e (eW z)) (hsz : ys.length <= 100000)
  (hr : z ∈ ys -> RX .none ((a, (ys.erase z).map eW) :: M)) (hre : z ∉ ys -> ∀ d, RXE "ValueError" d ((a, ys.map eW) :: M))
  (hn : (x == ("__debug__" : Str) || x == ("__classdict__" : Str)) = false) (hline : autoParam ((apos.endLine == pos.line) = true) tA) (htrees : autoParam (∀ U, backTo pos (starEach [e] U) = [(false, eval e U)]) tA)
  (hbase : autoParam (∀ U, attributeBase (.Name x px) "remove" U (eval (.Name x px) U) = eval (.Name x px) U) tA) :
  EvX pg w ba true c k sc Γ ((a, ys.map eW) :: M) (.Call (.Attribute (.Name x px) "remove" apos) [e] [] pos) RX RXE := by
 intro U s B A Q E G S Rm Ar hQ TE
 refine wpAny_Call_method1_late (hbase U) hline (htrees U) ((Ev.var hx hn U s B _ G S).bindR Rm fun g t e' => ?_)
 obtain ⟨vs, n, ha, as⟩ := ((S.ext e').muts _ jC).at_
 refine ⟨"list", "list.remove", F.plainAttrs_list, F.slot_list_remove, F.type_list_remove, ⟨_, ha, rfl⟩, fun b hb => by cases hb; exact ⟨_, ha, rfl⟩, ?_⟩
 have S1 := S.ext e'
 by_cases hz : z ∈ ys
 ·refine P.remove_list ((he U _ B _ G S1).bind Rm fun u g' t' e'' au => ?_)
  obtain ⟨tk, rfl⟩ := au.str_
  have S2 := S1.ext e''
  have ha' := e'' _ _ ha
  have as' := as.ext e''
  obtain ⟨f, hf, hm⟩ := eq_words (x := z) (t := tk) as'
  have hl : vs.size = ys.length := by have := size_of_ats as; simpa using this
  have hj := List.idxOf_lt_length_of_mem hz
  have hjv : ys.idxOf z < vs.size := by lia
  refine ⟨vs, n, f, ys.idxOf z, hjv, by rw [sizeLine_eq]; lia, ha', by simpa using hf, ?_, fun m hm1 hm2 => ?_, ?_⟩
  ·have := hm (ys.idxOf z) (by simpa using hjv) hj
   simp only [Array.getElem_toList] at this
   rw [this, decide_eq_true_iff]
   exact List.getElem_idxOf hj
  ·have := hm m (by simpa using hm1) (by lia)
   simp only [Array.getElem_toList] at this
   rw [this, decide_eq_false_iff_not]
   intro hq
   have h2 := List.not_of_lt_findIdx (p := fun y => y == z) (xs := ys) hm2
   rw [hq] at h2; simp at h2
  ·have hup := Heap.get?_update_self (Obj.mapSeq fun xs => xs.eraseIdxIfInBounds (ys.idxOf z)) ha' rfl
   have o : Off [a] g' (g'.update a (Obj.mapSeq fun xs => xs.eraseIdxIfInBounds (ys.idxOf z))) := same_off (Heap.SameBut.update ..)
   have offX : Off (B ++ Mine.own U ((a, ys.map eW) :: M)) g' (g'.update a (Obj.mapSeq fun xs => xs.eraseIdxIfInBounds (ys.idxOf z))) := o.mono fun y hy => by rw [jS.1 hy]; exact own_cons.2 (.inl rfl)
   have hl : (vs.eraseIdxIfInBounds (ys.idxOf z)).toList = vs.toList.take (ys.idxOf z) ++ vs.toList.drop (ys.idxOf z + 1) := by
    rw [Array.eraseIdxIfInBounds, dif_pos hjv, Array.toList_eraseIdx, List.eraseIdx_eq_take_drop_succ]
   have S3 := S2.setM (ds' := (ys.erase z).map eW) (vs := vs.eraseIdxIfInBounds (ys.idxOf z)) (n := if (vs.eraseIdxIfInBounds (ys.idxOf z)).size == vs.size then n else n + 1) o hup (by
    rw [hl]
    have h1 := ((as'.off offX).take (ys.idxOf z)).append ((as'.off offX).drop (ys.idxOf z + 1))
    have h2 : (ys.erase z).map eW = (ys.map eW).take (ys.idxOf z) ++ (ys.map eW).drop (ys.idxOf z + 1) := by
     have h3 : ys.erase z = ys.eraseIdx (ys.idxOf z) := List.erase_eq_eraseIdx_of_idxOf rfl
     rw [<- List.map_take, <- List.map_drop, <- List.map_append, h3, List.eraseIdx_eq_take_drop_succ]
    rw [h2]; exact h1)
   have ow : OffW (((a, ys.map eW) :: M).map (·.1)) s.heap (g'.update a (Obj.mapSeq fun xs => xs.eraseIdxIfInBounds (ys.idxOf z))) := (e'.trans e'').offW.trans ((o.offW (fun b hb ob eo => by rw [jS.1 hb]; exact ⟨_, hup⟩) fun b hb ob eo => by (have eo2 := eo; rw [jS.1 hb] at eo2; have ha2 : g'.get? a = _ := ha'; rw [ha2] at eo2; cases eo2; exact notTab_list _ _)).mono fun y hy => by rw [jS.1 hy]; exact jC)
   exact hQ .none .none _ _ ((a, (ys.erase z).map eW) :: M) rfl .none S3 ow (hr hz)
 ·refine seqMethod1_meets F.slot_list_remove F.entry_list_remove ((he U _ B _ G S1).bind Rm fun u g' t' e'' au => ?_)
  obtain ⟨tk, rfl⟩ := au.str_
  have S2 := S1.ext e''
  have ha' := e'' _ _ ha
  have as' := as.ext e''
  obtain ⟨f, hf, hm⟩ := eq_words (x := z) (t := tk) as'
  have hl : vs.size = ys.length := by have := size_of_ats as; simpa using this
  refine ⟨⟨_, ha', rfl⟩, F.args_list_remove_2 _ _, _, MeetsSeq.list_remove_none a vs n _ f (by simpa using hf) (fun m hm1 => ?_), ha', Rm.hd rfl, fun h' tk' x F => ?_⟩
  ·have := hm m (by simpa using hm1) (by lia)
   simp only [Array.getElem_toList] at this
   rw [this, decide_eq_false_iff_not]
   intro hq
   exact hz (hq ▸ List.getElem_mem _)
  ·exact ThenE.fireN (s := ({ s with heap := g', toks := t' } : Shared)) (TE.step (tk := t') (e'.trans e'').offW (Grow.refl _ _)) S2 F fun d => ⟨rfl, rfl, hre hz d⟩
end
end
section
theorem OffW.fresh (o : OffW (Z ++ X) h h') (hz : ∀ z ∈ Z, h.get? z = .none) : OffW X h h' := ⟨o.tab, fun b ob e => by
 obtain ⟨o', e', s⟩ := o.at_ b ob e
 refine ⟨o', e', fun hx => s fun hm => ?_⟩
 rcases jA.1 hm with hm | hm
 ·rw [hz b hm] at e; cases e
 ·exact hx hm⟩
theorem Arr.off {X' Y : List Addr} (a : Arr A X h) (o : OffW Y h h') (hY : ∀ y ∈ Y, h.get? y = .none \/ ∃ vs n, h.get? y = some (listO vs n)) (hX : ∀ y ∈ X, y ∈ X') (hN : ∀ y ∈ X', (y ∉ X \/ y ∈ Y) -> ∀ o, h'.get? y = some o -> ¬ CodeK o) (hXl : ∀ y ∈ X, ∃ o, h.get? y = some o) : Arr A X' h' := by
 have soft : ∀ b ob, h.get? b = some ob -> (∀ vs n, ob ≠ listO vs n) -> ∃ ob', h'.get? b = some ob' /\ Soft ob ob' := fun b ob e hne => by
  obtain ⟨o', e', s⟩ := o.at_ b ob e
  refine ⟨o', e', s fun hm => ?_⟩
  rcases hY b hm with hn | ⟨vs, n, hn⟩
  ·rw [hn] at e; cases e
  ·rw [hn] at e; cases e; exact hne vs n rfl
 refine ⟨?_, ?_, ?_, ?_⟩
 ·obtain ⟨l, hl, hf⟩ := a.frames
  refine ⟨l, hl, fun e he => ?_⟩
  obtain ⟨hk, L, ob, es, ep, h1, h2, h3, h4⟩ := hf e he
  obtain ⟨o', e', s'⟩ := soft L ob h3 (fun vs n q => by rw [q] at h4; cases h4)
  exact ⟨hk, L, o', es, ep, h1, hX L h2, e', s'.dict h4⟩
 ·rcases a.handled with hn | ⟨e, oe, vs, T, h1, h2, h3, h4, h5, h6⟩
  ·exact .inl hn
  ·obtain ⟨o', e', s'⟩ := soft e oe h2 (fun vs n q => by rw [q] at h4; cases h4)
   have := soft_fields s' h4 h3
   subst this
   exact .inr ⟨e, o', vs, T, h1, e', h3, h4, h5, hX e h6⟩
 ·exact o.tab a.tab
 ·intro hh y hy o' e' k
  by_cases hyX : y ∈ X
  ·by_cases hyY : y ∈ Y
   ·exact hN y hy (.inr hyY) o' e' k
   ·obtain ⟨ob, eb⟩ := hXl y hyX
    obtain ⟨o2, e2, s2⟩ := o.at_ y ob eb
    rw [e'] at e2; cases e2
    exact a.nc hh y hyX ob eb ((s2 hyY).codeK k)
  ·exact hN y hy (.inl hyX) o' e' k
section
noncomputable def TrIX (pg : Program) (w : World) (ba : Heap) (k : Nat) (sc : Scope) (Γ : Gam) (M : Mut) (ifs : List Expr) (b : Bool) (M' : Mut) : Prop :=
 ∀ (U : Env) (s : Shared) (B : List Addr) (A : Around) (Q : Bool -> Shared -> Prop) (E : VP), EnvG sc U -> St ba B U Γ M s.heap -> Room true k A -> Arr A (B ++ own U M) s.heap ->
  (∀ h' tk, St ba B U Γ M' h' -> OffW (M.map (·.1)) s.heap h' -> Q b { s with heap := h', toks := tk }) -> wpAny (model pg w) A (ifsTree ifs U) Q E s
theorem TrIX.nil : TrIX pg w ba k sc Γ M [] true M := by
 intro U s B A Q E G S R Ar hQ
 exact jP (hQ s.heap s.toks S (OffW.refl _ _))
theorem TrIX.one {t : Expr} {b : Bool} {M' : Mut} (h : TrX pg w ba true true k sc Γ M t (fun b' M'' => b' = b /\ M'' = M') (fun zz zz zz => False)) : TrIX pg w ba k sc Γ M [t] b M' := by
 intro U s B A Q E G S R Ar hQ
 unfold ifsTree
 rw [List.forIn_cons]
 simp only [if_true]
 refine jB (jB (h U s B A _ E G S R Ar (fun b' h' tk M'' hm S' o r => jP ?_) (ThenE.never.imp fun X d Γ' M' r => r.2.2)))
 obtain ⟨rfl, rfl⟩ := r
 exact jP (hQ h' tk S' o)
structure CompOkX (pg : Program) (w : World) (ba : Heap) (k : Nat) (sc csc : Scope) (Γ Γ' : Gam) (M : Mut) (elt target : Expr) (ifs : List Expr) {α : Type} (enc : α -> D) (xs : List α) (p : α -> Bool) (f : α -> D) (ns : List Str) (bs : D -> Gam) (Ms Mt : Nat -> Mut) : Prop where
 ok : compOk csc sc = true
 see : SubC csc sc Γ' Γ
 names : ns.all (storable csc) = true
 bsn : ∀ d, (bs d).map (·.1) = ns
 tgt : ∀ x ∈ xs, As pg w ba true k (relab csc sc) target (enc x) (bs (enc x))
 m0 : Ms 0 = M
 ms : ∀ i, (Ms i).map (·.1) = M.map (·.1)
 mt : ∀ i, (Mt i).map (·.1) = M.map (·.1)
 tests : ∀ i x, xs[i]? = some x -> TrIX pg w ba k (relab csc sc) (bs (enc x) ++ Γ') (Ms i) ifs (p x) (Mt i)
 skip : ∀ i x, xs[i]? = some x -> p x = false -> Mt i = Ms (i + 1)
 elts : ∀ i x, xs[i]? = some x -> p x = true -> EvX pg w ba true true k (relab csc sc) (bs (enc x) ++ Γ') (Mt i) elt (fun d M' => d = f x /\ M' = Ms (i + 1)) (fun zz zz zz => False)
 size : xs.length <= sizeLine
theorem comp_coreX {ifs : List Expr} {p : α -> Bool} {f : α -> D} {ns : List Str} {bs : D -> Gam} {Ms Mt : Nat -> Mut} (O : CompOkX pg w ba k sc csc Γ Γ' M elt target ifs enc xs p f ns bs Ms Mt)
 (G : EnvG sc U) (S : St ba B U Γ M s.heap) (Rm : Room true k A) (Ar : Arr A (B ++ own U M) s.heap) {h_2 : Heap} {tk_2 : Nat} {I : Nat} (e_2 : Ext s.heap h_2) (hnI : s.heap.get? I = .none) (sr : Src pg w A (B ++ own U M) h_2 I (xs.map enc))
  {RR : Value -> Addr -> Result -> Shared -> Prop}
  (hRR : ∀ h' tk m, h'.Ns (h_2.objs.size + 1) m -> At ((h_2.objs.size + 1) :: (B ++ own U M)) h' (.ref h_2.objs.size) (.list ((xs.filter p).map f)) -> St ba ((h_2.objs.size + 1) :: B) U Γ (Ms xs.length) h' -> OffW (M.map (·.1)) s.heap h' -> RR (.ref h_2.objs.size) (h_2.objs.size + 1) (.ok .next) { s with heap := h', toks := tk }) :
  wpAny (model pg w) A (newList []) (fun acc s3 => wpAny (model pg w) A (newFunctionEnv csc U.globals (clOf U csc.names []) [] U.qual .none .none (some U)) (fun cenv s4 =>
   codeAny (model pg w) A (.compStart (.ListComp elt [⟨target, iter, ifs, 0⟩] csc pos) 0 (.ref I) acc { cenv with scope := relabel csc U }) (RR acc cenv.locals) s4) E s3) E ({ s with heap := h_2, toks := tk_2 } : Shared) := by
 have F := compFacts O.ok G
 obtain ⟨fp, P, St', W, st0, hfp, hval, hcls, hIfp, hHard⟩ := sr.src
 have hlI : ∃ o, h_2.get? I = some o := let ⟨_, o, ho, _⟩ := hcls 0 h_2 st0; ⟨o, ho⟩
 have S4 := S.comp G O.ok O.see e_2 hnI hlI
 have G4 := G.comp O.ok (h_2.objs.size + 1)
 have CO := h4_cells csc h_2
 refine wpAny_newObj_type (newEnv_comp ?_)
 show codeAny _ _ (.compStart _ 0 (.ref I) (.ref h_2.objs.size) (cEnv csc U (h3 h_2).objs.size)) (RR (.ref h_2.objs.size) (h3 h_2).objs.size) ({ s with heap := h4 csc h_2, toks := tk_2 } : Shared)
 rw [h3_size]
 have geC : ∀ a : Nat, a ∈ (cellsFrom (h_2.objs.size + 1 + 1) csc.names []).map (·.2) -> h_2.objs.size + 2 <= a := fun a ha => by obtain ⟨p, hp, rfl⟩ := jM.1 ha; exact (CO.empty p.1 p.2 hp).2
 have DC : @Eq Nat h_2.objs.size (h_2.objs.size + 1) -> False := fun h => by lia
 generalize hZ : h_2.objs.size :: I :: (h_2.objs.size + 1) :: (cellsFrom (h_2.objs.size + 1 + 1) csc.names []).map (·.2) = Z at *
 have hZold : ∀ b : Nat, b ∈ Z -> b = I \/ h_2.get? b = .none := fun b hb => by
  rw [<- hZ] at hb
  rcases jK.1 hb with h | hb
  ·exact .inr (none_of_le (Nat.le_of_eq (Eq.symm h)))
  ·rcases jK.1 hb with h | hb
   ·exact .inl h
   ·rcases jK.1 hb with h | hb
    ·have h : @Eq Nat b (h_2.objs.size + 1) := h
     exact .inr (none_of_le (by lia))
    ·exact .inr (none_of_le (by have := geC b hb; lia))
 have hZnew : ∀ b ∈ Z, s.heap.get? b = .none := fun b hb => by
  rcases hZold b hb with h | h
  ·rw [h]; exact hnI
  ·exact none_of_ext e_2 h
 have DZ : h_2.objs.size ∈ Z := by rw [<- hZ]; exact jC
 have IZ : I ∈ Z := by rw [<- hZ]; exact jT _ jC
 have CZ : h_2.objs.size + 1 ∈ Z := by rw [<- hZ]; exact jT _ (jT _ jC)
 have hIB' : I ∈ bC h_2.objs.size I B csc U := jT _ jC
 have hDB' : h_2.objs.size ∈ bC h_2.objs.size I B csc U := jC
 have ownMs : ∀ i, own (cEnv csc U (h_2.objs.size + 1)) (Ms i) = own (cEnv csc U (h_2.objs.size + 1)) M := fun i => own_congr (O.ms i)
 have ownMt : ∀ i, own (cEnv csc U (h_2.objs.size + 1)) (Mt i) = own (cEnv csc U (h_2.objs.size + 1)) M := fun i => own_congr (O.mt i)
 have mOwn : ∀ b ∈ M.map (·.1), b ∈ own (cEnv csc U (h_2.objs.size + 1)) M := fun b hb => muts_own b hb
 have hfpM : ∀ b ∈ fp, b ∉ M.map (·.1) := fun b hb hm => by
  by_cases hbI : b = I
  ·exact S4.bdis I hIB' (hbI ▸ mOwn b hm)
  ·exact (hfp b hb hbI).1 (jA.2 (.inr (muts_own b hm)))
 have frameW : ∀ {i : Nat} {h h' : Heap}, St' i h -> OffW (M.map (·.1)) h h' -> St' i h' := fun {i h h'} st o => W.frame _ _ _ st fun b hb ob e => o.hard (hfpM b hb) e ⟨(hHard b hb i h st ob e).1, (hHard b hb i h st ob e).2.1⟩
 have notI : ∀ i h', St' i h' -> ∀ {ob : Obj}, h'.get? I = some ob -> ¬ TabKind ob := fun i h' st ob e kd => (hHard I hIfp i h' st ob e).2.elim fun n1 n2 => kd.2.elim n1 n2
 have arr : ∀ {h' : Heap} {Γ1 : Gam} {M_1 : Mut} {vs : Array Value} {m i : Nat}, St ba (bC h_2.objs.size I B csc U) (cEnv csc U (h_2.objs.size + 1)) Γ1 M_1 h' -> M_1.map (·.1) = M.map (·.1) -> h'.get? h_2.objs.size = some (listO vs m) -> St' i h' -> OffW (Z ++ M.map (·.1)) h_2 h' -> Arr A (bC h_2.objs.size I B csc U ++ own (cEnv csc U (h_2.objs.size + 1)) M) h' := fun {h' Γ1 M_1 vs m i} S_1 hM1 hD sti o => Ar.off (e_2.offW.trans o) (fun y hy => by
   rcases jA.1 hy with hy | hy
   ·exact .inl (hZnew y hy)
   ·obtain ⟨pr, hp, rfl⟩ := jM.1 hy
    obtain ⟨vs, n, e, _⟩ := (S.muts pr hp).at_
    exact .inr ⟨vs, n, e⟩) (fun y hy => compX S F hy) (fun y hy hc o' e' k => by
   have ownO : y ∈ own (cEnv csc U (h_2.objs.size + 1)) M -> False := fun hO => notTab_own S_1 (by rw [own_congr hM1]; exact hO) e' ⟨k.1, .inr k.2⟩
   rcases jA.1 hy with hy | hy
   ·rcases jK.1 hy with h | hy
    ·rw [h, hD] at e'; cases e'; exact notTab_list _ _ ⟨k.1, .inr k.2⟩
    ·rcases jK.1 hy with h | hy
     ·exact notI i h' sti (h ▸ e') ⟨k.1, .inr k.2⟩
     ·have hyX : y ∈ B ++ own U M := by
       rcases jA.1 hy with h | h
       ·exact jA.2 (.inl h)
       ·exact jA.2 (.inr (mem_own.2 ((mem_restC.1 h).1.imp id .inl)))
      rcases hc with h | h
      ·exact h hyX
      ·rcases jA.1 h with h | h
       ·obtain ⟨o, x⟩ := S.allLive y hyX; rw [hZnew y h] at x; cases x
       ·exact ownO (muts_own y h)
   ·exact ownO hy) fun y hy => S.allLive y hy
 have o04 : OffW (Z ++ M.map (·.1)) h_2 (h4 csc h_2) := (h4_ext csc h_2).offW
 have loop : ∀ s3 : Shared, s3 = { s with heap := h4 csc h_2, toks := tk_2 } ->
   codeAny (model pg w) A (.compLoop (.ListComp elt [⟨target, iter, ifs, 0⟩] csc pos) 0 (.ref I) (.ref h_2.objs.size) (cEnv csc U (h_2.objs.size + 1))) (RR (.ref h_2.objs.size) (h_2.objs.size + 1)) s3 := by
  rintro s3 rfl
  refine comp_loop (fun n s' => LoopV s s' n xs.length fun i h' vs m => St' i h' /\ St ba (bC h_2.objs.size I B csc U) (cEnv csc U (h_2.objs.size + 1)) Γ' (Ms i) h' /\
   h'.get? h_2.objs.size = some (listO vs m) /\ Ats (bC h_2.objs.size I B csc U ++ own (cEnv csc U (h_2.objs.size + 1)) M) h' vs.toList (((xs.take i).filter p).map f) /\ OffW (Z ++ M.map (·.1)) h_2 h') ?_ (xs.length + 1)
   ⟨0, _, _, #[], 0, rfl, Nat.zero_le _, rfl, W.frame _ _ _ st0 fun b zz o e => h4_ext csc h_2 b o e, by rw [O.m0]; exact S4, h4_acc csc h_2, by simpa using Ats.nil, o04⟩
  intro n s' hI E'
  refine bc fun hn => ?_
  obtain ⟨i, h', tk, vs, m, rfl, hi, rfl, sti, Si, hacc, has, off⟩ := hI
  refine hn ?_
  by_cases hlt : i < xs.length
  ·have hmem : xs[i] ∈ xs := List.getElem_mem hlt
   have hxi : xs[i]? = some xs[i] := List.getElem?_eq_getElem hlt
   have hd : (xs.map enc)[i]? = some (enc xs[i]) := by simp [hlt]
   have htake : xs.take (i + 1) = xs.take i ++ [xs[i]] := by simp
   refine W.item i _ _ _ (by simpa using hlt) sti fun v h_3 tk_3 hP st_3 hk_3 => ?_
   have o3 : Off [I] h' h_3 := fun b o hb e => hk_3 b o hb e
   have live3 : ∃ T o, h_3.get? I = some o /\ o.cls = .type T /\ ownsTuples T = false := hcls (i + 1) h_3 st_3
   have live3' : ∃ o, h_3.get? I = some o := let ⟨_, o, ho, _⟩ := live3; ⟨o, ho⟩
   have S3 := Si.offMem hIB' o3 live3'
   refine letOwned_ok live3 ?_
   have w3 : OffW Z h' h_3 := (o3.offW (fun b hb ob e => by rw [jS.1 hb]; exact live3') fun b hb ob e => notI i h' sti (jS.1 hb ▸ e)).mono fun y hy => by rw [jS.1 hy]; exact IZ
   have off3 : OffW (Z ++ M.map (·.1)) h_2 h_3 := off.trans (w3.mono fun y hy => jA.2 (.inl hy))
   have av : At (bC h_2.objs.size I B csc U ++ own (cEnv csc U (h_2.objs.size + 1)) M) h_3 v (enc xs[i]) := by
    have a0 : At (I :: (B ++ own U M)) h_2 v (enc xs[i]) := hval i v _ hP hd
    refine a0.moveW fun (b : Nat) o hb hh ho => ?_
    have hbl : b < h_2.objs.size := Heap.lt_size ho
    have hnX : b ∉ bC h_2.objs.size I B csc U ++ own (cEnv csc U (h_2.objs.size + 1)) M := fun hm => by
     rcases compX' S F hm with h | h | h | h | h
     ·lia
     ·exact hb (h ▸ jC)
     ·lia
     ·have := geC b h; lia
     ·exact hb (jT _ h)
    refine ⟨hnX, off3.hard (fun hm => ?_) ho hh⟩
    rcases jA.1 hm with hm | hm
    ·rcases hZold b hm with h | h
     ·exact hb (h ▸ jC)
     ·rw [h] at ho; cases ho
    ·exact hb (jT _ (jA.2 (.inr (muts_own b hm))))
   have hX3 : ∀ {v : Value} {d : D} {h : Heap} {i : Nat}, At (bC h_2.objs.size I B csc U ++ own (cEnv csc U (h_2.objs.size + 1)) M) h v d -> At (bC h_2.objs.size I B csc U ++ own (cEnv csc U (h_2.objs.size + 1)) (Ms i)) h v d := fun {v d h i} a => by rw [ownMs i]; exact a
   refine O.tgt _ hmem _ _ _ Γ' (Ms i) v A _ E' G4 S3 Rm (hX3 av) fun h_4 tk_4 S4' zz o4 => ?_
   have slotsZ : ∀ y ∈ (bs (enc xs[i])).map (fun p => slot (cEnv csc U (h_2.objs.size + 1)) p.1), y ∈ Z := fun y hy => by
    obtain ⟨pr, hpr, rfl⟩ := jM.1 hy
    have hn : pr.1 ∈ ns := by rw [<- O.bsn (enc xs[i])]; exact jM.2 ⟨pr, hpr, rfl⟩
    have hst := List.all_eq_true.1 O.names _ hn
    rw [<- hZ]
    rcases slot_fresh O.ok G (C := h_2.objs.size + 1) hst with h | h
    ·rw [h]; simp
    ·simp [h]
   have slotsOwn : ∀ y ∈ (bs (enc xs[i])).map (fun p => slot (cEnv csc U (h_2.objs.size + 1)) p.1), y ∈ own (cEnv csc U (h_2.objs.size + 1)) M := fun y hy => by
    obtain ⟨pr, hpr, rfl⟩ := jM.1 hy
    have hn : pr.1 ∈ ns := by rw [<- O.bsn (enc xs[i])]; exact jM.2 ⟨pr, hpr, rfl⟩
    have hst := List.all_eq_true.1 O.names _ hn
    refine mem_own.2 ?_
    rcases slot_fresh O.ok G (C := h_2.objs.size + 1) hst with h | h
    ·exact .inl h
    ·exact .inr (.inl (mem_cells_split.2 (.inl h)))
   have w4 : OffW Z h_3 h_4 := (o4.offW (fun b hb ob e => S4'.allLive b (jA.2 (.inr (by rw [ownMs i]; exact slotsOwn b hb)))) fun b hb ob e => notTab_own S3 (by rw [ownMs i]; exact slotsOwn b hb) e).mono slotsZ
   have off4 : OffW (Z ++ M.map (·.1)) h_2 h_4 := off3.trans (w4.mono fun y hy => jA.2 (.inl hy))
   have frame4 : ∀ b, b = h_2.objs.size \/ b ∈ fp -> b ∉ (bs (enc xs[i])).map (fun p => slot (cEnv csc U (h_2.objs.size + 1)) p.1) := fun (b : Nat) hb hm => by
    have hb' := slotsOwn b hm
    rcases hb with h | h
    ·exact S4.bdis _ hDB' (h ▸ hb')
    ·by_cases hbI : b = I
     ·exact S4.bdis _ hIB' (hbI ▸ hb')
     ·obtain ⟨hX, o, x⟩ := hfp b h hbI
      have hbl : b < h_2.objs.size := Heap.lt_size x
      have hm' : b ∈ Z := slotsZ b hm
      rcases hZold b hm' with q | q
      ·exact hbI q
      ·rw [q] at x; cases x
   have hDI : @Eq Nat h_2.objs.size I -> False := fun h => by obtain ⟨o, x⟩ := hlI; have := ltz x; lia
   have acc4 : h_4.get? h_2.objs.size = some (listO vs m) := o4 _ _ (frame4 _ (.inl rfl)) (o3 _ _ (fun hm => hDI (jS.1 hm)) hacc)
   have st4 : St' (i + 1) h_4 := W.frame _ _ _ st_3 fun b hb o e => o4 b o (frame4 b (.inr hb)) e
   have has4 : Ats (bC h_2.objs.size I B csc U ++ own (cEnv csc U (h_2.objs.size + 1)) M) h_4 vs.toList (((xs.take i).filter p).map f) := by
    refine has.move fun b o hb ho => ⟨hb, o4 b o (fun hm => hb (jA.2 (.inr (slotsOwn b hm)))) (o3 b o (fun hm => hb ?_) ho)⟩
    rw [jS.1 hm]; exact jA.2 (.inl hIB')
   have DnM : h_2.objs.size ∉ M.map (·.1) := fun hm => S4.bdis _ hDB' (mOwn _ hm)
   refine O.tests i _ hxi _ _ _ A _ E' G4 S4' Rm (by rw [ownMs i]; exact arr S4' (O.ms i) acc4 st4 off4) fun h_5 tk_5 S5 w5 => ?_
   rw [O.ms i] at w5
   have off5 : OffW (Z ++ M.map (·.1)) h_2 h_5 := off4.trans (w5.mono fun y hy => jA.2 (.inr hy))
   have acc5 : h_5.get? h_2.objs.size = some (listO vs m) := w5.hard DnM acc4 (hard_list _ _)
   have st5 : St' (i + 1) h_5 := frameW st4 w5
   have has5 := has4.moveW (h' := h_5) (X' := bC h_2.objs.size I B csc U ++ own (cEnv csc U (h_2.objs.size + 1)) M) fun b o hb hh ho => ⟨hb, w5.hard (fun hm => hb (jA.2 (.inr (mOwn b hm)))) ho hh⟩
   have subΓ : Sub Γ' (bs (enc xs[i]) ++ Γ') := fun x d hx => by
    rw [lookup_app_none]
    ·exact hx
    ·intro pr hpr e
     have hn : pr.1 ∈ ns := by rw [<- O.bsn (enc xs[i])]; exact jM.2 ⟨pr, hpr, rfl⟩
     have hst := List.all_eq_true.1 O.names _ hn
     have hfr := (O.see x d hx).2.1
     rw [e] at hst
     simp [storable, hfr] at hst
   cases hp : p xs[i] with
   | false =>
    rw [if_neg (by simp)]
    have hsk := O.skip i _ hxi hp
    refine ⟨xs.length + 1 - (i + 1), by lia, i + 1, h_5, tk_5, vs, m, rfl, by lia, rfl, st5, by rw [<- hsk]; exact S5.sub subΓ, acc5, ?_, off5⟩
    rw [htake, List.filter_append]; simpa [hp] using has5
   | true =>
    rw [if_pos rfl]
    refine O.elts i _ hxi hp _ _ _ A _ E' G4 S5 Rm (by rw [ownMt i]; exact arr S5 (O.mt i) acc5 st5 off5) (fun y d h_6 tk_6 M6 hm6 ay S6 w6 hr => ?_) (ThenE.never.imp fun X d Γ'' M'' r => r.2.2)
    obtain ⟨rfl, rfl⟩ := hr
    rw [O.mt i] at w6
    have off6 : OffW (Z ++ M.map (·.1)) h_2 h_6 := off5.trans (w6.mono fun y hy => jA.2 (.inr hy))
    have acc6' : h_6.get? h_2.objs.size = some (listO vs m) := w6.hard DnM acc5 (hard_list _ _)
    have acc6 : h_6.PlainList h_2.objs.size vs := ⟨m, acc6'⟩
    have st6 : St' (i + 1) h_6 := frameW st5 w6
    have has6 := has5.moveW (h' := h_6) (X' := bC h_2.objs.size I B csc U ++ own (cEnv csc U (h_2.objs.size + 1)) M) fun b o hb hh ho => ⟨hb, w6.hard (fun hm => hb (jA.2 (.inr (mOwn b hm)))) ho hh⟩
    have hvs : vs.size <= sizeLine := by
     have h1 := size_of_ats has
     rw [List.length_map] at h1
     have h2 := List.length_filter_le p (xs.take i)
     rw [List.length_take] at h2
     have := O.size
     lia
    refine wpAny_list_append_plain acc6 (fun h_7 hpl hsame => ?_) hvs
    obtain ⟨m', acc7⟩ := hpl
    have o7 : Off [h_2.objs.size] h_6 h_7 := same_off hsame
    have S7 := S6.offMem hDB' o7 ⟨_, acc7⟩
    have w7 : OffW Z h_6 h_7 := (o7.offW (fun b hb ob e => by rw [jS.1 hb]; exact ⟨_, acc7⟩) fun b hb ob e => by rw [jS.1 hb, acc6'] at e; cases e; exact notTab_list _ _).mono fun y hy => by rw [jS.1 hy]; exact DZ
    refine ⟨xs.length + 1 - (i + 1), by lia, i + 1, h_7, tk_6, vs.push y, m', rfl, by lia, rfl, ?_, S7.sub subΓ, acc7, ?_, off6.trans (w7.mono fun y hy => jA.2 (.inl hy))⟩
    ·refine W.frame _ _ _ st6 fun (b : Nat) hb o e => o7 b o (fun hm => ?_) e
     have hbD : @Eq Nat b h_2.objs.size := jS.1 hm
     by_cases hbI : b = I
     ·obtain ⟨o, x⟩ := hlI; have := ltz x; lia
     ·obtain ⟨_, o, x⟩ := hfp b hb hbI; have : b < h_2.objs.size := Heap.lt_size x; lia
    ·rw [htake, List.filter_append, List.map_append]
     have offD : Off (bC h_2.objs.size I B csc U ++ own (cEnv csc U (h_2.objs.size + 1)) M) h_6 h_7 := o7.mono fun y hy => by rw [jS.1 hy]; exact jC
     rw [ownMs (i + 1)] at ay
     have := (has6.off offD).push (ay.off offD)
     simpa [hp] using this
  ·have hie : i = xs.length := by lia
   subst hie
   rw [List.take_length] at has
   refine W.done _ _ _ (by rw [List.length_map]; exact sti) fun h_3 tk_3 hk_3 => ?_
   have o3 : Off [I] h' h_3 := fun b o hb e => hk_3 b o hb e
   have hIC : @Eq Nat (h_2.objs.size + 1) I -> False := fun h => by obtain ⟨o, x⟩ := hlI; have := ltz x; lia
   have hID : @Eq Nat h_2.objs.size I -> False := fun h => by obtain ⟨o, x⟩ := hlI; have := ltz x; lia
   obtain ⟨mm, hn⟩ := Si.ok.ns
   have hnC : h_3.Ns (h_2.objs.size + 1) mm := hn.at' fun o e => o3 _ o (fun hm => hIC (jS.1 hm)) e
   have liveC : ∃ o, h_3.get? (h_2.objs.size + 1) = some o := let ⟨o, _, _, e, _⟩ := hnC; ⟨o, e⟩
   have hIX : I ∈ bC h_2.objs.size I B csc U ++ own (cEnv csc U (h_2.objs.size + 1)) M := jA.2 (.inl hIB')
   have oAll : OffW (Z ++ M.map (·.1)) s.heap h_3 := ⟨fun t => ((e_2.offW.trans off).tab t).move fun b ob e kd => o3 b ob (fun hm => notI xs.length h' sti (jS.1 hm ▸ e) kd) e, fun b ob e => by
    obtain ⟨o', e', s'⟩ := (e_2.offW.trans off).at_ b ob e
    have hbI : b ≠ I := fun q => by rw [q, hnI] at e; cases e
    exact ⟨o', o3 b o' (fun hm => hbI (jS.1 hm)) e', s'⟩⟩
   have oM : OffW (M.map (·.1)) s.heap h_3 := oAll.fresh hZnew
   have kp : Ext ba h_3 := fun b ob e => o3 b ob (fun hm => by
    have := none_of_ext S.keep (jS.1 hm ▸ hnI); rw [e] at this; cases this) (Si.keep b ob e)
   have toX : ∀ {v : Value} {d : D}, At (bC h_2.objs.size I B csc U ++ own (cEnv csc U (h_2.objs.size + 1)) M) h' v d -> At ((h_2.objs.size + 1) :: (B ++ own U M)) h_3 v d := fun {v d} a => a.move fun b o hb ho => ⟨fun hm => hb ?_, o3 b o (fun hm => hb (by rw [jS.1 hm]; exact hIX)) ho⟩
   have toXs : ∀ {v : List Value} {d : List D}, Ats (bC h_2.objs.size I B csc U ++ own (cEnv csc U (h_2.objs.size + 1)) M) h' v d -> Ats ((h_2.objs.size + 1) :: (B ++ own U M)) h_3 v d := fun {v d} a => a.move fun b o hb ho => ⟨fun hm => hb ?_, o3 b o (fun hm => hb (by rw [jS.1 hm]; exact hIX)) ho⟩
   rotate_left
   ·rcases jK.1 hm with h | h
    ·exact jA.2 (.inr (mem_own.2 (.inl h)))
    ·exact compX S F h
   ·rcases jK.1 hm with h | h
    ·exact jA.2 (.inr (mem_own.2 (.inl h)))
    ·exact compX S F h
   have SM : St ba B U Γ (M ++ []) s.heap := by rw [List.append_nil]; exact S
   have S3 : St ba ([h_2.objs.size + 1] ++ B) U Γ (Ms xs.length ++ []) h_3 := SM.handBack (Z := [h_2.objs.size + 1]) (O.ms _) ⟨fun pr hp => ?_, Si.nod, fun a ha hX => ?_, fun a ha => ?_⟩ oM kp fun z hz => ?_
   ·rw [List.append_nil] at S3
    refine hRR h_3 tk_3 mm hnC ?_ S3 oM
    refine .list (n := m) ?_ (o3 _ _ (fun hm => hID (jS.1 hm)) hacc) (toXs has)
    intro hm
    rcases jK.1 hm with h | h
    ·exact DC h
    ·obtain ⟨o, x⟩ := S.allLive _ h
     have := Heap.lt_size (e_2 _ _ x)
     exact Nat.lt_irrefl _ this
   ·obtain ⟨ws, nn, e, r⟩ := (Si.muts pr hp).at_
    have hpM : pr.1 ∈ M.map (·.1) := by rw [<- O.ms xs.length]; exact jM.2 ⟨pr, hp, rfl⟩
    have hpI : pr.1 ≠ I := fun q => S4.bdis I hIB' (q ▸ mOwn _ hpM)
    refine ⟨ws, nn, o3 _ _ (fun hm => hpI (jS.1 hm)) e, ?_⟩
    rw [ownMs] at r
    refine (toXs r).sub fun y hy => ?_
    rw [O.ms] at hy
    simp only [handX, List.append_assoc, List.mem_append, List.mem_singleton, List.mem_cons, mem_own, List.map_nil, List.not_mem_nil, or_false] at hy ⊢
    rcases hy with h | h | (h | h) | h
    ·exact .inl h
    ·exact .inr (.inl h)
    ·exact .inr (.inr (.inl h))
    ·exact .inr (.inr (.inr (.inl h)))
    ·exact .inr (.inr (.inr (.inr h)))
   ·rw [O.ms] at ha
    rcases jA.1 hX with h | h
    ·exact (S4.dis a ha).1 (jS.1 h)
    ·rcases jA.1 h with h | h
     ·exact S.bdis a h (muts_own a ha)
     ·rcases mem_own.1 h with h | h | h
      ·exact (S.dis a ha).1 h
      ·exact (S.dis a ha).2 h
      ·cases h
   ·rw [O.ms] at ha
    exact S.out a (jA.2 (.inr (muts_own a ha)))
   ·rw [jS.1 hz]; exact ⟨hZnew _ CZ, liveC⟩
 exact codeAny_compStart_list (loop _ rfl) (W.self 0 _ _ _ (W.frame _ _ _ st0 fun b zz o e => h4_ext csc h_2 b o e) (loop _ rfl))
end
end
section
section
theorem Ef1.compX {ifs : List Expr} {p : α -> Bool} {f : α -> D} {ns : List Str} {bs : D -> Gam} {Ms Mt : Nat -> Mut} {spos : Pos} (h : EvS pg w ba true k sc Γ iter (xs.map enc))
  (O : CompOkX pg w ba k sc csc Γ Γ' M elt target ifs enc xs p f ns bs Ms Mt) (hx : sc.names.lookup x = some .local) (hno : (csc.names.any fun p => p.1 == x && (p.2 == .local || p.2 == .cell)) = false) (hline : (px.line == pos.line) = true)
  (hr : R .next ((x, .list ((xs.filter p).map f)) :: Γ) (Ms xs.length))
  (hs : autoParam (∀ U x, foldedSetIterable iter U x = pure x) tA) : Ef1 pg w ba true c k sc Γ M (.Assign [.Name x px] (.ListComp elt [⟨target, iter, ifs, 0⟩] csc pos) spos) R RE := by
 intro U s B A Q E G S Rm Ar H T TE
 have F := compFacts O.ok G
 have hst : storable sc x = true := by rw [storable, hx]; rfl
 rw [exec_Assign_Name_used x px _ spos (swaps_comp G hx hno hline)]
 refine jB (wpAny_standAt (jB ?_))
 show wpAny _ _ (do let _ <- comprehension (.ListComp elt [⟨target, iter, ifs, 0⟩] csc pos) csc U (firstIterPos [⟨target, iter, ifs, 0⟩] pos) (newList []) (firstAsync [⟨target, iter, ifs, 0⟩]) (firstIter [⟨target, iter, ifs, 0⟩] U) (some (PySem.assign (.Name x px) U))) _ _ _
 refine jB ?_
 refine wpAny_comprehension_free (use := some _) rfl (hs U) (closureFor_eq F.free) F.kind (hnames_of F) (h U s B M A _ E G S Rm fun I h_2 tk_2 e_2 hnI sr => ?_)
 refine comp_coreX O G S Rm Ar e_2 hnI sr (RR := fun acc C => compPost (model pg w) A E (some (PySem.assign (.Name x px) U)) _ acc C) ?_
 intro h' tk m hn a S1 oM
 have hC : (h_2.objs.size + 1) ∉ B ++ own U M := fun hm => by
  obtain ⟨o, x⟩ := S.allLive _ hm
  have := ltz (a := h_2.objs.size + 1) (e_2 _ _ x)
  lia
 have ow : own U (Ms xs.length) = own U M := own_congr (O.ms _)
 have a' : At ((h_2.objs.size + 1) :: B ++ own U (Ms xs.length)) h' (.ref h_2.objs.size) (.list ((xs.filter p).map f)) := by rw [ow]; exact a
 have hn0 : s.heap.get? (h_2.objs.size + 1) = .none := none_of_ext e_2 (none_of_le (Nat.le_succ _))
 refine wpAny_assign_Name (S1.store G hst a' fun h'' tk' S'' off'' zz => ⟨m, hn.at' fun o e => off'' _ o (fun hm => hC (jA.2 (.inr (by rw [ow] at hm; exact hm)))) e, fun g hsame => ?_⟩)
 have og : Off [h_2.objs.size + 1] h'' g := same_off hsame
 have hCB : (h_2.objs.size + 1) ∉ B := fun hm => hC (jA.2 (.inl hm))
 have Sg : St ba B U ((x, .list ((xs.filter p).map f)) :: Γ) (Ms xs.length) g := S''.offOut og hCB
 have w1 : OffW (own U M) s.heap h' := offW_own oM
 have w2 : OffW (own U M) h' h'' := by
  rw [<- ow]
  exact off''.offW (fun b hb ob e => S''.allLive b (jA.2 (.inr hb))) fun b hb ob e => notTab_own S1 hb e
 have w : OffW (own U M) s.heap g := ⟨fun t => ((w1.trans w2).tab t).move fun b ob e kd => og b ob (fun hm => by
  obtain ⟨oc, es, ep, ec, dc, _⟩ := hn.at' fun o e => off'' _ o (fun hm => hC (jA.2 (.inr (by rw [ow] at hm; exact hm)))) e
  rw [jS.1 hm, ec] at e; cases e
  obtain ⟨⟨_, k⟩, _⟩ := kd
  rw [k] at dc; cases dc) e, fun b o e => by
  obtain ⟨o', e', s'⟩ := (w1.trans w2).at_ b o e
  have hb : b ≠ h_2.objs.size + 1 := fun q => by rw [q, hn0] at e; cases e
  exact ⟨o', og b o' (fun hm => hb (jS.1 hm)) e', s'⟩⟩
 exact jP <| jP (T .next .next g tk' _ _ trivial Sg w (by rw [ow]; exact Grow.refl _ _) hr)
theorem Ex1.ifeP {t : Expr} {b_1 b_2 : List Stmt} {p : Bool} (hx : Γ.lookup x = some (.raw (.ref a))) (ht : Tr pg w ba q k sc ((x, .list ds) :: Γ) t p)
  (ha : p = true -> Ex pg w ba q k sc Γ ((a, ds) :: M) b_1 R) (hb : p = false -> Ex pg w ba q k sc Γ ((a, ds) :: M) b_2 R) : Ex1 pg w ba q k sc Γ ((a, ds) :: M) (.If t b_1 b_2 pos) R := by
 intro U s B A Q E G S Rm T
 refine wpAny_If (ht U s B M A _ E G (S.freeze hx) Rm fun h' tk e => ?_)
 have T' : Then ba B U ((a, ds) :: M) ({ s with heap := h', toks := tk } : Shared) R Q := T.step e.off (Grow.refl _ _)
 cases p with
 | true => exact ha rfl U _ B A Q E G (S.ext e) Rm T'
 | false => exact hb rfl U _ B A Q E G (S.ext e) Rm T'
end
end
section
open PySem PySem.W PyProof.Rows
structure SWO (lt : Nat -> Nat -> Bool) : Prop where
 asy : ∀ x y, lt x y = true -> lt y x = false
 tr : ∀ x y z, lt y x = false -> lt z y = false -> lt z x = false
theorem getD_q (p : Array Nat) (k : Nat) : p.getD k 0 = (p[k]?).getD 0 := by simp
theorem getD_rev {p : Array Nat} {j : Nat} (hj : j <= p.size) (k : Nat) : (kas_rev p i j).getD k 0 = if i <= k /\ k < j then p.getD (i + j - 1 - k) 0 else p.getD k 0 := by
 rw [getD_q, kas_rev, getElem?_mirror_all hj k]
 split <;> rw [getD_q]
theorem getD_bub {p : Array Nat} {s d : Nat} (hs : s < p.size) (hd : d <= s) (k : Nat) : (bubble p s d).getD k 0 = if k = s - d then p.getD s 0 else if s - d < k /\ k <= s then p.getD (k - 1) 0 else p.getD k 0 := by
 rw [getD_q, getElem?_bubble hs d hd k, getD_q p s, getD_q p (k - 1), getD_q p k]
 split
 ·rfl
 ·split <;> rfl
section
variable {lt : Nat -> Nat -> Bool}
noncomputable def Up (lt : Nat -> Nat -> Bool) (p : Array Nat) (m : Nat) : Prop := ∀ a b, a < b -> b < m -> lt (p.getD b 0) (p.getD a 0) = false
noncomputable def Dn (lt : Nat -> Nat -> Bool) (p : Array Nat) (m : Nat) : Prop := ∀ a b, a < b -> b < m -> lt (p.getD a 0) (p.getD b 0) = false
theorem SWO.irr (W : SWO lt) (x : Nat) : lt x x = false := by
 cases h : lt x x with
 | false => rfl
 | true => rw [<- h]; exact W.asy x x h
theorem Up.succ (W : SWO lt) {p : Array Nat} (h : Up lt p n) (hn : 1 <= n) (hs : lt (p.getD n 0) (p.getD (n - 1) 0) = false) : Up lt p (n + 1) := fun a b hab hb => by
 by_cases e : b < n
 ·exact h a b hab e
 ·have hb' : b = n := by lia
  subst hb'
  by_cases e2 : a = b - 1
  ·rw [e2]; exact hs
  ·exact W.tr _ _ _ (h a (b - 1) (by lia) (by lia)) hs
theorem Dn.succ (W : SWO lt) {p : Array Nat} (h : Dn lt p n) (hn : 1 <= n) (hs : lt (p.getD (n - 1) 0) (p.getD n 0) = false) : Dn lt p (n + 1) := fun a b hab hb => by
 by_cases e : b < n
 ·exact h a b hab e
 ·have hb' : b = n := by lia
  subst hb'
  by_cases e2 : a = b - 1
  ·rw [e2]; exact hs
  ·exact W.tr _ _ _ hs (h a (b - 1) (by lia) (by lia))
theorem run_asc (W : SWO lt) (p : Array Nat) : ∀ (f n : Nat), 1 <= n -> Up lt p n -> n <= runT lt (kas_asc p f n) /\ runT lt (kas_asc p f n) <= n + f /\ Up lt p (runT lt (kas_asc p f n)) /\ (runT lt (kas_asc p f n) < n + f -> lt (p.getD (runT lt (kas_asc p f n)) 0) (p.getD (runT lt (kas_asc p f n) - 1) 0) = true)
 | 0, n, hn, h => ⟨Nat.le_refl _, Nat.le_refl _, h, fun x => absurd x (Nat.lt_irrefl _)⟩
 | f + 1, n, hn, h => by
  show n <= runT lt (if lt (p.getD n 0) (p.getD (n - 1) 0) = true then KasT.ret n else kas_asc p f (n + 1)) /\ _
  have e : runT lt (kas_asc p (f + 1) n) = runT lt (if lt (p.getD n 0) (p.getD (n - 1) 0) = true then KasT.ret n else kas_asc p f (n + 1)) := rfl
  rw [e]
  cases hc : lt (p.getD n 0) (p.getD (n - 1) 0) with
  | true =>
   rw [if_pos rfl]
   exact ⟨Nat.le_refl _, Nat.le_add_right _ _, h, fun zz => hc⟩
  | false =>
   rw [if_neg (by simp)]
   obtain ⟨h1, h2, h3, h4⟩ := run_asc W p f (n + 1) (by lia) (h.succ W hn hc)
   exact ⟨by lia, by lia, h3, fun x => h4 (by lia)⟩
noncomputable def Alike (lt : Nat -> Nat -> Bool) (p : Array Nat) (n q : Nat) : Prop := ∀ a, n - 1 - q <= a -> a < n -> lt (p.getD a 0) (p.getD (n - 1) 0) = false /\ lt (p.getD (n - 1) 0) (p.getD a 0) = false
theorem Alike.any (W : SWO lt) {p : Array Nat} {q a b : Nat} (h : Alike lt p n q) (ha : n - 1 - q <= a) (ha' : a < n) (hb : n - 1 - q <= b) (hb' : b < n) : lt (p.getD a 0) (p.getD b 0) = false := W.tr _ _ _ (h b hb hb').2 (h a ha ha').1
theorem Dn.rev (W : SWO lt) {p : Array Nat} {q : Nat} (h : Dn lt p n) (hz : n <= p.size) (hq : q < n) (ha : Alike lt p n q) : Dn lt (kas_rev p (n - (q + 1)) n) n := fun a b hab hb => by
 rw [getD_rev hz, getD_rev hz]
 by_cases h1 : n - (q + 1) <= a
 ·rw [if_pos ⟨h1, by lia⟩, if_pos ⟨by lia, hb⟩]
  exact ha.any W (by lia) (by lia) (by lia) (by lia)
 ·rw [if_neg (fun x => h1 x.1)]
  by_cases h2 : n - (q + 1) <= b
  ·rw [if_pos ⟨h2, hb⟩]
   exact h a _ (by lia) (by lia)
  ·rw [if_neg (fun x => h2 x.1)]; exact h a b hab hb
noncomputable def DescOk (lt : Nat -> Nat -> Bool) (z n f : Nat) (r : Array Nat × Nat × Nat) : Prop := r.1.size = z /\ n <= r.2.1 /\ r.2.1 <= n + f /\ r.2.2 < r.2.1 /\ Dn lt r.1 r.2.1 /\ Alike lt r.1 r.2.1 r.2.2
theorem run_desc (W : SWO lt) : ∀ (f : Nat) (p : Array Nat) (n q : Nat), 1 <= n -> n + f <= p.size -> q < n -> Dn lt p n -> Alike lt p n q ->
  DescOk lt p.size n f (runT lt (kas_desc f p n q))
 | 0, p, n, q, hn, hz, hq, h, ha => ⟨rfl, Nat.le_refl _, Nat.le_refl _, hq, h, ha⟩
 | f + 1, p, n, q, hn, hz, hq, h, ha => by
  have e : runT lt (kas_desc (f + 1) p n q) = runT lt (if lt (p.getD n 0) (p.getD (n - 1) 0) = true then (if q > 0 then kas_desc f (kas_rev p (n - (q + 1)) n) (n + 1) 0 else kas_desc f p (n + 1) 0)
   else .ask (p.getD (n - 1) 0) (p.getD n 0) fun d => if d = true then .ret (p, n, q) else kas_desc f p (n + 1) (q + 1)) := rfl
  rw [e]
  cases hc : lt (p.getD n 0) (p.getD (n - 1) 0) with
  | true =>
   rw [if_pos rfl]
   have hc' := W.asy _ _ hc
   have single : ∀ (p' : Array Nat), Alike lt p' (n + 1) 0 := fun p' a h1 h2 => by
    have : a = n := by lia
    subst this
    exact ⟨W.irr _, W.irr _⟩
   by_cases hq0 : q > 0
   ·rw [if_pos hq0]
    have hd := h.rev W (by lia) hq ha
    have hzr : (kas_rev p (n - (q + 1)) n).size = p.size := mirror_size _ _ _ _
    have hd2 : Dn lt (kas_rev p (n - (q + 1)) n) (n + 1) := hd.succ W hn (by
     rw [getD_rev (by lia), getD_rev (by lia), if_pos ⟨by lia, by lia⟩, if_neg (fun x => by lia)]
     exact W.tr _ _ _ hc' (ha _ (by lia) (by lia)).1)
    obtain ⟨h1, h2, h3, h4⟩ := run_desc W f _ (n + 1) 0 (by lia) (by lia) (by lia) hd2 (single _)
    exact ⟨h1.trans hzr, by lia, by lia, h4⟩
   ·rw [if_neg hq0]
    obtain ⟨h1, h2, h3, h4⟩ := run_desc W f p (n + 1) 0 (by lia) (by lia) (by lia) (h.succ W hn hc') (single _)
    exact ⟨h1, by lia, by lia, h4⟩
  | false =>
   rw [if_neg (by simp)]
   show DescOk lt p.size n (f + 1) (runT lt (if lt (p.getD (n - 1) 0) (p.getD n 0) = true then .ret (p, n, q) else kas_desc f p (n + 1) (q + 1)))
   cases hd : lt (p.getD (n - 1) 0) (p.getD n 0) with
   | true =>
    rw [if_pos rfl]
    exact ⟨rfl, Nat.le_refl _, by show n <= n + (f + 1); lia, hq, h, ha⟩
   | false =>
    rw [if_neg (by simp)]
    have ha2 : Alike lt p (n + 1) (q + 1) := fun a h1 h2 => by
     rw [show n + 1 - 1 = n by lia]
     by_cases e : a = n
     ·rw [e]; exact ⟨W.irr _, W.irr _⟩
     ·have := ha a (by lia) (by lia)
      exact ⟨W.tr _ _ _ hd this.1, W.tr _ _ _ this.2 hc⟩
    obtain ⟨h1, h2, h3, h4⟩ := run_desc W f p (n + 1) (q + 1) (by lia) (by lia) (by lia) (h.succ W hn hd) ha2
    exact ⟨h1, by lia, by lia, h4⟩
theorem up_of_rev {p : Array Nat} (h : Dn lt p n) (hz : n <= p.size) : Up lt (kas_rev p 0 n) n := fun a b hab hb => by
 rw [getD_rev hz, getD_rev hz, if_pos ⟨by lia, hb⟩, if_pos ⟨by lia, by lia⟩]
 exact h _ _ (by lia) (by lia)
noncomputable def CountOk (lt : Nat -> Nat -> Bool) (N z : Nat) (r : Nat × Array Nat) : Prop := 1 <= r.1 /\ r.1 <= N /\ r.2.size = z /\ Up lt r.2 r.1
theorem run_tail3 (W : SWO lt) {p : Array Nat} {N : Nat} (hn : 1 <= n) (hN : n <= N) (hz : N <= p.size) (h : Dn lt p n) : CountOk lt N p.size (runT lt (kas_tail3 n N p)) := by
 unfold kas_tail3
 rw [runT_bind]
 have hzr : (kas_rev p 0 n).size = p.size := mirror_size _ _ _ _
 obtain ⟨h1, h2, h3, h4⟩ := run_asc W (kas_rev p 0 n) (N - n) n hn (up_of_rev h (by lia))
 exact ⟨Nat.le_trans hn h1, by show runT lt _ <= N; lia, hzr, h3⟩
theorem run_descPart (W : SWO lt) {p : Array Nat} {N : Nat} (hn : 1 <= n) (hN : n < N) (hz : N <= p.size) (h : Dn lt p (n + 1)) (ha : Alike lt p (n + 1) 0) : CountOk lt N p.size (runT lt (kas_descPart n N p)) := by
 unfold kas_descPart
 rw [runT_bind]
 obtain ⟨h1, h2, h3, h4, h5, h6⟩ := run_desc W (N - (n + 1)) p (n + 1) 0 (by lia) (by lia) (by lia) h ha
 generalize runT lt (kas_desc (N - (n + 1)) p (n + 1) 0) = r at *
 by_cases hq : r.2.2 > 0
 ·rw [if_pos hq]
  have hzr : (kas_rev r.1 (r.2.1 - (r.2.2 + 1)) r.2.1).size = r.1.size := mirror_size _ _ _ _
  have := run_tail3 W (p := kas_rev r.1 (r.2.1 - (r.2.2 + 1)) r.2.1) (n := r.2.1) (N := N) (by lia) (by lia) (by lia) (h5.rev W (by lia) h4 h6)
  rwa [hzr, h1] at this
 ·rw [if_neg hq]
  have := run_tail3 W (p := r.1) (n := r.2.1) (N := N) (by lia) (by lia) (by lia) h5
  rwa [h1] at this
theorem run_count (W : SWO lt) {p : Array Nat} {N : Nat} (hN : 1 <= N) (hz : N <= p.size) : CountOk lt N p.size (runT lt (kas_count N p)) := by
 unfold kas_count
 rw [runT_bind]
 obtain ⟨h1, h2, h3, h4⟩ := run_asc W p (N - 1) 1 (Nat.le_refl _) (fun a b hab hb => by lia)
 generalize runT lt (kas_asc p (N - 1) 1) = m at *
 by_cases e : (m == N) = true
 ·rw [if_pos e]; exact ⟨h1, by simp at e; exact Nat.le_of_eq e, rfl, h3⟩
 ·rw [if_neg e]
  have hm : m < N := by simp at e; lia
  have hlt := h4 (by lia)
  have hge := W.asy _ _ hlt
  by_cases hm1 : m > 1
  ·rw [if_pos hm1]
   show CountOk lt N p.size (runT lt (if lt (p.getD 0 0) (p.getD (m - 1) 0) = true then .ret (m, p) else kas_descPart m N (kas_rev p 0 m)))
   cases hc : lt (p.getD 0 0) (p.getD (m - 1) 0) with
   | true => rw [if_pos rfl]; exact ⟨h1, by show m <= N; lia, rfl, h3⟩
   | false =>
    rw [if_neg (by simp)]
    have hzr : (kas_rev p 0 m).size = p.size := mirror_size _ _ _ _
    have low : ∀ a, a < m -> lt (p.getD a 0) (p.getD (m - 1) 0) = false := fun a ha => by
     by_cases h0 : a = 0
     ·rw [h0]; exact hc
     ·exact W.tr _ _ _ hc (by
       have := h3 0 a (by lia) ha
       exact W.tr _ _ _ (W.irr _) (by
        have hx : lt (p.getD a 0) (p.getD 0 0) = false := this
        exact hx))
    have high : ∀ a, a < m -> lt (p.getD (m - 1) 0) (p.getD a 0) = false := fun a ha => by
     by_cases h0 : a = m - 1
     ·rw [h0]; exact W.irr _
     ·exact h3 a (m - 1) (by lia) (by lia)
    have dn : Dn lt p m := fun a b hab hb => W.tr _ _ _ (high b hb) (low a (by lia))
    have up : Dn lt (kas_rev p 0 m) m := fun a b hab hb => by
     rw [getD_rev (by lia), getD_rev (by lia), if_pos ⟨by lia, by lia⟩, if_pos ⟨by lia, hb⟩]
     exact W.tr _ _ _ (high _ (by lia)) (low _ (by lia))
    have := run_descPart W (p := kas_rev p 0 m) (n := m) (N := N) (by lia) hm (by lia) (up.succ W (by lia) (by
     rw [getD_rev (by lia), getD_rev (by lia), if_pos ⟨by lia, by lia⟩, if_neg (fun x => by lia)]
     have e1 : 0 + m - 1 - (m - 1) = 0 := by lia
     rw [e1]
     exact W.tr _ _ _ hge (high 0 (by lia) |> fun zz => by
      have := low 0 (by lia)
      exact this))) (fun a ha1 ha2 => by
     have : a = m := by lia
     subst this
     exact ⟨W.irr _, W.irr _⟩)
    rwa [hzr] at this
  ·rw [if_neg hm1]
   have hm1' : m = 1 := by lia
   subst hm1'
   exact run_descPart W (Nat.le_refl _) hm hz (fun a b hab hb => by
    have ha0 : a = 0 := by lia
    have hb0 : b = 1 := by lia
    subst ha0 hb0; exact hge) (fun a ha1 ha2 => by
     have : a = 1 := by lia
     subst this
     exact ⟨W.irr _, W.irr _⟩)
noncomputable def PlaceOk (lt : Nat -> Nat -> Bool) (p : Array Nat) (k m : Nat) : Prop := m <= k /\ (∀ a, a < m -> lt (p.getD k 0) (p.getD a 0) = false) /\ (∀ a, m <= a -> a < k -> lt (p.getD k 0) (p.getD a 0) = true)
theorem run_place (W : SWO lt) {p : Array Nat} (h : Up lt p k) : ∀ (f l r : Nat), l <= r -> r <= k -> r <= l + f -> (∀ a, a < l -> lt (p.getD k 0) (p.getD a 0) = false) -> (∀ a, r <= a -> a < k -> lt (p.getD k 0) (p.getD a 0) = true) ->
  PlaceOk lt p k (runT lt (kas_place p k f l r))
 | 0, l, r, h1, h2, h3, ha, hb => by
  have : l = r := by lia
  subst this
  exact ⟨h2, ha, hb⟩
 | f + 1, l, r, h1, h2, h3, ha, hb => by
  have e : kas_place p k (f + 1) l r = if l ≥ r then .ret l else .ask (p.getD k 0) (p.getD ((l + r) / 2) 0) fun c => if c = true then kas_place p k f l ((l + r) / 2) else kas_place p k f ((l + r) / 2 + 1) r := rfl
  rw [e]
  by_cases hlr : l ≥ r
  ·rw [if_pos hlr]
   have : l = r := by lia
   subst this
   exact ⟨h2, ha, hb⟩
  ·rw [if_neg hlr]
   show PlaceOk lt p k (runT lt (if lt (p.getD k 0) (p.getD ((l + r) / 2) 0) = true then kas_place p k f l ((l + r) / 2) else kas_place p k f ((l + r) / 2 + 1) r))
   cases hc : lt (p.getD k 0) (p.getD ((l + r) / 2) 0) with
   | true =>
    rw [if_pos rfl]
    refine run_place W h f l ((l + r) / 2) (by lia) (by lia) (by lia) ha fun a h4 h5 => ?_
    by_cases e2 : a = (l + r) / 2
    ·rw [e2]; exact hc
    ·cases hq : lt (p.getD k 0) (p.getD a 0) with
     | true => rfl
     | false =>
      have h6 := h ((l + r) / 2) a (by lia) h5
      have := W.tr _ _ _ h6 hq
      rw [hc] at this; cases this
   | false =>
    rw [if_neg (by simp)]
    refine run_place W h f ((l + r) / 2 + 1) r (by lia) h2 (by lia) (fun a h4 => ?_) hb
    by_cases e2 : a = (l + r) / 2
    ·rw [e2]; exact hc
    ·exact W.tr _ _ _ (h a ((l + r) / 2) (by lia) (by lia)) hc
theorem run_bin (W : SWO lt) : ∀ (f : Nat) (p : Array Nat) (k : Nat), 1 <= k -> k + f <= p.size -> Up lt p k -> Up lt (runT lt (kas_bin f p k)) (k + f)
 | 0, p, k, h1, h2, h => h
 | f + 1, p, k, h1, h2, h => by
  have e : kas_bin (f + 1) p k = (kas_place p k k 0 k).bind fun l => kas_bin f (bubble p k (k - l)) (k + 1) := rfl
  rw [e, runT_bind]
  obtain ⟨i1, i2, i3⟩ := run_place W h k 0 k (Nat.zero_le _) (Nat.le_refl _) (by lia) (fun a ha => by lia) (fun a ha ha' => by lia)
  generalize runT lt (kas_place p k k 0 k) = l at *
  have hs : k < p.size := by lia
  have up : Up lt (bubble p k (k - l)) (k + 1) := fun a b hab hb => by
   rw [getD_bub hs (by lia), getD_bub hs (by lia), show k - (k - l) = l by lia]
   by_cases ea : a = l
   ·rw [if_pos ea, if_neg (by lia), if_pos ⟨by lia, by lia⟩]
    exact W.asy _ _ (i3 (b - 1) (by lia) (by lia))
   ·by_cases eb : b = l
    ·rw [if_pos eb, if_neg ea, if_neg (by lia)]
     exact i2 a (by lia)
    ·rw [if_neg ea, if_neg eb]
     by_cases cb : l < b
     ·rw [if_pos ⟨cb, by lia⟩]
      by_cases ca : l < a
      ·rw [if_pos ⟨ca, by lia⟩]; exact h _ _ (by lia) (by lia)
      ·rw [if_neg (fun x => ca x.1)]; exact h _ _ (by lia) (by lia)
     ·rw [if_neg (fun x => cb x.1), if_neg (fun x => by lia)]
      exact h _ _ hab (by lia)
  have := run_bin W f (bubble p k (k - l)) (k + 1) (by lia) (by rw [bubble_size]; lia) up
  rwa [show k + 1 + f = k + (f + 1) by lia] at this
theorem run_sort (W : SWO lt) (hn : 1 <= n) : Up lt (runT lt (kas_sort n)) n := by
 unfold kas_sort
 rw [runT_bind]
 obtain ⟨h1, h2, h3, h4⟩ := run_count W (p := List.toArray (List.range n)) hn (by simp)
 generalize runT lt (kas_count n (List.toArray (List.range n))) = r at *
 by_cases hlt : r.1 < n
 ·rw [if_pos hlt]
  have hz : r.2.size = n := by rw [h3]; simp
  have := run_bin W (n - max r.1 1) r.2 (max r.1 1) (by lia) (by lia) (by rw [Nat.max_eq_left h1]; exact h4)
  rwa [show max r.1 1 + (n - max r.1 1) = n by lia] at this
 ·rw [if_neg hlt]
  have : r.1 = n := by lia
  rw [<- this]; exact h4
end
end
section
open PyProof.Rows
noncomputable def ulF (x : List Bool) (p : List (List Bool) × List (List Bool)) : List (List Bool) × List (List Bool) := if x ∈ p.2 then (p.1, p.2.erase x) else (p.1 ++ [x], p.2)
noncomputable def ul (xs ys : List (List Bool)) : List (List Bool) × List (List Bool) := xs.foldr ulF ([], ys)
theorem ul_len (ys : List (List Bool)) : ∀ xs, (ul xs ys).1.length <= xs.length /\ (ul xs ys).2.length <= ys.length
 | [] => ⟨Nat.le_refl _, Nat.le_refl _⟩
 | x :: xs => by
  have ih := ul_len ys xs
  show (ulF x (ul xs ys)).1.length <= _ /\ (ulF x (ul xs ys)).2.length <= _
  unfold ulF
  split
  ·refine ⟨by simp; lia, Nat.le_trans (List.length_erase_le ..) ih.2⟩
  ·refine ⟨by simp; lia, ih.2⟩
section
theorem perm3 {a b c : α} : [b, a, c].Perm [a, b, c] := List.Perm.swap _ _ _
theorem perm3' {a b c : α} : [c, a, b].Perm [a, b, c] := (List.Perm.swap a c [b]).trans ((List.Perm.swap b c []).cons a)
theorem ul_body (C : Cx ba mg mb) {xs ys : List (List Bool)} {a1 a2 : Addr} (zx : xs.length <= 500) (zy : ys.length <= 500) :
  Ef pg w ba true true 1 (fnScope (stmtAt 2)) [(N "expected", .raw (.ref a1)), (N "actual", .raw (.ref a2))] [(a1, xs.map eW), (a2, ys.map eW)] (fnBody (stmtAt 2))
   (fun o zz M' => ∃ (d : D) (M_1 : Mut), o = .ret d /\ M_1.Sublist M' /\ M_1.map (·.1) = [(a1, xs.map eW), (a2, ys.map eW)].map (·.1) /\ d = .tuple [.list ((ul xs ys).1.map eW), .raw (.ref a2)] /\ M_1 = [(a1, []), (a2, (ul xs ys).2.map eW)])
   (fun X d zz M' => ∃ M_1 : Mut, M_1.Sublist M' /\ M_1.map (·.1) = [(a1, xs.map eW), (a2, ys.map eW)].map (·.1) /\ False) := by
 conv => arg 10; whnf
 refine Ef.own (ds := []) EvN.nil fun am => ?_
 refine Ef.perm (M' := [(a1, xs.map eW), (a2, ys.map eW), (am, [])]) ?_ perm3'.symm
 refine Ef.cons (R1 := fun o Γ' M' => o = .next /\ Sub [(N "missing", .raw (.ref am)), (N "actual", .raw (.ref a2))] Γ' /\ M'.Perm [(a1, []), (a2, (ul xs ys).2.map eW), (am, (ul xs ys).1.map eW)]) (RE1 := fun zz zz zz zz => False) ?_ ?_ (fun zz zz zz zz h => h.elim)
 ·refine Ef1.while (RXE := fun zz zz zz zz => True) (fun n Γ' M' => ∃ pre post, xs = pre ++ post /\ n = pre.length /\ Sub [(N "expected", .raw (.ref a1)), (N "actual", .raw (.ref a2)), (N "missing", .raw (.ref am))] Γ' /\ M'.Perm [(a1, pre.map eW), (a2, (ul post ys).2.map eW), (am, (ul post ys).1.map eW)]) (fun n Γ' M' hI => ?_) _
   ⟨xs, [], by simp, rfl, by walk_at "v", List.Perm.refl _⟩
  obtain ⟨pre, post, hxs, rfl, hsub, hperm⟩ := hI
  have zpost := ul_len ys post
  have zall : pre.length + post.length = xs.length := by rw [hxs]; simp
  refine ⟨fun b M'' => b = !pre.isEmpty /\ M'' = M', TrX.own (a := a1) (ds := pre.map eW) (hsub _ _ (by walk_at "v")) (hperm.mem_iff.2 jC) (by simp; lia) ⟨by simp, rfl⟩ (by kernel_rfl), fun M'' h => ?_, fun M'' h => ?_⟩
  ·obtain ⟨hb, rfl⟩ := h
   rcases List.eq_nil_or_concat pre with rfl | ⟨pre', x, hpx⟩
   ·cases hb
   rw [List.concat_eq_append] at hpx
   subst hpx
   refine Ef.perm (Ef.sub (Γ0 := [(N "expected", .raw (.ref a1)), (N "actual", .raw (.ref a2)), (N "missing", .raw (.ref am))]) ?_ hsub) hperm.symm
   rw [List.map_append]
   refine Ef.cons (R1 := fun o Γ' M' => o = .next /\ Γ' = (N "item", eW x) :: [(N "expected", .raw (.ref a1)), (N "actual", .raw (.ref a2)), (N "missing", .raw (.ref am))] /\ M' = [(a1, pre'.map eW), (a2, (ul post ys).2.map eW), (am, (ul post ys).1.map eW)]) (RE1 := fun zz zz zz zz => False)
    (Ef1.assign (RX := fun d M' => d = eW x /\ M' = [(a1, pre'.map eW), (a2, (ul post ys).2.map eW), (am, (ul post ys).1.map eW)]) (RXE := fun zz zz zz => False) (EvX.pop (by walk_at "v") (by simp; simp at zall; lia) ⟨rfl, rfl⟩ (by kernel_rfl)) (by kernel_rfl) (fun d M' h => ?_) (fun zz zz zz h => h)) ?_ (fun zz zz zz zz h => h.elim)
   ·obtain ⟨rfl, rfl⟩ := h; exact ⟨rfl, rfl, rfl⟩
   rintro o Γ' M' ⟨rfl, rfl, rfl⟩
   have hstep : ∀ (p : List (List Bool) × List (List Bool)), p = ulF x (ul post ys) -> p = ul (x :: post) ys := fun p h => h
   have goal : ∀ {Γ' : Gam} {M' : Mut}, Sub [(N "expected", .raw (.ref a1)), (N "actual", .raw (.ref a2)), (N "missing", .raw (.ref am))] Γ' -> M'.Perm [(a1, pre'.map eW), (a2, (ul (x :: post) ys).2.map eW), (am, (ul (x :: post) ys).1.map eW)] ->
     ∃ m, m < (pre' ++ [x]).length /\ ∃ pre post, xs = pre ++ post /\ m = pre.length /\ Sub [(N "expected", .raw (.ref a1)), (N "actual", .raw (.ref a2)), (N "missing", .raw (.ref am))] Γ' /\ M'.Perm [(a1, pre.map eW), (a2, (ul post ys).2.map eW), (am, (ul post ys).1.map eW)] := fun h1 h2 =>
    ⟨pre'.length, by simp, pre', x :: post, by rw [hxs]; simp, rfl, h1, h2⟩
   refine Ef.one (Ef1.tryExcept excCls_ValueError (c_1 := true) (R1 := fun o Γ' M' => o = .next /\ x ∈ (ul post ys).2 /\ Γ' = (N "item", eW x) :: [(N "expected", .raw (.ref a1)), (N "actual", .raw (.ref a2)), (N "missing", .raw (.ref am))] /\ M' = [(a2, ((ul post ys).2.erase x).map eW), (a1, pre'.map eW), (am, (ul post ys).1.map eW)])
    (RE1 := fun X d Γ' M' => X = "ValueError" /\ x ∉ (ul post ys).2 /\ Γ' = (N "item", eW x) :: [(N "expected", .raw (.ref a1)), (N "actual", .raw (.ref a2)), (N "missing", .raw (.ref am))] /\ M' = [(a2, (ul post ys).2.map eW), (a1, pre'.map eW), (am, (ul post ys).1.map eW)]) ?_ (fun o Γ' M' h => ?_) (fun Γ' => Ev.bn C) (fun X d Γ' M' h => ⟨h.1, ?_⟩))
   ·refine Ef.perm (M' := [(a2, (ul post ys).2.map eW), (a1, pre'.map eW), (am, (ul post ys).1.map eW)]) ?_ perm3
    exact Ef.one (Ef1.expr (RX := fun d M' => x ∈ (ul post ys).2 /\ M' = [(a2, ((ul post ys).2.erase x).map eW), (a1, pre'.map eW), (am, (ul post ys).1.map eW)]) (RXE := fun X d M' => X = "ValueError" /\ x ∉ (ul post ys).2 /\ M' = [(a2, (ul post ys).2.map eW), (a1, pre'.map eW), (am, (ul post ys).1.map eW)])
     (EvX.remove (z := x) (by walk_at "v") (by walk_at "v") (by lia) (fun h => ⟨h, rfl⟩) (fun h d => ⟨rfl, h, rfl⟩) (by kernel_rfl)) (fun d M' h => ⟨rfl, h.1, rfl, h.2⟩) (fun X d M' h => ⟨h.1, h.2.1, rfl, h.2.2⟩))
   ·obtain ⟨rfl, hin, rfl, rfl⟩ := h
    refine goal (by walk_at "v") ?_
    have e : ul (x :: post) ys = ((ul post ys).1, (ul post ys).2.erase x) := by show ulF x (ul post ys) = _; rw [ulF, if_pos hin]
    rw [e]; exact perm3
   ·obtain ⟨hX, hin, rfl, rfl⟩ := h
    refine Ex.perm (M' := [(am, (ul post ys).1.map eW), (a1, pre'.map eW), (a2, (ul post ys).2.map eW)]) ?_ (perm3'.trans perm3.symm)
    refine Ex.append (x := N "missing") (d := eW x) (by walk_at "v") (by walk_at "v") (sizeOk (by simp; lia)) (Ex.nil ⟨goal (by walk_at "v") ?_, fun a ha => ?_⟩)
    ·have e : ul (x :: post) ys = ((ul post ys).1 ++ [x], (ul post ys).2) := by show ulF x (ul post ys) = _; rw [ulF, if_neg hin]
     rw [e, List.map_append]; exact perm3'
    ·simp at ha ⊢
     rcases ha with h | h | h <;> simp [h]
  ·obtain ⟨hb, rfl⟩ := h
   have : pre = [] := by cases pre with
    | nil => rfl
    | cons x r => cases hb
   subst this
   rw [List.nil_append] at hxs
   subst hxs
   exact ⟨rfl, Sub.trans (by walk_at "v") hsub, hperm⟩
 ·rintro o Γ' M' ⟨rfl, hsub, hperm⟩
  refine Ef.perm (M' := [(am, (ul xs ys).1.map eW), (a1, []), (a2, (ul xs ys).2.map eW)]) (Ef.sub (Γ0 := [(N "missing", .raw (.ref am)), (N "actual", .raw (.ref a2))]) ?_ hsub) (perm3'.trans hperm.symm)
  refine Ef.freeze (x := N "missing") (by walk_at "v") ?_
  exact Ef.one (Ef1.ret (RX := fun d M' => d = .tuple [.list ((ul xs ys).1.map eW), .raw (.ref a2)] /\ M' = [(a1, []), (a2, (ul xs ys).2.map eW)]) (RXE := fun zz zz zz => False) (Ev.y (Ev.tuple (.cons (by walk_at "v") (.cons (by walk_at "v") .nil)) (sizeOk (by simp))) ⟨rfl, rfl⟩) (fun d M' h => ⟨d, M', rfl, List.Sublist.refl _, by rw [h.2]; rfl, h.1, h.2⟩) (fun zz zz zz h => h.elim))
end
end
section
open PyProof.Rows
section
variable [DecidableEq α] {lt : α -> α -> Bool}
theorem Ev.fn (C : Cx ba mg mb) {st : Stmt} (hf : FnG ba mg st a) (hx : autoParam (sc.names.lookup x = some .globalImplicit) tA) (hn : autoParam (x = fnName st) tA) (hd : autoParam ((x == ("__debug__" : Str)) = false) tA) : Ev pg w ba q k sc Γ (.Name x pos) (.raw (.ref a)) :=
 Ev.glob C.L hx (hn ▸ hf.name) hd
theorem EvX.callG (C : Cx ba mg mb) {st : Stmt} (hf : FnG ba mg st a) {p : Pos} {args : List Expr} {M0 M_1 : Mut} {R : D -> Mut -> Prop} {RE : String -> D -> Mut -> Prop} {RX : D -> Mut -> Prop} {RXE : String -> D -> Mut -> Prop}
  (h : FunX pg w ba k (fun vs => PySem.call (.ref a) vs) ds M0 R RE) (ha : EvL pg w ba true k sc Γ pos args ds) (hM : M = M0 ++ M_1) (hr : ∀ d M0', R d M0' -> RX d (M0' ++ M_1)) (hre : ∀ X d M0', RE X d M0' -> RXE X d (M0' ++ M_1)) (hs : ArgsOk pos args)
  (hx : autoParam (sc.names.lookup x = some .globalImplicit) tA) (hn : autoParam (x = fnName st) tA) (hd : autoParam ((x == ("__debug__" : Str)) = false) tA)
  (he : autoParam (∀ U, eval (.Call (.Name x p) args [] pos) U = (do callWith pos (<- eval (.Name x p) U) [] (backTo pos (starEach args U)) (backToKw pos (keywordEach [] U)))) tA) : EvX pg w ba true c k sc Γ M (.Call (.Name x p) args [] pos) RX RXE := by
 subst hM
 exact EvX.call (RL := fun ds' M' => ds' = ds /\ M' = M0 ++ M_1) hf.fn (Ev.fn C hf hx hn hd) (EvL.y ha ⟨rfl, rfl⟩) (fun ds' M' ⟨h1, h2⟩ => by subst h1 h2; exact ⟨M0, M_1, R, RE, rfl, h, hr, hre⟩) hs he
theorem sld_fun (C : Cx ba mg mb) {a1 : Addr} (h1 : FnG ba mg (stmtAt 1) a1) (O : Ord pg w ba enc ok lt) {ys : List α} (hxs : ∀ x ∈ xs, ok x) (hys : ∀ y ∈ ys, ok y) (sx : SortedBy lt xs) (sy : SortedBy lt ys) (zx : xs.length <= 500) (zy : ys.length <= 500) :
  FunX pg w ba 2 (fun vs => PySem.call (.ref a1) vs) [.list (xs.map enc), .list (ys.map enc)] [] (fun d M' => M' = [] /\ d = .tuple [.list ((lack xs ys).map enc), .list ((lack ys xs).map enc)]) (fun zz zz zz => False) :=
 fnX_of_body C h1 (by kernel_rfl) posOk_1 rfl (Ef.mono (sld_body C O hxs hys sx sy zx zy) (fun o Γ' M' h => by obtain ⟨d, M_1, h1, h2, h3, h4⟩ := h; exact ⟨d, M_1, h1, h2, h3, by simpa using h3, h4⟩) (fun X d Γ' M' h => by obtain ⟨M_1, h1, h2, h3⟩ := h; exact h3.elim))
theorem told_body (C : Cx ba mg mb) {a1 : Addr} (h1 : FnG ba mg (stmtAt 1) a1) (O : Ord pg w ba enc ok lt) (L : Lay enc ok n) (hn : n + 2 <= 60) {ys : List α} (hxs : ∀ x ∈ xs, ok x) (hys : ∀ y ∈ ys, ok y) (sx : SortedBy lt xs) (sy : SortedBy lt ys) (zx : xs.length <= 500) (zy : ys.length <= 500)
  {an : Addr} {ns : List D} (zn : ns.length <= 5000) :
  Ef pg w ba true true 2 (fnScope (stmtAt 37)) [(N "one", .list (xs.map enc)), (N "two", .list (ys.map enc)), (N "notes", .raw (.ref an))] [(an, ns)] (fnBody (stmtAt 37))
   (fun o zz M' => ∃ (d : D) (M_1 : Mut), o = .ret d /\ M_1.Sublist M' /\ M_1.map (·.1) = [(an, ns)].map (·.1) /\ d = .list ((lack xs ys).map enc) /\ M_1 = [(an, ns ++ [.bool true])])
   (fun X d zz M' => ∃ M_1 : Mut, M_1.Sublist M' /\ M_1.map (·.1) = [(an, ns)].map (·.1) /\ False) := by
 conv => arg 10; whnf
 have lk : ∀ {us vs : List α}, us.length <= 500 -> (lack us vs).length <= 500 := fun {us vs} h => Nat.le_trans (lack_sub us vs).length_le h
 refine Ef.cons (R1 := fun o Γ' M' => o = .next /\ Γ' = (N "told", .tuple [.list ((lack xs ys).map enc), .list ((lack ys xs).map enc)]) :: [(N "one", .list (xs.map enc)), (N "two", .list (ys.map enc)), (N "notes", .raw (.ref an))] /\ M' = [(an, ns)]) (RE1 := fun zz zz zz zz => False)
  (Ef1.assign (RX := fun d M' => d = .tuple [.list ((lack xs ys).map enc), .list ((lack ys xs).map enc)] /\ M' = [(an, ns)]) (RXE := fun zz zz zz => False) (EvX.callG C h1 (sld_fun C h1 O hxs hys sx sy zx zy) (M0 := []) (M_1 := [(an, ns)]) (.cons (by walk_at "v") (.cons (by walk_at "v") .nil)) rfl (fun d M' h => ⟨h.2, by rw [h.1]; rfl⟩) (fun zz zz zz h => h) (args2 fun U => rfl)) (by kernel_rfl) (fun d M' h => ?_) (fun zz zz zz h => h)) ?_ (fun zz zz zz zz h => h.elim)
 ·obtain ⟨rfl, rfl⟩ := h; exact ⟨rfl, rfl, rfl⟩
 rintro o Γ' M' ⟨rfl, rfl, rfl⟩
 have LL := (L.list).pair L.list
 refine Ef.append (x := N "notes") (d := .bool true) (by walk_at "v") ?_ (sizeOk (by lia)) ?_
 ·have e : D.bool true = D.bool (decide ((lack xs ys, lack ys xs) = (lack xs ys, lack ys xs))) := by simp
  rw [e]
  have ev : ∀ {us vs : List α}, (∀ x ∈ us, ok x) -> ∀ y ∈ lack us vs, ok y := fun h y hy => h y ((lack_sub _ _).subset hy)
  refine Ev.cmp (d_1 := .tuple [.list ((lack xs ys).map enc), .list ((lack ys xs).map enc)]) (d_2 := .tuple [.list ((lack xs ys).map enc), .list ((lack ys xs).map enc)]) (by walk_at "v") (Ev.tuple (.cons ?_ (.cons ?_ .nil)) (sizeOk (by simp))) (eq_dd (x := (lack xs ys, lack ys xs)) (y := (lack xs ys, lack ys xs)) LL (by lia) ⟨ev hxs, ev hys⟩ ⟨ev hxs, ev hys⟩) rfl
  ·show Ev _ _ _ _ _ _ _ _ (.list ((xs.filter fun x => decide (x ∉ ys)).map enc))
   refine Ev.comp (Γ' := [(N "two", .list (ys.map enc))]) (enc := enc) (xs := xs) (p := fun x => decide (x ∉ ys)) (bs := fun d => [(N "item", d)]) (EvS.list (by walk_at "v")) ⟨by kernel_rfl, by walk_at "v", (by kernel_rfl : [N "item"].all _ = true), fun zz => rfl, fun x hx => As.name, fun x hx => ?_, fun x hx zz => by walk_at "v", sizeOk (by lia)⟩
   dsimp only [kA, kN]
   have e2 : decide (x ∉ ys) = !decide (x ∈ ys) := by simp
   rw [e2]
   exact TrI.one (Tr.cmp (d_1 := enc x) (by walk_at "v") (by walk_at "v") (notIn_dd L (by lia) (hxs x hx) hys) rfl)
  ·show Ev _ _ _ _ _ _ _ _ (.list ((ys.filter fun x => decide (x ∉ xs)).map enc))
   refine Ev.comp (Γ' := [(N "one", .list (xs.map enc))]) (enc := enc) (xs := ys) (p := fun x => decide (x ∉ xs)) (bs := fun d => [(N "item", d)]) (EvS.list (by walk_at "v")) ⟨by kernel_rfl, by walk_at "v", (by kernel_rfl : [N "item"].all _ = true), fun zz => rfl, fun x hx => As.name, fun x hx => ?_, fun x hx zz => by walk_at "v", sizeOk (by lia)⟩
   dsimp only [kA, kN]
   have e2 : decide (x ∉ xs) = !decide (x ∈ xs) := by simp
   rw [e2]
   exact TrI.one (Tr.cmp (d_1 := enc x) (by walk_at "v") (by walk_at "v") (notIn_dd L (by lia) (hys x hx) hxs) rfl)
 ·exact Ef.one (Ef1.ret (RX := fun d M' => d = .list ((lack xs ys).map enc) /\ M' = [(an, ns ++ [.bool true])]) (RXE := fun zz zz zz => False) (Ev.y (Ev.itemT (ds := [.list ((lack xs ys).map enc), .list ((lack ys xs).map enc)]) (i := 0) (by walk_at "v") Ev.int rfl (by simp)) ⟨rfl, rfl⟩) (fun d M' h => ⟨d, M', rfl, List.Sublist.refl _, by rw [h.2]; rfl, h.1, h.2⟩) (fun zz zz zz h => h.elim))
theorem posOk_37 : posOk (stmtAt 37) [N "one", N "two", N "notes"] := posOk3 fun zz zz zz zz zz zz => rfl
theorem told_fun (C : Cx ba mg mb) {a1 a37 : Addr} (h1 : FnG ba mg (stmtAt 1) a1) (h37 : FnG ba mg (stmtAt 37) a37) (O : Ord pg w ba enc ok lt) (L : Lay enc ok n) (hn : n + 2 <= 60) {ys : List α} (hxs : ∀ x ∈ xs, ok x) (hys : ∀ y ∈ ys, ok y) (sx : SortedBy lt xs) (sy : SortedBy lt ys) (zx : xs.length <= 500) (zy : ys.length <= 500)
  {an : Addr} {ns : List D} (zn : ns.length <= 5000) :
  FunX pg w ba 3 (fun vs => PySem.call (.ref a37) vs) [.list (xs.map enc), .list (ys.map enc), .raw (.ref an)] [(an, ns)] (fun d M' => d = .list ((lack xs ys).map enc) /\ M' = [(an, ns ++ [.bool true])]) (fun zz zz zz => False) :=
 fnX_of_body C h37 (by kernel_rfl) posOk_37 rfl (told_body C h1 O L hn hxs hys sx sy zx zy zn)
end
end
section
open PySem.SeqAt PySem.MeetsSeq PySem.MeetsSeq2 PySem.MeetsSeq3 PySem.SeqRoads2
open AutoSeq1 (wpAny_loadPart')
noncomputable def RcAt' (A : Around) (s : Shared) (op : CmpOp) (y x : Value) (b : Bool) : Prop :=
 ∀ (pg : Program) (w : World) (E : VP) (Q : VP), Q (.bool b) s -> wpAny (model pg w) A (richCompare op y x) Q E s
noncomputable def lexR (z : Bool) (n2 : Nat) (e r : Nat -> Bool) : Nat -> Nat -> Bool
 | 0, _ => z
 | k + 1, i => if i < n2 then (if e i then lexR z n2 e r k (i + 1) else r i) else z
theorem lexR_s {z : Bool} {n2 : Nat} {e r : Nat -> Bool} : lexR z n2 e r (k + 1) i = if i < n2 then (if e i then lexR z n2 e r k (i + 1) else r i) else z := rfl
theorem lexR_0 {z : Bool} {n2 : Nat} {e r : Nat -> Bool} : lexR z n2 e r 0 i = z := rfl
theorem lt_loop (l b : Addr) (items items2 : Array Value) (n n2 : Nat) (e r : Nat -> Bool) (k : Nat) :
  ∀ i : Nat, items.size - i = k -> Meets (Builtin.«list.__eq__.loop» ⟨[.ref l, .ref b, rawInt i, rawInt 0], []⟩)
   (fun A R s => s.heap.get? l = some (listO items n) /\ s.heap.get? b = some (listO items2 n2) /\
    (∀ j (h1 : j < items.size) (h2 : j < items2.size), EqAt A.in1 s items[j] items2[j] (e j)) /\ (∀ j (h1 : j < items.size) (h2 : j < items2.size), e j = false -> RcAt' A.in1 s .Lt items[j] items2[j] (r j)) /\
    R (.ok (.ret (.bool (lexR (decide (items.size < items2.size)) items2.size e r k i)))) s) := by
 induction k with
 | zero =>
  intro i hk pg w A R s h
  obtain ⟨hp, g, d, tk, os⟩ := s; obtain ⟨hl, hb, he, hr, h⟩ := h
  wp_walk using wpAny_loadPart' hl, wpAny_loadPart' hb
  have hi1 : items[((i : Nat) : Int).toNat]? = none := by simp; lia
  rw [hi1]
  by_cases hlt2 : i < items2.size
  ·have hi2 : items2[((i : Nat) : Int).toNat]? = some items2[i] := by simp [hlt2]
   rw [hi2]
   wp_walk using wpAny_loadPart' hl, wpAny_loadPart' hb
   exact h
  ·have hi2 : items2[((i : Nat) : Int).toNat]? = none := by simp; lia
   rw [hi2]
   wp_walk using wpAny_loadPart' hl, wpAny_loadPart' hb
   exact h
 | succ k ih =>
  intro i hk pg w A R s h
  obtain ⟨hp, g, d, tk, os⟩ := s; obtain ⟨hl, hb, he, hr, h⟩ := h
  wp_walk using wpAny_loadPart' hl, wpAny_loadPart' hb
  have hlt : i < items.size := by lia
  have hi1 : items[((i : Nat) : Int).toNat]? = some items[i] := by simp [hlt]
  have hc : ((i : Int) + 1) = ((i + 1 : Nat) : Int) := by push_cast; rfl
  rw [hi1]
  by_cases hlt2 : i < items2.size
  ·have hi2 : items2[((i : Nat) : Int).toNat]? = some items2[i] := by simp [hlt2]
   rw [hi2]
   refine jB (he i hlt hlt2 pg w _ _ ?_)
   rw [lexR_s, if_pos hlt2] at h
   cases hb' : e i with
   | true =>
    rw [hb', if_pos rfl] at h
    wp_walk
    rw [hc]
    exact ⟨plainId_quiet plain_eq_loop _, codeAny_builtin entry_eq_loop (by
     rw [Around.under_plainId plain_eq_loop _]
     exact ih (i + 1) (by lia) pg w A R _ ⟨hl, hb, he, hr, h⟩)⟩
   | false =>
    rw [hb', if_neg (by simp)] at h
    wp_walk using wpAny_loadPart' hl, wpAny_loadPart' hb
    rw [hi1, hi2]
    refine jB (hr i hlt hlt2 hb' pg w _ _ ?_)
    wp_walk
    exact h
  ·have hi2 : items2[((i : Nat) : Int).toNat]? = none := by simp; lia
   rw [hi2]
   rw [lexR_s, if_neg hlt2] at h
   wp_walk using wpAny_loadPart' hl, wpAny_loadPart' hb
   exact h
theorem lt_list (l b : Addr) (items items2 : Array Value) (n n2 : Nat) (e r : Nat -> Bool) :
  Meets (Builtin.«list.__lt__» ⟨[.ref l, .ref b], []⟩)
   (fun A R s => s.heap.get? l = some (listO items n) /\ s.heap.get? b = some (listO items2 n2) /\
    (∀ j (h1 : j < items.size) (h2 : j < items2.size), EqAt A.in1 s items[j] items2[j] (e j)) /\ (∀ j (h1 : j < items.size) (h2 : j < items2.size), e j = false -> RcAt' A.in1 s .Lt items[j] items2[j] (r j)) /\
    R (.ok (.ret (.bool (lexR (decide (items.size < items2.size)) items2.size e r items.size 0)))) s) := by
 intro pg w A R s h
 obtain ⟨hp, g, d, tk, os⟩ := s; obtain ⟨hl, hb, he, hr, h⟩ := h
 have f3 := AutoSeq1.sub_list_list
 have hl : hp.get? l = some { cls := .type "list", dict := none, data := .seq items n, slots := #[] } := hl
 have hb : hp.get? b = some { cls := .type "list", dict := none, data := .seq items2 n2, slots := #[] } := hb
 wp_walk using wpAny_loadPart' hl, wpAny_loadPart' hb
 exact ⟨plainId_quiet plain_eq_loop _, codeAny_builtin entry_eq_loop (by
  rw [Around.under_plainId plain_eq_loop _]
  exact lt_loop l b items items2 n n2 e r _ 0 rfl pg w A R _ ⟨hl, hb, he, hr, h⟩)⟩
theorem gt_loop (l b : Addr) (items items2 : Array Value) (n n2 : Nat) (e r : Nat -> Bool) (k : Nat) :
  ∀ i : Nat, items.size - i = k -> Meets (Builtin.«list.__eq__.loop» ⟨[.ref l, .ref b, rawInt i, rawInt 4], []⟩)
   (fun A R s => s.heap.get? l = some (listO items n) /\ s.heap.get? b = some (listO items2 n2) /\
    (∀ j (h1 : j < items.size) (h2 : j < items2.size), EqAt A.in1 s items[j] items2[j] (e j)) /\ (∀ j (h1 : j < items.size) (h2 : j < items2.size), e j = false -> RcAt' A.in1 s .Gt items[j] items2[j] (r j)) /\
    R (.ok (.ret (.bool (lexR (decide (items.size > items2.size)) items2.size e r k i)))) s) := by
 induction k with
 | zero =>
  intro i hk pg w A R s h
  obtain ⟨hp, g, d, tk, os⟩ := s; obtain ⟨hl, hb, he, hr, h⟩ := h
  wp_walk using wpAny_loadPart' hl, wpAny_loadPart' hb
  have hi1 : items[((i : Nat) : Int).toNat]? = none := by simp; lia
  rw [hi1]
  by_cases hlt2 : i < items2.size
  ·have hi2 : items2[((i : Nat) : Int).toNat]? = some items2[i] := by simp [hlt2]
   rw [hi2]
   wp_walk using wpAny_loadPart' hl, wpAny_loadPart' hb
   exact h
  ·have hi2 : items2[((i : Nat) : Int).toNat]? = none := by simp; lia
   rw [hi2]
   wp_walk using wpAny_loadPart' hl, wpAny_loadPart' hb
   exact h
 | succ k ih =>
  intro i hk pg w A R s h
  obtain ⟨hp, g, d, tk, os⟩ := s; obtain ⟨hl, hb, he, hr, h⟩ := h
  wp_walk using wpAny_loadPart' hl, wpAny_loadPart' hb
  have hlt : i < items.size := by lia
  have hi1 : items[((i : Nat) : Int).toNat]? = some items[i] := by simp [hlt]
  have hc : ((i : Int) + 1) = ((i + 1 : Nat) : Int) := by push_cast; rfl
  rw [hi1]
  by_cases hlt2 : i < items2.size
  ·have hi2 : items2[((i : Nat) : Int).toNat]? = some items2[i] := by simp [hlt2]
   rw [hi2]
   refine jB (he i hlt hlt2 pg w _ _ ?_)
   rw [lexR_s, if_pos hlt2] at h
   cases hb' : e i with
   | true =>
    rw [hb', if_pos rfl] at h
    wp_walk
    rw [hc]
    exact ⟨plainId_quiet plain_eq_loop _, codeAny_builtin entry_eq_loop (by
     rw [Around.under_plainId plain_eq_loop _]
     exact ih (i + 1) (by lia) pg w A R _ ⟨hl, hb, he, hr, h⟩)⟩
   | false =>
    rw [hb', if_neg (by simp)] at h
    wp_walk using wpAny_loadPart' hl, wpAny_loadPart' hb
    rw [hi1, hi2]
    refine jB (hr i hlt hlt2 hb' pg w _ _ ?_)
    wp_walk
    exact h
  ·have hi2 : items2[((i : Nat) : Int).toNat]? = none := by simp; lia
   rw [hi2]
   rw [lexR_s, if_neg hlt2] at h
   wp_walk using wpAny_loadPart' hl, wpAny_loadPart' hb
   exact h
theorem gt_list (l b : Addr) (items items2 : Array Value) (n n2 : Nat) (e r : Nat -> Bool) :
  Meets (Builtin.«list.__gt__» ⟨[.ref l, .ref b], []⟩)
   (fun A R s => s.heap.get? l = some (listO items n) /\ s.heap.get? b = some (listO items2 n2) /\
    (∀ j (h1 : j < items.size) (h2 : j < items2.size), EqAt A.in1 s items[j] items2[j] (e j)) /\ (∀ j (h1 : j < items.size) (h2 : j < items2.size), e j = false -> RcAt' A.in1 s .Gt items[j] items2[j] (r j)) /\
    R (.ok (.ret (.bool (lexR (decide (items.size > items2.size)) items2.size e r items.size 0)))) s) := by
 intro pg w A R s h
 obtain ⟨hp, g, d, tk, os⟩ := s; obtain ⟨hl, hb, he, hr, h⟩ := h
 have f3 := AutoSeq1.sub_list_list
 have hl : hp.get? l = some { cls := .type "list", dict := none, data := .seq items n, slots := #[] } := hl
 have hb : hp.get? b = some { cls := .type "list", dict := none, data := .seq items2 n2, slots := #[] } := hb
 wp_walk using wpAny_loadPart' hl, wpAny_loadPart' hb
 exact ⟨plainId_quiet plain_eq_loop _, codeAny_builtin entry_eq_loop (by
  rw [Around.under_plainId plain_eq_loop _]
  exact gt_loop l b items items2 n n2 e r _ 0 rfl pg w A R _ ⟨hl, hb, he, hr, h⟩)⟩
end
section
open PySem.SeqAt
structure LtEl {α : Type} (enc : α -> D) (ok : α -> Prop) (lt : α -> α -> Bool) : Prop where
 lt_ : ∀ (A : Around) (s : Shared) (X : List Addr) (v u : Value) (x y : α), ok x -> ok y -> At X s.heap v (enc x) -> At X s.heap u (enc y) -> RcAt' A s .Lt v u (lt x y)
 gt_ : ∀ (A : Around) (s : Shared) (X : List Addr) (v u : Value) (x y : α), ok x -> ok y -> At X s.heap v (enc x) -> At X s.heap u (enc y) -> RcAt' A s .Gt v u (lt y x)
theorem LtEl.nat : LtEl (fun n : Nat => D.int n) (fun zz => True) (fun x y => decide (x < y)) where
 lt_ := fun A s X v u x y zz zz a b pg w E Q hq => by
  obtain ⟨t, rfl⟩ := a.int_; obtain ⟨t', rfl⟩ := b.int_
  have e : decide ((x : Int) < (y : Int)) = decide (x < y) := by simp
  exact PyProof.Rows.lt_int (by rw [e]; exact hq)
 gt_ := fun A s X v u x y zz zz a b pg w E Q hq => by
  obtain ⟨t, rfl⟩ := a.int_; obtain ⟨t', rfl⟩ := b.int_
  have e : decide ((y : Int) < (x : Int)) = decide (y < x) := by simp
  exact PyProof.Rows.gt_int (by rw [e]; exact hq)
noncomputable def ltL {α : Type} [DecidableEq α] (lt : α -> α -> Bool) : List α -> List α -> Bool
 | [], ys => !ys.isEmpty
 | _ :: _, [] => false
 | x :: xs, y :: ys => if x = y then ltL lt xs ys else lt x y
theorem ltL_n [DecidableEq α] {lt : α -> α -> Bool} {ys : List α} : ltL lt [] ys = !ys.isEmpty := rfl
theorem ltL_e [DecidableEq α] {lt : α -> α -> Bool} {x : α} : ltL lt (x :: xs) [] = false := rfl
theorem ltL_c [DecidableEq α] {lt : α -> α -> Bool} {x y : α} {ys : List α} : ltL lt (x :: xs) (y :: ys) = if x = y then ltL lt xs ys else lt x y := rfl
section
variable [DecidableEq α] {lt : α -> α -> Bool}
theorem lexR_lt {ys : List α} {e r : Nat -> Bool} (he : ∀ j (h1 : j < xs.length) (h2 : j < ys.length), e j = decide (xs[j] = ys[j])) (hr : ∀ j (h1 : j < xs.length) (h2 : j < ys.length), r j = lt xs[j] ys[j]) :
  ∀ k i, xs.length - i = k -> i <= xs.length -> i <= ys.length -> lexR (decide (xs.length < ys.length)) ys.length e r k i = ltL lt (xs.drop i) (ys.drop i)
 | 0, i, hk, h1, h2 => by
  have hi : i = xs.length := by lia
  subst hi
  rw [List.drop_length, lexR_0, ltL_n]
  by_cases h : xs.length < ys.length
  ·simp [h]
  ·have : ys.length = xs.length := by lia
   simp [this]
 | k + 1, i, hk, h1, h2 => by
  have hlt : i < xs.length := by lia
  rw [lexR_s, List.drop_eq_getElem_cons hlt]
  by_cases h : i < ys.length
  ·rw [if_pos h, List.drop_eq_getElem_cons h, ltL_c, he i hlt h, hr i hlt h]
   by_cases hq : xs[i] = ys[i]
   ·rw [if_pos (decide_eq_true hq), if_pos hq]
    exact lexR_lt he hr k (i + 1) (by lia) (by lia) (by lia)
   ·rw [if_neg (by simp [hq]), if_neg hq]
  ·have hy : ys.drop i = [] := List.drop_eq_nil_of_le (by lia)
   rw [if_neg h, hy, ltL_e, decide_eq_false (by lia)]
theorem lexR_gt {ys : List α} {e r : Nat -> Bool} (he : ∀ j (h1 : j < xs.length) (h2 : j < ys.length), e j = decide (xs[j] = ys[j])) (hr : ∀ j (h1 : j < xs.length) (h2 : j < ys.length), r j = lt ys[j] xs[j]) :
  ∀ k i, xs.length - i = k -> i <= xs.length -> i <= ys.length -> lexR (decide (xs.length > ys.length)) ys.length e r k i = ltL lt (ys.drop i) (xs.drop i)
 | 0, i, hk, h1, h2 => by
  have hi : i = xs.length := by lia
  subst hi
  rw [List.drop_length, lexR_0, decide_eq_false (by lia)]
  cases ys.drop xs.length <;> rfl
 | k + 1, i, hk, h1, h2 => by
  have hlt : i < xs.length := by lia
  rw [lexR_s, List.drop_eq_getElem_cons hlt]
  by_cases h : i < ys.length
  ·rw [if_pos h, List.drop_eq_getElem_cons h, ltL_c, he i hlt h, hr i hlt h]
   by_cases hq : xs[i] = ys[i]
   ·rw [if_pos (decide_eq_true hq), if_pos hq.symm]
    exact lexR_gt he hr k (i + 1) (by lia) (by lia) (by lia)
   ·rw [if_neg (by simp [hq]), if_neg (fun q => hq q.symm)]
  ·have hy : ys.drop i = [] := List.drop_eq_nil_of_le (by lia)
   rw [if_neg h, hy, decide_eq_true (by lia)]
   rfl
theorem Lin.list (L : Lin lt ok) : Lin (ltL lt) (fun xs => ∀ x ∈ xs, ok x) where
 irr := fun xs => by
  induction xs with
  | nil => rfl
  | cons x xs ih => rw [ltL_c, if_pos rfl]; exact ih
 tr := fun xs => by
  induction xs with
  | nil =>
   intro ys zs h1 h2
   cases zs with
   | nil => cases ys <;> cases h2
   | cons z zs => rfl
  | cons x xs ih =>
   intro ys zs h1 h2
   cases ys with
   | nil => cases h1
   | cons y ys =>
    cases zs with
    | nil => cases h2
    | cons z zs =>
     rw [ltL_c] at h1 h2 ⊢
     by_cases hxy : x = y
     ·subst hxy
      rw [if_pos rfl] at h1
      by_cases hyz : x = z
      ·rw [if_pos hyz] at h2 ⊢; exact ih ys zs h1 h2
      ·rw [if_neg hyz] at h2 ⊢; exact h2
     ·rw [if_neg hxy] at h1
      by_cases hyz : y = z
      ·subst hyz; rw [if_neg hxy]; exact h1
      ·rw [if_neg hyz] at h2
       have h3 := L.tr _ _ _ h1 h2
       by_cases hxz : x = z
       ·rw [hxz, L.irr] at h3; cases h3
       ·rw [if_neg hxz]; exact h3
 tri := fun xs => by
  induction xs with
  | nil =>
   intro ys _ _ hne
   cases ys with
   | nil => exact absurd rfl hne
   | cons y ys => exact .inl rfl
  | cons x xs ih =>
   intro ys h1 h2 hne
   cases ys with
   | nil => exact .inr rfl
   | cons y ys =>
    rw [ltL_c, ltL_c]
    by_cases hxy : x = y
    ·subst hxy
     rw [if_pos rfl, if_pos rfl]
     exact ih ys (fun z hz => h1 z (.tail _ hz)) (fun z hz => h2 z (.tail _ hz)) fun q => hne (by rw [q])
    ·rw [if_neg hxy, if_neg fun q => hxy q.symm]
     exact L.tri x y (h1 x (.head _)) (h2 y (.head _)) hxy
end
section
variable [DecidableEq α] {lt : α -> α -> Bool}
theorem place_list (L : Lay enc ok n) (T : LtEl enc ok lt) {vs ws : Array Value} {ys : List α} (as : Ats X s.heap vs.toList (xs.map enc)) (bs : Ats X s.heap ws.toList (ys.map enc)) (hxs : ∀ x ∈ xs, ok x) (hys : ∀ y ∈ ys, ok y)
 (hu : A.units + 1 + n < cLine) :
  (∀ j (h1 : j < vs.size) (h2 : j < ws.size), ∃ (h1' : j < xs.length) (h2' : j < ys.length), EqAt A.in1 s vs[j] ws[j] (decide (xs[j] = ys[j])) /\ RcAt' A.in1 s .Lt vs[j] ws[j] (lt xs[j] ys[j]) /\ RcAt' A.in1 s .Gt vs[j] ws[j] (lt ys[j] xs[j])) := by
 intro j h1 h2
 obtain ⟨d, hd, av⟩ := as.get' (k := j) (v := vs[j]) (by simp [h1])
 obtain ⟨d', hd', bv⟩ := bs.get' (k := j) (v := ws[j]) (by simp [h2])
 rw [List.getElem?_map] at hd hd'
 obtain ⟨x, hx, rfl⟩ := Option.map_eq_some_iff.1 hd
 obtain ⟨y, hy, rfl⟩ := Option.map_eq_some_iff.1 hd'
 obtain ⟨l1, rfl⟩ := List.getElem?_eq_some_iff.1 hx
 obtain ⟨l2, rfl⟩ := List.getElem?_eq_some_iff.1 hy
 have ox := hxs _ (List.getElem_mem l1)
 have oy := hys _ (List.getElem_mem l2)
 exact ⟨l1, l2, eqv_at L ox oy av bv (by show A.units + 1 + n < cLine; exact hu), T.lt_ _ _ X _ _ _ _ ox oy av bv, T.gt_ _ _ X _ _ _ _ ox oy av bv⟩
theorem lt_dl (L : Lay enc ok n) (hn : n <= 60) (T : LtEl enc ok lt) {ys : List α} (hxs : ∀ x ∈ xs, ok x) (hys : ∀ y ∈ ys, ok y) : Fun2 pg w ba q k (compareOp .Lt) (.list (xs.map enc)) (.list (ys.map enc)) (.bool (ltL lt xs ys)) := by
 intro s X v_1 v_2 o a_1 a_2 A Q E R hQ
 obtain ⟨l, vs, m, rfl, _, e, as⟩ := a_1.list_
 obtain ⟨l', ws, m', rfl, _, e', bs⟩ := a_2.list_
 have zx : vs.size = xs.length := by have := size_of_ats as; simpa using this
 have zy : ws.size = ys.length := by have := size_of_ats bs; simpa using this
 have pl := place_list L T as bs hxs hys (A := A) (by have := R.u64; lia)
 show wpAny _ _ (richCompare .Lt (.ref l) (.ref l')) _ _ _
 refine wpAny_richCompare_same_room ⟨_, e, rfl⟩ ⟨_, e', rfl⟩ F.slot_list_lt ?_ R.u
 refine wpAny_call (codeAny_call_builtin F.slot_list_lt.plain F.entry_list_lt (F.slot_list_lt.check _ _ _ _ _ _ _ _ ⟨_, e, rfl⟩ (F.args_list_lt_2 _ _) ?_))
 refine lt_list l l' vs ws m m' (fun j => if h1 : j < xs.length then if h2 : j < ys.length then decide (xs[j] = ys[j]) else false else false) (fun j => if h1 : j < xs.length then if h2 : j < ys.length then lt xs[j] ys[j] else false else false) pg w A (fun r s' => match r with | .ok (.ret v) => v ≠ .notImplemented /\ Q v s' | .ok _ => False | .error e => E e s') s
  ⟨e, e', fun j h1 h2 => ?_, fun j h1 h2 zz => ?_, ?_⟩
 ·obtain ⟨l1, l2, p, _⟩ := pl j h1 h2
  simpa [l1, l2] using p
 ·obtain ⟨l1, l2, _, p, _⟩ := pl j h1 h2
  simpa [l1, l2] using p
 ·have := lexR_lt (lt := lt) (xs := xs) (ys := ys) (e := fun j => if h1 : j < xs.length then if h2 : j < ys.length then decide (xs[j] = ys[j]) else false else false) (r := fun j => if h1 : j < xs.length then if h2 : j < ys.length then lt xs[j] ys[j] else false else false) (fun j h1 h2 => by simp [h1, h2]) (fun j h1 h2 => by simp [h1, h2]) xs.length 0 (by lia) (by lia) (by lia)
  rw [zx, zy, this]
  exact ⟨(by intro h; cases h), hQ _ s.heap s.toks (Ext.refl _) (.bool _)⟩
theorem gt_dl (L : Lay enc ok n) (hn : n <= 60) (T : LtEl enc ok lt) {ys : List α} (hxs : ∀ x ∈ xs, ok x) (hys : ∀ y ∈ ys, ok y) : Fun2 pg w ba q k (compareOp .Gt) (.list (xs.map enc)) (.list (ys.map enc)) (.bool (ltL lt ys xs)) := by
 intro s X v_1 v_2 o a_1 a_2 A Q E R hQ
 obtain ⟨l, vs, m, rfl, _, e, as⟩ := a_1.list_
 obtain ⟨l', ws, m', rfl, _, e', bs⟩ := a_2.list_
 have zx : vs.size = xs.length := by have := size_of_ats as; simpa using this
 have zy : ws.size = ys.length := by have := size_of_ats bs; simpa using this
 have pl := place_list L T as bs hxs hys (A := A) (by have := R.u64; lia)
 show wpAny _ _ (richCompare .Gt (.ref l) (.ref l')) _ _ _
 refine wpAny_richCompare_same_room ⟨_, e, rfl⟩ ⟨_, e', rfl⟩ F.slot_list_gt ?_ R.u
 refine wpAny_call (codeAny_call_builtin F.slot_list_gt.plain F.entry_list_gt (F.slot_list_gt.check _ _ _ _ _ _ _ _ ⟨_, e, rfl⟩ (F.args_list_gt_2 _ _) ?_))
 refine gt_list l l' vs ws m m' (fun j => if h1 : j < xs.length then if h2 : j < ys.length then decide (xs[j] = ys[j]) else false else false) (fun j => if h1 : j < xs.length then if h2 : j < ys.length then lt ys[j] xs[j] else false else false) pg w A (fun r s' => match r with | .ok (.ret v) => v ≠ .notImplemented /\ Q v s' | .ok _ => False | .error e => E e s') s
  ⟨e, e', fun j h1 h2 => ?_, fun j h1 h2 zz => ?_, ?_⟩
 ·obtain ⟨l1, l2, p, _⟩ := pl j h1 h2
  simpa [l1, l2] using p
 ·obtain ⟨l1, l2, _, _, p⟩ := pl j h1 h2
  simpa [l1, l2] using p
 ·have := lexR_gt (lt := lt) (xs := xs) (ys := ys) (e := fun j => if h1 : j < xs.length then if h2 : j < ys.length then decide (xs[j] = ys[j]) else false else false) (r := fun j => if h1 : j < xs.length then if h2 : j < ys.length then lt ys[j] xs[j] else false else false) (fun j h1 h2 => by simp [h1, h2]) (fun j h1 h2 => by simp [h1, h2]) xs.length 0 (by lia) (by lia) (by lia)
  rw [zx, zy, this]
  exact ⟨(by intro h; cases h), hQ _ s.heap s.toks (Ext.refl _) (.bool _)⟩
theorem Ord.list (L : Lay enc ok n) (hn : n + 1 <= 60) (T : LtEl enc ok lt) (Ln : Lin lt ok) : Ord pg w ba (fun xs : List α => D.list (xs.map enc)) (fun xs => ∀ x ∈ xs, ok x) (ltL lt) where
 lt_ := fun q k xs ys h1 h2 => lt_dl L (by lia) T h1 h2
 gt_ := fun q k xs ys h1 h2 => gt_dl L (by lia) T h1 h2
 eq_ := fun q k xs ys h1 h2 => eq_dd L.list hn h1 h2
 lin := Ln.list
theorem Lin.nat : Lin (fun x y : Nat => decide (x < y)) (fun zz => True) := ⟨fun x => by simp, fun x y z h1 h2 => by simp at *; lia, fun x y zz zz h => by simp; lia⟩
theorem Ord.nat : Ord pg w ba (fun n : Nat => D.int n) (fun zz => True) (fun x y => decide (x < y)) where
 lt_ := fun q k x y zz zz => by
  have e : decide ((x : Int) < (y : Int)) = decide (x < y) := by simp
  rw [<- e]; exact lt_ii
 gt_ := fun q k x y zz zz => by
  have e : decide ((y : Int) < (x : Int)) = decide (y < x) := by simp
  rw [<- e]; exact gt_ii
 eq_ := fun q k x y h1 h2 => eq_dd Lay.nat (by lia) h1 h2
 lin := Lin.nat
end
end
section
open PySem.W PyProof.Rows
section
theorem my_list_sort {lt : Nat -> Nat -> Bool} {P : PySem.Fin -> Shared -> Prop} (ho : s.heap.get? a = some (seqObj "list" vs.toArray n)) (h64 : vs.length < 64) (W : SWO lt)
  (hT : ∀ v ∈ vs, ∃ (l : Addr) (ws : Array Value) (m : Nat), v = Value.ref l /\ l ≠ a /\ s.heap.get? l = some (listO ws m))
  (hc : ∀ h', (∀ b o, b ≠ a -> s.heap.get? b = some o -> h'.get? b = some o) -> ∀ i j, i < vs.length -> j < vs.length -> ∀ (A' : Around), A'.units = A.units -> ∀ (C : Bool -> Shared -> Prop), C (lt i j) { s with heap := h' } -> wpAny (model pg w) A' (keyLt' oneType' (vs.getD i Value.none) (vs.getD j Value.none)) C (fun zz zz => False) { s with heap := h' })
  (h : ∀ p : Array Nat, p.Perm (List.toArray (List.range vs.length)) -> Up lt p vs.length -> P (.done (.ret .none)) { s with heap := sortedHeap s.heap a vs (List.toArray (p.toList.map fun i => vs.getD i Value.none)) }) :
  wpAny (model pg w) A (Builtin.«list.sort» ⟨[.ref a], []⟩) P E s := by
 rw [list_sort_plain]
 have ha : a < s.heap.objs.size := Heap.lt_size ho
 refine jB (listItems_at ho rfl ?_)
 refine jB (listUpdate_at ho rfl ?_ (by rw [List.size_toArray, sizeLine_eq]; lia) (Nat.zero_le _))
 obtain ⟨e1, ho1⟩ : ∃ e1, (s.heap.update a (Obj.mapSeq fun zz => #[])).get? a = some (seqObj "list" #[] e1) := ⟨_, get?_update_seq ho (fun zz => #[])⟩
 refine jB (seqEpoch_at ho1 rfl ?_)
 refine jB (wpAny_newTuple ?_ (by show vs.length <= _; rw [sizeLine_eq]; lia))
 refine jB (wpAny_newList ?_ (Nat.zero_le _))
 refine wpAny_holding ?_
 have keep : ∀ b o, b ≠ a -> s.heap.get? b = some o -> (((s.heap.update a (Obj.mapSeq fun zz => #[])).push (seqObj "tuple" vs.toArray 0)).push (seqObj "list" #[] 0)).get? b = some o := fun b o hb e =>
  Heap.get?_push_of_some _ (Heap.get?_push_of_some _ ((Heap.get?_update_ne _ _ _ _ hb).trans e))
 have ho6 : (((s.heap.update a (Obj.mapSeq fun zz => #[])).push (seqObj "tuple" vs.toArray 0)).push (seqObj "list" #[] 0)).get? a = some (seqObj "list" #[] e1) :=
  Heap.get?_push_of_some _ (Heap.get?_push_of_some _ ho1)
 show wpAny (model pg w) A _ P E { s with heap := ((s.heap.update a (Obj.mapSeq fun zz => #[])).push (seqObj "tuple" vs.toArray 0)).push (seqObj "list" #[] 0) }
 dsimp only
 have outOf : ∀ (st' : SortSt) (p : Array Nat), arrOf st' = p.map (kas_item (pairsOf vs)) -> (arrOf st').map (·.2) = List.toArray (p.toList.map fun i => vs.getD i Value.none) := fun st' p har => by
  apply Array.toList_inj.1
  rw [har, Array.map_map, Array.toList_map]
  exact List.map_congr_left fun i zz => by show (kas_item (pairsOf vs) i).2 = _; rw [kas_item_eq]
 have est : SortSt.mk' oneType' (vs.toArray.zip vs.toArray) #[] 7 none = kas_st oneType' (pairsOf vs) (List.toArray (List.range vs.length)) := by
  have e := kas_range (pairsOf vs)
  rw [pairsOf_size] at e
  show SortSt.mk' oneType' (pairsOf vs) #[] 7 none = SortSt.mk' oneType' ((List.toArray (List.range vs.length)).map (kas_item (pairsOf vs))) #[] 7 none
  rw [e]
 by_cases h2 : vs.toArray.size < 2
 ·rw [if_pos h2, if_pos h2]
  rw [List.size_toArray] at h2
  refine jB (jP ?_)
  rw [StateT.run_pure]
  refine jB (jP ?_)
  dsimp only
  refine jB (seqEpoch_at ho6 rfl ?_)
  have e := outOf (SortSt.mk' general' (vs.toArray.zip vs.toArray) #[] 7 none) (List.toArray (List.range vs.length)) (by
   have e := kas_range (pairsOf vs)
   rw [pairsOf_size] at e
   exact e.symm)
  rw [e]
  refine jB (listUpdate_at ho6 rfl ?_ (Nat.zero_le _) (by show (List.toArray _).size <= _; simp [sizeLine_eq]; lia))
  simp only [bne_self_eq_false, Bool.false_eq_true, if_false]
  exact jP (h (List.toArray (List.range vs.length)) (Array.Perm.refl _) fun a b hab hb => by lia)
 ·rw [if_neg h2, if_neg h2]
  rw [List.size_toArray] at h2
  have hL : ∀ v ∈ vs, Looks (model pg w) (((s.heap.update a (Obj.mapSeq fun zz => #[])).push (seqObj "tuple" vs.toArray 0)).push (seqObj "list" #[] 0)) (typeOf v) (.type "list") := fun v hv A' Q' E' s' kp hq => by
   obtain ⟨l, ws, m, rfl, hla, hl⟩ := hT v hv
   exact wpAny_typeOf (T := "list") ⟨_, kp _ _ (keep l _ hla hl), rfl⟩ hq
  refine jB (kas_kind (by lia) hL rfl rfl ?_)
  have cmp : ∀ i j (C : Bool -> Shared -> Prop) s', i < vs.length -> j < vs.length -> s' = { s with heap := ((s.heap.update a (Obj.mapSeq fun zz => #[])).push (seqObj "tuple" vs.toArray 0)).push (seqObj "list" #[] 0) } -> (∀ s'', s'' = { s with heap := ((s.heap.update a (Obj.mapSeq fun zz => #[])).push (seqObj "tuple" vs.toArray 0)).push (seqObj "list" #[] 0) } -> C (lt i j) s'') ->
    kas_cmp pg w A oneType' (pairsOf vs) i j C s' := fun i j C s' hi hj hs hC => by
   subst hs
   rw [<- kas_ask_eq]
   exact hc _ keep i j hi hj A rfl C (hC _ rfl)
  have ask := wp_run (Inv := fun s' => s' = { s with heap := ((s.heap.update a (Obj.mapSeq fun zz => #[])).push (seqObj "tuple" vs.toArray 0)).push (seqObj "list" #[] 0) }) cmp (ask_sort (n := vs.length) (by lia)) rfl
   (Q := fun p s' => s' = { s with heap := ((s.heap.update a (Obj.mapSeq fun zz => #[])).push (seqObj "tuple" vs.toArray 0)).push (seqObj "list" #[] 0) } /\ p = runT lt (kas_sort vs.length)) (fun s' hs => ⟨hs, rfl⟩)
  have run := kas_runs (E := E) (Q := fun zz st' s' => ∃ p : Array Nat, p.size = vs.length /\ arrOf st' = p.map (kas_item (pairsOf vs)) /\ failedOf st' = none /\ s' = { s with heap := ((s.heap.update a (Obj.mapSeq fun zz => #[])).push (seqObj "tuple" vs.toArray 0)).push (seqObj "list" #[] 0) } /\ p = runT lt (kas_sort vs.length))
   (by lia) h64 (fun p' st' s' a1 a2 a3 a4 => ⟨p', a1, a2, a3, a4⟩) ask
  rw [<- est] at run
  refine jB (wpAny_mono run ?_ fun zz zz e => e)
  rintro ⟨⟨⟩, st'⟩ s' ⟨p, hp, har, hf, rfl, rfl⟩
  dsimp only
  rw [outOf st' _ har]
  refine jB (seqEpoch_at ho6 rfl ?_)
  refine jB (listUpdate_at ho6 rfl ?_ (Nat.zero_le _) (by show (List.toArray _).size <= _; rw [List.size_toArray, List.length_map, Array.length_toList, hp, sizeLine_eq]; lia))
  rw [hf]
  simp only [bne_self_eq_false, Bool.false_eq_true, if_false]
  exact jP (h _ ((ask_sort (n := vs.length) (by lia)).run lt) (run_sort W (by lia)))
theorem my_sorted {l : Addr} {lt : Nat -> Nat -> Bool} {Q : VP} (hl : s.heap.IsList l vs.toArray) (h64 : vs.length < 64) (W : SWO lt)
  (hT : ∀ v ∈ vs, ∃ (l : Addr) (ws : Array Value) (m : Nat), v = Value.ref l /\ s.heap.get? l = some (listO ws m))
  (hc : ∀ h', Ext s.heap h' -> ∀ i j, i < vs.length -> j < vs.length -> ∀ (A' : Around), A'.units = A.units + 2 -> ∀ (C : Bool -> Shared -> Prop), C (lt i j) { s with heap := h' } -> wpAny (model pg w) A' (keyLt' oneType' (vs.getD i Value.none) (vs.getD j Value.none)) C (fun zz zz => False) { s with heap := h' })
  (h : ∀ p : Array Nat, p.Perm (List.toArray (List.range vs.length)) -> Up lt p vs.length -> Q (.ref (s.heap.objs.size + 1)) { s with heap := sortedAll s.heap vs (List.toArray (p.toList.map fun i => vs.getD i Value.none)) }) :
  wpAny (model pg w) A (call (.builtin "sorted") [.ref l]) Q E s := by
 refine Calls.call_function_entry kind_sorted plain_sorted entry_sorted (args_sorted1 _) ?_
 unfold Builtin.«sorted»
 refine jB (m := checkCount "sorted" 1 1 _) (jP ?_)
 refine jB (collect_list hl ?_ (by rw [sizeLine_eq]; lia))
 refine jB (wpAny_newList ?_ (by rw [sizeLine_eq]; lia))
 have hsz : ((s.heap.push (seqObj "list" #[] 0)).update s.heap.objs.size (Obj.mapSeq (· ++ vs.toArray))).objs.size = s.heap.objs.size + 1 := by
  rw [Heap.size_update, size_push']
 have hoL : (((s.heap.push (seqObj "list" #[] 0)).update s.heap.objs.size (Obj.mapSeq (· ++ vs.toArray))).push (seqObj "list" vs.toArray 0)).get? (s.heap.objs.size + 1) = some (seqObj "list" vs.toArray 0) := by
  rw [<- hsz]; exact Heap.get?_push_size _ rfl
 have keep : ∀ b o, s.heap.get? b = some o -> (((s.heap.push (seqObj "list" #[] 0)).update s.heap.objs.size (Obj.mapSeq (· ++ vs.toArray))).push (seqObj "list" vs.toArray 0)).get? b = some o := fun b o q => by
  have hlt : b < s.heap.objs.size := Heap.lt_size q
  rw [Heap.get?_push_ne _ _ _ (by rw [hsz]; exact Nat.ne_of_lt (Nat.lt_succ_of_lt hlt)), Heap.get?_update_ne _ _ _ _ (Nat.ne_of_lt hlt), Heap.get?_push_ne _ _ _ (Nat.ne_of_lt hlt)]
  exact q
 show wpAny _ _ _ _ _ { s with heap := ((s.heap.push (seqObj "list" #[] 0)).update s.heap.objs.size (Obj.mapSeq (· ++ vs.toArray))).push (seqObj "list" vs.toArray 0) }
 rw [hsz]
 refine jB (wpAny_holding (wpAny_call_entry slot_list_sort ⟨_, hoL, rfl⟩ entry_list_sort (my_list_sort (lt := lt) hoL h64 W (fun v hv => ?_) (fun h' hk i j hi hj A' hA C hC => ?_) fun p a1 a2 => ⟨_, rfl, ?_⟩) (args_list_sort _)))
 ·obtain ⟨l', ws, m, rfl, hl'⟩ := hT v hv
  exact ⟨l', ws, m, rfl, Nat.ne_of_lt (Nat.lt_succ_of_lt (Heap.lt_size hl')), keep _ _ hl'⟩
 ·exact hc h' (fun b o q => hk b o (Nat.ne_of_lt (Nat.lt_succ_of_lt (Heap.lt_size q))) (keep b o q)) i j hi hj A' hA C hC
 ·exact jP ⟨_, rfl, h p a1 a2⟩
end
end
section
open PySem.W PyProof.Rows
noncomputable def sortB {α : Type} (lt : α -> α -> Bool) (xs : List α) : List α := xs.mergeSort fun a b => !lt b a
section
variable [DecidableEq α] {lt : α -> α -> Bool}
theorem le_trans' (L : Lin lt fun zz => True) (a b c : α) (h1 : (!lt b a) = true) (h2 : (!lt c b) = true) : (!lt c a) = true := by
 cases h : lt c a with
 | false => rfl
 | true =>
  exfalso
  by_cases hbc : b = c
  ·subst hbc; rw [h] at h1; cases h1
  ·rcases L.tri b c trivial trivial hbc with h3 | h3
   ·have := L.tr _ _ _ h3 h; rw [this] at h1; cases h1
   ·rw [h3] at h2; cases h2
theorem le_total' (L : Lin lt fun zz => True) (a b : α) : (!lt b a || !lt a b) = true := by
 cases h : lt b a with
 | false => rfl
 | true =>
  cases h' : lt a b with
  | false => rfl
  | true => have := L.tr _ _ _ h h'; rw [L.irr] at this; cases this
theorem sortB_perm (xs : List α) : (sortB lt xs).Perm xs := List.mergeSort_perm _ _
theorem sortB_sorted (L : Lin lt fun zz => True) (xs : List α) : (sortB lt xs).Pairwise fun a b => lt b a = false := by
 have := List.pairwise_mergeSort (le := fun a b => !lt b a) (fun a b c h1 h2 => le_trans' L a b c h1 h2) (fun a b => le_total' L a b) xs
 exact this.imp fun h => by simpa using h
theorem sortB_unique (L : Lin lt fun zz => True) {ys : List α} (hp : ys.Perm xs) (hs : ys.Pairwise fun a b => lt b a = false) : ys = sortB lt xs :=
 List.Perm.eq_of_pairwise (le := fun a b => lt b a = false) (fun a b zz zz h1 h2 => Decidable.byContradiction fun hne => by
  rcases L.tri a b trivial trivial hne with h | h
  ·rw [h] at h2; cases h2
  ·rw [h] at h1; cases h1) hs (sortB_sorted L xs) (hp.trans (sortB_perm xs).symm)
theorem swo_of (L : Lin lt fun zz => True) (f : Nat -> α) : SWO fun i j => lt (f i) (f j) where
 asy := fun x y h => by
  cases h' : lt (f y) (f x) with
  | false => rfl
  | true => have := L.tr _ _ _ h h'; rw [L.irr] at this; cases this
 tr := fun x y z h1 h2 => by
  have := le_trans' L (f x) (f y) (f z) (by simp [h1]) (by simp [h2])
  simpa using this
theorem Lin.tot (L : Lin lt ok) (h : ∀ x, ok x) : Lin lt fun zz => True := ⟨L.irr, L.tr, fun x y zz zz => L.tri x y (h x) (h y)⟩
end
section
variable [DecidableEq α] {lt : α -> α -> Bool}
theorem key_lists (L : Lay enc ok n) (T : LtEl enc ok lt) (hu : A.units + 64 < cLine) (hn : n <= 60) {v_1 v_2 : Value} {ys : List α} (hxs : ∀ x ∈ xs, ok x) (hys : ∀ y ∈ ys, ok y) (a_1 : At X s.heap v_1 (.list (xs.map enc))) (a_2 : At X s.heap v_2 (.list (ys.map enc)))
  {C : Bool -> Shared -> Prop} (hC : C (ltL lt xs ys) s) : wpAny (model pg w) A (keyLt' oneType' v_1 v_2) C E s := by
 obtain ⟨l, vs, m, rfl, _, e, as⟩ := a_1.list_
 obtain ⟨l', ws, m', rfl, _, e', bs⟩ := a_2.list_
 have zx : vs.size = xs.length := by have := size_of_ats as; simpa using this
 have zy : ws.size = ys.length := by have := size_of_ats bs; simpa using this
 have pl := place_list L T as bs hxs hys (A := A) (by lia)
 have call_lt : wpAny (model pg w) A (PySem.call (.builtin "list.__lt__") [.ref l, .ref l']) (fun v s' => v = .bool (ltL lt xs ys) /\ s' = s) E s := by
  refine wpAny_call (codeAny_call_builtin F.slot_list_lt.plain F.entry_list_lt (F.slot_list_lt.check _ _ _ _ _ _ _ _ ⟨_, e, rfl⟩ (F.args_list_lt_2 _ _) ?_))
  refine lt_list l l' vs ws m m' (fun j => if h1 : j < xs.length then if h2 : j < ys.length then decide (xs[j] = ys[j]) else false else false) (fun j => if h1 : j < xs.length then if h2 : j < ys.length then lt xs[j] ys[j] else false else false) pg w A (fun r s' => match r with | .ok (.ret v) => v = .bool (ltL lt xs ys) /\ s' = s | .ok _ => False | .error e => E e s') s
   ⟨e, e', fun j h1 h2 => ?_, fun j h1 h2 zz => ?_, ?_⟩
  ·obtain ⟨l1, l2, p, _⟩ := pl j h1 h2
   simpa [l1, l2] using p
  ·obtain ⟨l1, l2, _, p, _⟩ := pl j h1 h2
   simpa [l1, l2] using p
  ·have := lexR_lt (lt := lt) (xs := xs) (ys := ys) (e := fun j => if h1 : j < xs.length then if h2 : j < ys.length then decide (xs[j] = ys[j]) else false else false) (r := fun j => if h1 : j < xs.length then if h2 : j < ys.length then lt xs[j] ys[j] else false else false) (fun j h1 h2 => by simp [h1, h2]) (fun j h1 h2 => by simp [h1, h2]) xs.length 0 (by lia) (by lia) (by lia)
   rw [zx, zy, this]
   exact ⟨rfl, rfl⟩
 rw [keyLt'_oneType, oneLt'_eq]
 simp only [if_true]
 refine jB (wpAny_cRoomFor (by lia) ?_)
 refine jB (wpAny_callSpecialIfBound?_slot (T := "list") ⟨_, e, rfl⟩ F.slot_list_lt (wpAny_mono call_lt (fun v s' h => ?_) fun zz zz x => x))
 obtain ⟨rfl, rfl⟩ := h
 dsimp only
 exact jB (wpAny_truthy_bool (jP hC))
theorem sorted_ll (L : Lay enc ok n) (hn : n <= 60) (T : LtEl enc ok lt) (Ln : Lin lt ok) (hok : ∀ x, ok x) {xs : List (List α)} (h64 : xs.length < 64) :
  FunN pg w ba q k (fun vs => PySem.call (.builtin "sorted") vs) [.list (xs.map fun l => .list (l.map enc))] (.list ((sortB (ltL lt) xs).map fun l => .list (l.map enc))) := by
 intro s X vs o as A Q E Rm hQ
 obtain ⟨v, rfl, a⟩ := as.one_
 obtain ⟨l, ws, m, rfl, hX, e, as'⟩ := a.list_
 have zl : ws.toList.length = xs.length := by have := size_of_ats as'; simpa using this
 have LT : Lin (ltL lt) (fun zz => True) := Ln.list.tot fun xs x zz => hok x
 have at_ : ∀ i, i < xs.length -> ∃ x, xs[i]? = some x /\ At X s.heap (ws.toList.getD i Value.none) (.list (x.map enc)) := fun i hi => by
  obtain ⟨v, hv, av⟩ := as'.get (k := i) (d := .list ((xs[i]).map enc)) (by simp [hi])
  refine ⟨xs[i], List.getElem?_eq_getElem hi, ?_⟩
  rw [List.getD_eq_getElem?_getD, hv]; exact av
 refine my_sorted (vs := ws.toList) (lt := fun i j => ltL lt (xs.getD i []) (xs.getD j [])) ⟨_, e, rfl, m, by simp [listO]⟩ (by lia) (swo_of LT fun i => xs.getD i []) (fun v hv => ?_) (fun h' kp i j hi hj A' hA C hC => ?_) fun p hp hup => ?_
 ·obtain ⟨i, hi, rfl⟩ := List.getElem_of_mem hv
  obtain ⟨d, hd, av⟩ := as'.get' (k := i) (v := ws.toList[i]) (List.getElem?_eq_getElem hi)
  rw [List.getElem?_map] at hd
  obtain ⟨z, hz, rfl⟩ := Option.map_eq_some_iff.1 hd
  obtain ⟨l', ws', m', h1, _, h2, _⟩ := av.list_
  exact ⟨l', ws', m', h1, h2⟩
 ·obtain ⟨x, hx, ax⟩ := at_ i (by lia)
  obtain ⟨y, hy, ay⟩ := at_ j (by lia)
  have ex : xs.getD i [] = x := by rw [List.getD_eq_getElem?_getD, hx]; rfl
  have ey : xs.getD j [] = y := by rw [List.getD_eq_getElem?_getD, hy]; rfl
  rw [ex, ey] at hC
  exact key_lists (s := { s with heap := h' }) L T (by have := Rm.u64; have := Rm.units; lia) hn (fun z zz => hok z) (fun z zz => hok z) (ax.ext kp) (ay.ext kp) hC
 ·rw [zl] at hp hup
  have hpl : p.toList.Perm (List.range xs.length) := by simpa using hp.toList
  have hin : ∀ i ∈ p.toList, i < xs.length := fun i hi => List.mem_range.1 (hpl.mem_iff.1 hi)
  have hsz : p.size = xs.length := by have := hpl.length_eq; simpa using this
  have hz : (p.toList.map fun i => xs.getD i []) = sortB (ltL lt) xs := by
   refine sortB_unique LT ?_ ?_
   ·have h1 := hpl.map fun i => xs.getD i []
    have h2 : (List.range xs.length).map (fun i => xs.getD i []) = xs := by
     refine List.ext_getElem (by simp) fun i h1 h2 => ?_
     simp [List.getElem_map, List.getElem_range, h2]
    rwa [h2] at h1
   ·rw [List.pairwise_map, List.pairwise_iff_getElem]
    intro i j hi hj hij
    have := hup i j hij (by rw [<- hsz]; simpa using hj)
    have gd : ∀ (i : Nat) (hi : i < p.toList.length), p.getD i 0 = p.toList[i] := fun i hi => by
     have hi' : i < p.size := by simpa using hi
     simp [Array.getD, hi']
    rw [gd i hi, gd j hj] at this
    exact this
  obtain ⟨c, hc⟩ := sortedAll_at s.heap ws.toList (List.toArray (p.toList.map fun i => ws.toList.getD i Value.none))
  have kp : Ext s.heap (sortedAll s.heap ws.toList (List.toArray (p.toList.map fun i => ws.toList.getD i Value.none))) := fun b o hb => sortedAll_old hb
  refine hQ _ _ s.toks kp (At.list (n := c) (fun hm => ?_) hc ?_)
  ·obtain ⟨ob, eo⟩ := o.live _ hm
   have := ltz (a := s.heap.objs.size + 1) eo; lia
  ·rw [<- hz]
   refine Ats.ext ?_ kp
   have go : ∀ (is : List Nat), (∀ i ∈ is, i < xs.length) -> Ats X s.heap (is.map fun i => ws.toList.getD i Value.none) ((is.map fun i => xs.getD i []).map fun l => .list (l.map enc)) := by
    intro is
    induction is with
    | nil => intro _; exact .nil
    | cons i is ih =>
     intro h
     obtain ⟨x, hx, ax⟩ := at_ i (h i (.head _))
     refine .cons ?_ (ih fun j hj => h j (.tail _ hj))
     have ex : xs.getD i [] = x := by rw [List.getD_eq_getElem?_getD, hx]; rfl
     show At X s.heap _ (.list ((xs.getD i []).map enc))
     rw [ex]; exact ax
   exact go _ hin
theorem Ev.sortedLL (C : Cx ba mg mb) (L : Lay enc ok n) (hn : n <= 60) (T : LtEl enc ok lt) (Ln : Lin lt ok) (hok : ∀ x, ok x) {p : Pos} {xs : List (List α)} (he : Ev pg w ba q k sc Γ e (.list (xs.map fun l => .list (l.map enc)))) (h64 : xs.length < 64) (hx : sc.names.lookup (N "sorted") = some .globalImplicit)
  (h : autoParam (∀ U, backTo pos (starEach [e] U) = [(false, eval e U)]) tA) : Ev pg w ba q k sc Γ (.Call (.Name (N "sorted") p) [e] [] pos) (.list ((sortB (ltL lt) xs).map fun l => .list (l.map enc))) :=
 Ev.callB (Ev.bn C hx) (.cons he .nil (fun U => h U)) (sorted_ll L hn T Ln hok h64) (args1 h)
end
end
section
section
theorem Arr.subM {M0 : Mut} (Ar : Arr A (B ++ own U M) h) (S : St ba B U Γ M h) (hs : M0.Sublist M) : Arr A (B ++ own U M0) h := by
 have drop : ∀ L, L ∈ B ++ own U M -> (∀ ob, h.get? L = some ob -> ∀ vs n, ob ≠ listO vs n) -> L ∈ B ++ own U M0 := fun L hL hne => by
  rcases jA.1 hL with hb | ho
  ·exact jA.2 (.inl hb)
  ·refine jA.2 (.inr (mem_own.2 ?_))
   rcases mem_own.1 ho with h | h | h
   ·exact .inl h
   ·exact .inr (.inl h)
   ·obtain ⟨p, hp, rfl⟩ := jM.1 h
    obtain ⟨vs, n, e, _⟩ := (S.muts p hp).at_
    exact absurd rfl (hne _ e vs n)
 refine ⟨?_, ?_, Ar.tab, fun hh y hy => Ar.nc hh y (jA.2 ((jA.1 hy).imp id (own_sub hs y)))⟩
 ·obtain ⟨l, hl, hf⟩ := Ar.frames
  refine ⟨l, hl, fun e he => ?_⟩
  obtain ⟨i1, L, o, es, ep, i2, i3, i4, i5⟩ := hf e he
  exact ⟨i1, L, o, es, ep, i2, drop L i3 (fun ob e vs n q => by rw [i4] at e; cases e; rw [q] at i5; cases i5), i4, i5⟩
 ·rcases Ar.handled with hn | ⟨e, oe, vs', T, i1, i2, i3, i4, i5, i6⟩
  ·exact .inl hn
  ·exact .inr ⟨e, oe, vs', T, i1, i2, i3, i4, i5, drop e i6 (fun ob x vs n q => by rw [i2] at x; cases x; rw [q] at i4; cases i4)⟩
theorem Ef.subM {M0 : Mut} (h : Ef pg w ba q c k sc Γ M0 ss R RE) (hs : M0.Sublist M) : Ef pg w ba q c k sc Γ M ss R RE := by
 intro U s B A Q E G S Rm Ar H T TE
 exact h U s B A Q E G (S.subM hs) Rm (Ar.subM S hs) H (fun f o h' tk Γ' M' hf S' off gr r => T f o h' tk Γ' M' hf S' (off.mono (own_sub hs)) (fun y hy => (gr y hy).imp (own_sub hs y) id) r)
  fun x X t d Z h'' tk' Γ'' M'' hx ha S' o' g' r => TE x X t d Z h'' tk' Γ'' M'' hx ha S' (o'.mono (own_sub hs)) (fun y hy => (g' y hy).imp (own_sub hs y) id) r
theorem Ex1.forL {bs : D -> Gam} (h : EvS pg w ba true k sc Γ iter (xs.map enc)) (ht : ∀ x ∈ xs, As pg w ba true k sc target (enc x) (bs (enc x)))
  (Γs : List α -> Gam) (Ms : List α -> Mut) (h0 : Sub (Γs []) Γ) (hm0 : (Ms []).Sublist M)
  (turn : ∀ pre x post, xs = pre ++ x :: post -> Ex pg w ba true k sc (bs (enc x) ++ Γs pre) (Ms pre) body (fun o Γ' M' => match o with
   | .next | .cont => Sub (Γs (pre ++ [x])) Γ' /\ (Ms (pre ++ [x])).Sublist M'
   | _ => False))
  (hs : autoParam (∀ U x, foldedSetIterable iter U x = pure x) tA) : Ex1 pg w ba true k sc Γ M (.For target iter body [] pos) (fun o Γ1 M_1 => o = .next /\ Sub (Γs xs) Γ1 /\ (Ms xs).Sublist M_1) := by
 refine Ex1.for h (bs := bs) (fun i d hd => ?_) (fun i => Γs (xs.take i)) (fun i => Ms (xs.take i)) (by simpa using h0) (by simpa using hm0) (fun i d hd => ?_) ?_ hs
 ·rw [List.getElem?_map] at hd
  obtain ⟨x, hx, rfl⟩ := Option.map_eq_some_iff.1 hd
  exact ht x (List.mem_of_getElem? hx)
 ·rw [List.getElem?_map] at hd
  obtain ⟨x, hx, rfl⟩ := Option.map_eq_some_iff.1 hd
  have hlt := (List.getElem?_eq_some_iff.1 hx).1
  have hxe : x = xs[i] := by have := (List.getElem?_eq_some_iff.1 hx).2; exact this.symm
  have hsplit : xs = xs.take i ++ x :: xs.drop (i + 1) := by
   rw [hxe, <- List.drop_eq_getElem_cons hlt, List.take_append_drop]
  have htake : xs.take (i + 1) = xs.take i ++ [x] := by rw [hxe]; simp
  refine (turn _ x _ hsplit).mono fun o Γ' M' ho => ?_
  rw [<- htake] at ho
  cases o <;> first | exact ho | exact ho.elim
 ·refine Ex.nil ⟨rfl, ?_, ?_⟩
  ·simp only [List.length_map, List.take_length]; exact Sub.refl _
  ·simp only [List.length_map, List.take_length]; exact List.Sublist.refl _
theorem Ef.forL {bs : D -> Gam} (h : EvS pg w ba true k sc Γ iter (xs.map enc)) (ht : ∀ x ∈ xs, As pg w ba true k sc target (enc x) (bs (enc x)))
  (Γs : List α -> Gam) (Ms : List α -> Mut) (h0 : Sub (Γs []) Γ) (hm0 : (Ms []).Sublist M) (hmm : ∀ a ∈ M.map (·.1), a ∈ (Ms xs).map (·.1))
  (turn : ∀ pre x post, xs = pre ++ x :: post -> Ex pg w ba true k sc (bs (enc x) ++ Γs pre) (Ms pre) body (fun o Γ' M' => match o with
   | .next | .cont => Sub (Γs (pre ++ [x])) Γ' /\ (Ms (pre ++ [x])).Sublist M'
   | _ => False))
  (r : Ef pg w ba true c k sc (Γs xs) (Ms xs) ss R RE)
  (hs : autoParam (∀ U x, foldedSetIterable iter U x = pure x) tA) : Ef pg w ba true c k sc Γ M (.For target iter body [] pos :: ss) R RE :=
 Ef.stm (P := fun Γ1 M_1 => Sub (Γs xs) Γ1 /\ (Ms xs).Sublist M_1) (Ex1.forL h ht Γs Ms h0 hm0 turn hs) (fun Γ' M' ⟨zz1, h2⟩ a ha => (h2.map _).subset (hmm a ha)) fun Γ' M' ⟨h1, h2⟩ => (r.sub h1).subM h2
theorem Ef.assign (h : Ev pg w ba q k sc Γ value d) (r : Ef pg w ba q c k sc ((x, d) :: Γ) M ss R RE) (hx : autoParam (storable sc x = true) tA)
  (hs : autoParam (∀ U, swapsWith value (some (.Name x px)) pos.line U = pure false) tA) : Ef pg w ba q c k sc Γ M (.Assign [.Name x px] value pos :: ss) R RE :=
 Ef.stm (P := fun Γ1 M_1 => Γ1 = (x, d) :: Γ /\ M_1 = M) (Ex1.assign h hx ⟨rfl, rfl, rfl⟩ hs) (fun zz zz ⟨zz1, h2⟩ a ha => by rw [h2]; exact ha) fun zz zz ⟨h1, h2⟩ => by subst h1 h2; exact r
theorem Ef.unpack {ts : List Expr} {tpos : Pos} {bs : Gam} (h : Ev pg w ba true k sc Γ value d) (ht : As pg w ba true k sc (.Tuple ts n tpos) d bs) (r : Ef pg w ba true c k sc (bs ++ Γ) M ss R RE)
  (hs : autoParam (∀ U, swapsWithSole [.Tuple ts n tpos] value pos.line U = pure false) tA) (hw : autoParam (∀ U, swappedStores [.Tuple ts n tpos] value U = pure none) tA) : Ef pg w ba true c k sc Γ M (.Assign [.Tuple ts n tpos] value pos :: ss) R RE :=
 Ef.stm (P := fun Γ1 M_1 => Γ1 = bs ++ Γ /\ M_1 = M) (Ex1.unpack h ht ⟨rfl, rfl, rfl⟩ hs hw) (fun zz zz ⟨zz1, h2⟩ a ha => by rw [h2]; exact ha) fun zz zz ⟨h1, h2⟩ => by subst h1 h2; exact r
theorem Ef.compL {ifs : List Expr} {p : α -> Bool} {f : α -> D} {ns : List Str} {bs : D -> Gam} {spos : Pos} (h : EvS pg w ba true k sc Γ iter (xs.map enc))
  (O : CompOk pg w ba k sc csc Γ Γ' elt target ifs enc xs p f ns bs) (r : Ef pg w ba true c k sc ((x, .list ((xs.filter p).map f)) :: Γ) M ss R RE) (hx : autoParam (sc.names.lookup x = some .local) tA) (hno : autoParam ((csc.names.any fun p => p.1 == x && (p.2 == .local || p.2 == .cell)) = false) tA) (hline : autoParam ((px.line == pos.line) = true) tA)
  (hs : autoParam (∀ U x, foldedSetIterable iter U x = pure x) tA) : Ef pg w ba true c k sc Γ M (.Assign [.Name x px] (.ListComp elt [⟨target, iter, ifs, 0⟩] csc pos) spos :: ss) R RE :=
 Ef.stm (P := fun Γ1 M_1 => Γ1 = (x, .list ((xs.filter p).map f)) :: Γ /\ M_1 = M) (Ex1.comp h O (by rw [storable, hx]; rfl) ⟨rfl, rfl, rfl⟩ (fun U G => swaps_comp G hx hno hline) hs) (fun zz zz ⟨zz1, h2⟩ a ha => by rw [h2]; exact ha) fun zz zz ⟨h1, h2⟩ => by subst h1 h2; exact r
theorem Ef.compC {ifs : List Expr} {p : α -> Bool} {f : α -> D} {ns : List Str} {bs : D -> Gam} {spos : Pos} (h : EvS pg w ba true k sc Γ iter (xs.map enc))
  (O : CompOk pg w ba k sc csc Γ Γ' elt target ifs enc xs p f ns bs) (r : Ef pg w ba true c k sc ((x, .list ((xs.filter p).map f)) :: Γ) M ss R RE) (hx : autoParam (sc.names.lookup x = some .cell) tA)
  (hs : autoParam (∀ U x, foldedSetIterable iter U x = pure x) tA) : Ef pg w ba true c k sc Γ M (.Assign [.Name x px] (.ListComp elt [⟨target, iter, ifs, 0⟩] csc pos) spos :: ss) R RE := by
 refine Ef.stm (P := fun Γ1 M_1 => Γ1 = (x, .list ((xs.filter p).map f)) :: Γ /\ M_1 = M) ?_ (fun zz zz ⟨zz1, h2⟩ a ha => by rw [h2]; exact ha) fun zz zz ⟨h1, h2⟩ => by subst h1 h2; exact r
 intro U s B A Q E G S Rm T
 refine wpAny_Assign_Name ((Ev.comp h O hs U s B M G S).bind Rm fun v g t e a => ?_) (swaps_cell G hx)
 refine (S.ext e).store G (by rw [storable, hx]; rfl) a fun h' tk S' off zz => ?_
 exact T .next .next h' tk _ M trivial S' (e.off.trans off) (Grow.refl _ _) ⟨rfl, rfl, rfl⟩
theorem Ef.ret (h : Ev pg w ba q k sc Γ e d) (hr : R (.ret d) Γ M) : Ef pg w ba q c k sc Γ M (.Return (some e) pos :: ss) R RE :=
 Ef.cons (R1 := fun o Γ1 M_1 => o = .ret d /\ Γ1 = Γ /\ M_1 = M) (RE1 := fun zz zz zz zz => False) (Ef1.ret (RX := fun d' M' => d' = d /\ M' = M) (RXE := fun zz zz zz => False) (Ev.y h ⟨rfl, rfl⟩) (fun d' M' ⟨h1, h2⟩ => by subst h1 h2; exact ⟨rfl, rfl, rfl⟩) (fun zz zz zz h => h.elim)) (fun o Γ' M' ⟨h1, h2, h3⟩ => by subst h1 h2 h3; exact hr) (fun zz zz zz zz h => h.elim)
theorem EvX.callB1 {func : Expr} {id : String} {RX RX' : D -> Mut -> Prop} {RXE : String -> D -> Mut -> Prop} (hf : Ev pg w ba q k sc Γ func (.raw (.builtin id))) (ha : EvX pg w ba q c k sc Γ M e RX RXE)
  (h : ∀ d M', RX d M' -> ∃ d', FunN pg w ba q k (fun vs => PySem.call (.builtin id) vs) [d] d' /\ RX' d' M')
  (hs : autoParam (∀ U, backTo pos (starEach [e] U) = [(false, eval e U)]) tA)
  (he : autoParam (∀ U, eval (.Call func [e] [] pos) U = (do callWith pos (<- eval func U) [] (backTo pos (starEach [e] U)) (backToKw pos (keywordEach [] U)))) tA) : EvX pg w ba q c k sc Γ M (.Call func [e] [] pos) RX' RXE := by
 intro U s B A Q E G S Rm Ar hQ TE
 refine PyProof.Rows.Call_ ((hf U s B M G S).bindR Rm fun g t e1 => ?_) (he U)
 have S1 := S.ext e1
 have Ar1 : Arr A (B ++ own U M) g := Ar.step S S1 e1.offW
 refine callWith_builtin (args_plain (args1 hs) U) ?_
 rw [hs U]
 refine evalArgs_plain (spliced_cons (ha U _ B A _ E G S1 Rm Ar1 (fun v d h' tk M' hm av S2 o2 r => spliced_nil ?_) (TE.step (tk := t) e1.offW (Grow.refl _ _))))
 obtain ⟨d', hfun, hr⟩ := h d M' r
 refine (hfun _ _ [v] S2.toOk (.cons av .nil)).bind Rm fun v2 g2 t2 e2 a2 => ?_
 exact hQ v2 d' g2 t2 M' hm a2 (S2.ext e2) ((e1.offW.trans o2).trans e2.offW) hr
end
end
section
noncomputable abbrev Mach := List Nat × List Nat × List (List Nat × List Nat)
noncomputable def ltN (x y : Nat) : Bool := decide (x < y)
noncomputable abbrev ltLN : List Nat -> List Nat -> Bool := ltL ltN
noncomputable def sortN (xs : List (List Nat)) : List (List Nat) := sortB ltLN xs
noncomputable def foundS (acc : List (List Nat)) (l : List Nat) : List (List Nat) := if l ∈ acc then acc else acc ++ [l]
noncomputable def foundG (a : List (List Nat × List Nat)) (acc : List (List Nat)) (g : List Nat) : List (List Nat) := foundS (foundS acc (led a g 0)) (led a g 1)
noncomputable def found (a : List (List Nat × List Nat)) (fresh : List (List Nat)) : List (List Nat) := fresh.foldl (foundG a) []
noncomputable def plFresh (a : List (List Nat × List Nat)) (seen fresh : List (List Nat)) : List (List Nat) := lack (sortN (found a fresh)) seen
noncomputable def plStep (a : List (List Nat × List Nat)) (p : List (List Nat) × List (List Nat)) : List (List Nat) × List (List Nat) := (sortN (p.1 ++ plFresh a p.1 p.2), plFresh a p.1 p.2)
noncomputable def plGo (p : List (List Nat) × List (List Nat)) : Bool := !p.2.isEmpty && decide (p.1.length < 9)
noncomputable def plLoop (a : List (List Nat × List Nat)) : Nat -> List (List Nat) × List (List Nat) -> List (List Nat)
 | 0, p => p.1
 | f + 1, p => if plGo p = true then plLoop a f (plStep a p) else p.1
theorem plLoop_s {a : List (List Nat × List Nat)} {f : Nat} {p : List (List Nat) × List (List Nat)} : plLoop a (f + 1) p = if plGo p = true then plLoop a f (plStep a p) else p.1 := rfl
noncomputable def plSeen (m : Mach) : List (List Nat) := plLoop m.2.2 10 ([m.1], [m.1])
noncomputable def idxIn (seen : List (List Nat)) (l : List Nat) : Nat := if l ∈ seen then seen.idxOf l else 0
noncomputable def plLast (m : Mach) (seen : List (List Nat)) : List Nat := (List.range seen.length).filter fun i => decide ((lack (seen.getD i []) m.2.1).length < (seen.getD i []).length)
noncomputable def plainOf (m : Mach) (seen : List (List Nat)) : Mach := ([seen.idxOf m.1], plLast m seen, seen.map fun g => ([idxIn seen (led m.2.2 g 0)], [idxIn seen (led m.2.2 g 1)]))
noncomputable def plain (m : Mach) : Mach := plainOf m (plSeen m)
structure Set8 (n : Nat) (g : List Nat) : Prop where
 srt : SortedBy ltN g
 lt : ∀ x ∈ g, x < n
structure MV (m : Mach) : Prop where
 len : m.2.2.length <= 8
 st : Set8 m.2.2.length m.1
 en : Set8 m.2.2.length m.2.1
 ar : ∀ p ∈ m.2.2, Set8 m.2.2.length p.1 /\ Set8 m.2.2.length p.2
theorem linN : Lin ltN (fun zz => True) := Lin.nat
theorem linLN : Lin ltLN (fun zz => True) := linN.list.tot fun xs x zz => trivial
theorem nodup_len [DecidableEq α] : ∀ {l l' : List α}, l.Nodup -> (∀ x ∈ l, x ∈ l') -> l.length <= l'.length
 | [], _, _, _ => Nat.zero_le _
 | x :: l, l', h, hs => by
  rw [List.nodup_cons] at h
  have hx : x ∈ l' := hs x jC
  have ih := nodup_len (l := l) (l' := l'.erase x) h.2 fun y hy => by
   have hne : y ≠ x := fun e => h.1 (by rw [<- e]; exact hy)
   exact (List.mem_erase_of_ne hne).2 (hs y (jT _ hy))
  rw [List.length_erase_of_mem hx] at ih
  have := List.length_pos_of_mem hx
  rw [List.length_cons]; lia
theorem Set8.len (h : Set8 n g) : g.length <= n := by
 have nd : g.Nodup := h.srt.imp fun {a b} hab => by
  intro e; subst e; simp [ltN] at hab
 have := nodup_len nd (l' := List.range n) fun x hx => List.mem_range.2 (h.lt x hx)
 simpa using this
theorem uniq_srt (l : List Nat) : SortedBy ltN (uniq l) := by
 unfold SortedBy uniq
 refine List.Pairwise.sublist List.filter_sublist ?_
 decide
theorem mem_uniq {l : List Nat} {x : Nat} : x ∈ uniq l ↔ x < 8 /\ x ∈ l := by simp [uniq]
theorem sel_mem {a : List (List Nat × List Nat)} {o l x : Nat} (h : x ∈ sel (a.getD o ([], [])) l) : ∃ p ∈ a, x ∈ p.1 \/ x ∈ p.2 := by
 rw [List.getD_eq_getElem?_getD] at h
 cases e : a[o]? with
 | none => rw [e] at h; simp [sel] at h
 | some p =>
  rw [e] at h
  refine ⟨p, List.mem_of_getElem? e, ?_⟩
  simp only [Option.getD_some, sel] at h
  split at h
  ·exact .inl h
  ·exact .inr h
theorem led_good {m : Mach} (V : MV m) (g : List Nat) (l : Nat) : Set8 m.2.2.length (led m.2.2 g l) := by
 refine ⟨uniq_srt _, fun x hx => ?_⟩
 have := (mem_uniq.1 hx).2
 obtain ⟨L, hL, hx⟩ := List.mem_flatten.1 this
 obtain ⟨o, _, rfl⟩ := jM.1 hL
 obtain ⟨p, hp, h⟩ := sel_mem hx
 rcases h with h | h
 ·exact (V.ar p hp).1.lt x h
 ·exact (V.ar p hp).2.lt x h
set_option tactic.hygienic true in
theorem foundS_mem {acc : List (List Nat)} {l x : List Nat} : x ∈ foundS acc l ↔ x ∈ acc \/ x = l := by
 unfold foundS
 split
 ·rename_i h
  constructor
  ·exact .inl
  ·rintro (h' | rfl)
   ·exact h'
   ·exact h
 ·simp
set_option tactic.hygienic true in
theorem foundS_nodup {acc : List (List Nat)} {l : List Nat} (h : acc.Nodup) : (foundS acc l).Nodup := by
 unfold foundS
 split
 ·exact h
 ·rename_i hn
  rw [List.nodup_append]
  refine ⟨h, by simp, fun a ha b hb => ?_⟩
  rw [jS.1 hb]
  exact fun e => hn (e ▸ ha)
theorem foundS_len (acc : List (List Nat)) (l : List Nat) : (foundS acc l).length <= acc.length + 1 := by
 unfold foundS
 split <;> simp
theorem found_fold (a : List (List Nat × List Nat)) : ∀ (fresh acc : List (List Nat)), acc.Nodup -> (fresh.foldl (foundG a) acc).Nodup /\ (fresh.foldl (foundG a) acc).length <= acc.length + 2 * fresh.length /\ (∀ x, x ∈ fresh.foldl (foundG a) acc ↔ x ∈ acc \/ ∃ g ∈ fresh, x = led a g 0 \/ x = led a g 1)
 | [], acc, h => ⟨h, by simp, fun x => by simp⟩
 | g :: fresh, acc, h => by
  have h1 : (foundG a acc g).Nodup := foundS_nodup (foundS_nodup h)
  have h2 : (foundG a acc g).length <= acc.length + 2 := by
   have e1 := foundS_len acc (led a g 0)
   have e2 := foundS_len (foundS acc (led a g 0)) (led a g 1)
   unfold foundG; lia
  obtain ⟨i1, i2, i3⟩ := found_fold a fresh _ h1
  refine ⟨i1, by rw [List.foldl_cons, List.length_cons]; lia, fun x => ?_⟩
  rw [List.foldl_cons, i3]
  unfold foundG
  rw [foundS_mem, foundS_mem]
  simp only [List.mem_cons, exists_eq_or_imp]
  constructor
  ·rintro (((h | h) | h) | h)
   ·exact .inl h
   ·exact .inr (.inl (.inl h))
   ·exact .inr (.inl (.inr h))
   ·exact .inr (.inr h)
  ·rintro (h | (h | h) | h)
   ·exact .inl (.inl (.inl h))
   ·exact .inl (.inl (.inr h))
   ·exact .inl (.inr h)
   ·exact .inr h
theorem mem_found {a : List (List Nat × List Nat)} {fresh : List (List Nat)} {x : List Nat} : x ∈ found a fresh ↔ ∃ g ∈ fresh, x = led a g 0 \/ x = led a g 1 := by
 have := (found_fold a fresh [] List.nodup_nil).2.2 x
 simpa [found] using this
theorem found_nodup (a : List (List Nat × List Nat)) (fresh : List (List Nat)) : (found a fresh).Nodup := (found_fold a fresh [] List.nodup_nil).1
theorem found_len (a : List (List Nat × List Nat)) (fresh : List (List Nat)) : (found a fresh).length <= 2 * fresh.length := by
 have := (found_fold a fresh [] List.nodup_nil).2.1
 simpa [found] using this
theorem sortN_mem {xs : List (List Nat)} {x : List Nat} : x ∈ sortN xs ↔ x ∈ xs := (sortB_perm xs).mem_iff
theorem sortN_len (xs : List (List Nat)) : (sortN xs).length = xs.length := (sortB_perm xs).length_eq
theorem sortN_srt {xs : List (List Nat)} (h : xs.Nodup) : SortedBy ltLN (sortN xs) := by
 have h1 := sortB_sorted linLN xs
 have h2 : (sortN xs).Nodup := (sortB_perm xs).nodup_iff.2 h
 exact (h1.and h2).imp fun {a b} ⟨h3, h4⟩ => by
  rcases linLN.tri a b trivial trivial h4 with h | h
  ·exact h
  ·rw [h] at h3; cases h3
theorem srt_nodup {xs : List (List Nat)} (h : SortedBy ltLN xs) : xs.Nodup := h.imp fun {a b} hab e => by
 subst e; rw [linLN.irr] at hab; cases hab
theorem mem_lack [DecidableEq α] {ys : List α} {x : α} : x ∈ lack xs ys ↔ x ∈ xs /\ x ∉ ys := by simp [lack]
structure PlInv (m : Mach) (p : List (List Nat) × List (List Nat)) : Prop where
 good : ∀ g ∈ p.1, Set8 m.2.2.length g
 sub : ∀ g ∈ p.2, g ∈ p.1
 srt : SortedBy ltLN p.1
 fnd : p.2.Nodup
 start : m.1 ∈ p.1
 len : p.1.length <= 24
theorem PlInv.flen {m : Mach} {p : List (List Nat) × List (List Nat)} (h : PlInv m p) : p.2.length <= p.1.length := nodup_len h.fnd h.sub
theorem PlInv.zero {m : Mach} (V : MV m) : PlInv m ([m.1], [m.1]) := ⟨fun g hg => by rw [jS.1 hg]; exact V.st, fun g hg => hg, List.pairwise_singleton _ _, by simp, by simp, by simp⟩
theorem plFresh_mem {a : List (List Nat × List Nat)} {seen fresh : List (List Nat)} {x : List Nat} : x ∈ plFresh a seen fresh ↔ (∃ g ∈ fresh, x = led a g 0 \/ x = led a g 1) /\ x ∉ seen := by
 unfold plFresh
 rw [mem_lack, sortN_mem, mem_found]
theorem plFresh_srt (a : List (List Nat × List Nat)) (seen fresh : List (List Nat)) : SortedBy ltLN (plFresh a seen fresh) := (sortN_srt (found_nodup a fresh)).sublist (lack_sub _ _)
theorem plFresh_len (a : List (List Nat × List Nat)) (seen fresh : List (List Nat)) : (plFresh a seen fresh).length <= 2 * fresh.length := by
 have h1 := (lack_sub (sortN (found a fresh)) seen).length_le
 have h2 := found_len a fresh
 rw [sortN_len] at h1
 unfold plFresh; lia
theorem PlInv.step {m : Mach} (V : MV m) {p : List (List Nat) × List (List Nat)} (h : PlInv m p) (hg : plGo p = true) : PlInv m (plStep m.2.2 p) := by
 simp only [plGo, Bool.and_eq_true, Bool.not_eq_true', decide_eq_true_eq] at hg
 have hf := h.flen
 have h2 := plFresh_len m.2.2 p.1 p.2
 have nd : (p.1 ++ plFresh m.2.2 p.1 p.2).Nodup := by
  rw [List.nodup_append]
  exact ⟨srt_nodup h.srt, srt_nodup (plFresh_srt _ _ _), fun a ha b hb e => (plFresh_mem.1 hb).2 (e ▸ ha)⟩
 refine ⟨fun g hgm => ?_, fun g hgm => sortN_mem.2 (jA.2 (.inr hgm)), sortN_srt nd, srt_nodup (plFresh_srt _ _ _), sortN_mem.2 (jA.2 (.inl h.start)), ?_⟩
 ·rcases jA.1 (sortN_mem.1 hgm) with hm | hm
  ·exact h.good g hm
  ·obtain ⟨⟨g', _, e | e⟩, _⟩ := plFresh_mem.1 hm
   ·rw [e]; exact led_good V _ _
   ·rw [e]; exact led_good V _ _
 ·show (sortN _).length <= 24
  rw [sortN_len, List.length_append]; lia
noncomputable def plMeas (p : List (List Nat) × List (List Nat)) : Nat := if p.2.isEmpty then 0 else 1 + (9 - p.1.length)
theorem plMeas_step (a : List (List Nat × List Nat)) {p : List (List Nat) × List (List Nat)} (hg : plGo p = true) : plMeas (plStep a p) < plMeas p := by
 simp only [plGo, Bool.and_eq_true, Bool.not_eq_true', decide_eq_true_eq] at hg
 unfold plMeas
 rw [hg.1]
 have e : (plStep a p).1.length = p.1.length + (plStep a p).2.length := by show (sortN _).length = _; rw [sortN_len, List.length_append]; rfl
 cases h : (plStep a p).2 with
 | nil => simp; lia
 | cons x xs =>
  rw [h, List.length_cons] at e
  simp only [List.isEmpty_cons, Bool.false_eq_true, if_false]
  lia
end
variable {m : Mach}
section
open PyProof.Rows
section
theorem posOk_36 : posOk (stmtAt 36) [N "arrows", N "group", N "letter"] := posOk3 fun zz zz zz zz zz zz => rfl
theorem led_fun (C : Cx ba mg mb) {a36 : Addr} (h36 : FnG ba mg (stmtAt 36) a36) (V : MV m) {l : Nat} (hg : Set8 m.2.2.length g) (hl : l < 2) :
  FunN pg w ba true 2 (fun vs => PySem.call (.ref a36) vs) [eA m.2.2, eL g, eN l] (eL (led m.2.2 g l)) :=
 pure_of_body C h36 (ns := [N "arrows", N "group", N "letter"]) (by kernel_rfl) (fun vs pm code doc hv => posOk_36 vs pm code doc hv)
  (led_body C (by have := V.len; lia) (by have := hg.len; have := V.len; lia) hl (fun o ho => hg.lt o ho) (fun p hp => ⟨by have := (V.ar p hp).1.len; have := V.len; lia, by have := (V.ar p hp).2.len; have := V.len; lia⟩)
   (fun p hp n hn => by have := V.len; rcases hn with h | h; (have := (V.ar p hp).1.lt n h; lia); (have := (V.ar p hp).2.lt n h; lia)))
theorem notIn_dd' [DecidableEq α] (L : Lay enc ok n) (hn : n <= 60) {x : α} (hx : ok x) (hxs : ∀ y ∈ xs, ok y) {i : Decidable (x ∈ xs)} : Fun2 pg w ba q k (compareOp .NotIn) (enc x) (.list (xs.map enc)) (.bool (!@decide (x ∈ xs) i)) := by
 have h := notIn_dd (pg := pg) (w := w) (ba := ba) (q := q) (k := k) L hn hx hxs
 have e : i = List.instDecidableMemOfLawfulBEq x xs := Subsingleton.elim _ _
 rw [e]; exact h
theorem beq_one (i j : BEq α) [hi : @LawfulBEq α i] [hj : @LawfulBEq α j] : i = j := by
 cases i with | mk f => cases j with | mk g =>
 congr 1
 funext a b
 have h1 : (f a b = true) ↔ a = b := @beq_iff_eq α ⟨f⟩ hi a b
 have h2 : (g a b = true) ↔ a = b := @beq_iff_eq α ⟨g⟩ hj a b
 rw [Bool.eq_iff_iff, h1, h2]
theorem index_dd' [DecidableEq α] (L : Lay enc ok n) (hn : n <= 60) {x : α} (hx : ok x) (hxs : ∀ y ∈ xs, ok y) (hin : x ∈ xs) (hsz : xs.length <= sizeLine) {i : BEq α} [@LawfulBEq α i] : Meth1 pg w ba q k "index" (.list (xs.map enc)) (enc x) (.int (@List.idxOf α i x xs : Nat)) := by
 have h := index_dd (pg := pg) (w := w) (ba := ba) (q := q) (k := k) L hn hx hxs hin hsz
 have e : i = instBEqOfDecidableEq := beq_one _ _
 subst e
 exact h
theorem in_dd' [DecidableEq α] (L : Lay enc ok n) (hn : n <= 60) {x : α} (hx : ok x) (hxs : ∀ y ∈ xs, ok y) {i : Decidable (x ∈ xs)} : Fun2 pg w ba q k (compareOp .In) (enc x) (.list (xs.map enc)) (.bool (@decide (x ∈ xs) i)) := by
 have h := in_dd (pg := pg) (w := w) (ba := ba) (q := q) (k := k) L hn hx hxs
 have e : i = List.instDecidableMemOfLawfulBEq x xs := Subsingleton.elim _ _
 rw [e]; exact h
noncomputable abbrev notesT (ns : List D) (j : Nat) : List D := ns ++ List.replicate j (.bool true)
theorem notesT_push (ns : List D) (j : Nat) : notesT ns j ++ [.bool true] = notesT ns (j + 1) := by
 show ns ++ _ ++ _ = ns ++ _
 rw [List.append_assoc]; congr 1
 exact List.replicate_succ'.symm
theorem ordLN : Ord pg w ba eL (fun xs : List Nat => ∀ x ∈ xs, True) ltLN := Ord.list Lay.nat (by lia) LtEl.nat Lin.nat
theorem layL : Lay eL (fun xs : List Nat => ∀ x ∈ xs, True) 1 := Lay.nat.list
theorem EvL.three {f g : Expr} {d1 d2 d3 : D} (h1 : Ev pg w ba q k sc Γ e d1) (h2 : Ev pg w ba q k sc Γ f d2) (h3 : Ev pg w ba q k sc Γ g d3)
  (h : autoParam (∀ U, backTo pos (starEach [e, f, g] U) = [(false, eval e U), (false, eval f U), (false, eval g U)]) tA) (h' : autoParam (∀ U, backTo pos (starEach [f, g] U) = [(false, eval f U), (false, eval g U)]) tA)
  (h'' : autoParam (∀ U, backTo pos (starEach [g] U) = [(false, eval g U)]) tA) : EvL pg w ba q k sc Γ pos [e, f, g] [d1, d2, d3] :=
 .cons h1 (.cons h2 (.cons h3 .nil (fun U => h'' U)) (fun U => by rw [h' U, h'' U])) (fun U => by rw [h U, h' U])
theorem plLoop_inv (V : MV m) : ∀ (f : Nat) (p : List (List Nat) × List (List Nat)), PlInv m p -> PlInv m (plLoop m.2.2 f p, [])
 | 0, p, h => ⟨h.good, (fun g hg => nomatch hg), h.srt, List.nodup_nil, h.start, h.len⟩
 | f + 1, p, h => by
  rw [plLoop_s]
  by_cases hg : plGo p = true
  ·rw [if_pos hg]; exact plLoop_inv V f _ (h.step V hg)
  ·rw [if_neg hg]; exact ⟨h.good, (fun g hg => nomatch hg), h.srt, List.nodup_nil, h.start, h.len⟩
theorem plSeen_inv (V : MV m) : PlInv m (plSeen m, []) := plLoop_inv V _ _ (PlInv.zero V)
theorem plain_body (C : Cx ba mg mb) {a1 a36 a37 : Addr} (h1 : FnG ba mg (stmtAt 1) a1) (h36 : FnG ba mg (stmtAt 36) a36) (h37 : FnG ba mg (stmtAt 37) a37) (V : MV m) {an : Addr} {ns : List D} (zn : ns.length <= 1000) :
  Ef pg w ba true true 3 (fnScope (stmtAt 38)) [(N "machine", eM m), (N "notes", .raw (.ref an))] [(an, ns)] (fnBody (stmtAt 38))
   (fun o zz M' => ∃ (d : D) (M_1 : Mut), o = .ret d /\ M_1.Sublist M' /\ M_1.map (·.1) = [(an, ns)].map (·.1) /\ d = eM (plain m) /\ ∃ j, j <= 40 /\ M_1 = [(an, notesT ns j)])
   (fun X d zz M' => ∃ M_1 : Mut, M_1.Sublist M' /\ M_1.map (·.1) = [(an, ns)].map (·.1) /\ False) := by
 conv => arg 10; whnf
 refine Ef.unpack (bs := [(N "arrows", eA m.2.2), (N "ends", eL m.2.1), (N "starts", eL m.1)]) (d := eM m) (by walk_at "v") ?_ ?_
 ·exact As.list (ds := [eL m.1, eL m.2.1, eA m.2.2]) (AsL.cons (AsL.cons (AsL.cons AsL.nil)))
 dsimp only [kA, kN]
 refine Ef.assign (d := eLL [m.1]) (Ev.list (.cons (by walk_at "v") .nil) (sizeOk (by simp))) ?_
 refine Ef.assign (d := eLL [m.1]) (Ev.list (.cons (by walk_at "v") .nil) (sizeOk (by simp))) ?_
 have fnled : ∀ {sc : Scope} {Γ : Gam} {p pos : Pos} {e1 e2 e3 : Expr} {g : List Nat} {l : Nat}, Set8 m.2.2.length g -> l < 2 -> sc.names.lookup (N "_law_led") = some .globalImplicit -> Ev pg w ba true 3 sc Γ e1 (eA m.2.2) -> Ev pg w ba true 3 sc Γ e2 (eL g) -> Ev pg w ba true 3 sc Γ e3 (eN l) ->
   (∀ U, backTo pos (starEach [e1, e2, e3] U) = [(false, eval e1 U), (false, eval e2 U), (false, eval e3 U)]) -> (∀ U, backTo pos (starEach [e2, e3] U) = [(false, eval e2 U), (false, eval e3 U)]) -> (∀ U, backTo pos (starEach [e3] U) = [(false, eval e3 U)]) -> Ev pg w ba true 3 sc Γ (.Call (.Name (N "_law_led") p) [e1, e2, e3] [] pos) (eL (led m.2.2 g l)) :=
  fun hg hl hx he1 he2 he3 b1 b2 b3 => Ev.callF h36.fn (Ev.fn C h36 hx) (EvL.three he1 he2 he3 b1 b2 b3) ((led_fun C h36 V hg hl).up (by lia)) (args3 b1)
 refine Ef.cons (R1 := fun o Γ' M' => o = .next /\ Sub [(N "seen", eLL (plSeen m)), (N "starts", eL m.1), (N "ends", eL m.2.1), (N "arrows", eA m.2.2), (N "notes", .raw (.ref an))] Γ' /\ ∃ j, j <= 10 /\ M' = [(an, notesT ns j)]) (RE1 := fun zz zz zz zz => False) ?_ ?_ (fun zz zz zz zz h => h.elim)
 ·refine Ef1.while (RXE := fun zz zz zz zz => True) (fun n Γ' M' => ∃ p j, PlInv m p /\ n = plMeas p /\ j + n <= 10 /\ (∃ f, n <= f /\ plLoop m.2.2 f p = plSeen m) /\ Sub [(N "seen", eLL p.1), (N "fresh", eLL p.2), (N "starts", eL m.1), (N "ends", eL m.2.1), (N "arrows", eA m.2.2), (N "notes", .raw (.ref an))] Γ' /\ M' = [(an, notesT ns j)]) (fun n Γ' M' hI => ?_) _
   ⟨([m.1], [m.1]), 0, PlInv.zero V, rfl, by simp [plMeas], ⟨10, by simp [plMeas], rfl⟩, by walk_at "v", by simp [notesT]⟩
  obtain ⟨p, j, inv, rfl, hj, ⟨f, hf, hfin⟩, hsub, rfl⟩ := hI
  have hfl := inv.flen
  have hl24 := inv.len
  refine ⟨fun b M'' => b = plGo p /\ M'' = [(an, notesT ns j)], Tr.y (b := plGo p) ?_ ⟨rfl, rfl⟩, fun M'' h => ?_, fun M'' h => ?_⟩
  ·have e : plGo p = (!((p.2.map eL).isEmpty) && (decide (p.1.length < 9) && (BoolOp.And == .And))) := by
    have e1 : (p.2.map eL).isEmpty = p.2.isEmpty := by cases p.2 <;> rfl
    rw [e1, plGo]
    have e2 : (BoolOp.And == .And) = true := by decide
    rw [e2, Bool.and_true]
   rw [e]
   refine Tr.boolOp (TrL.and (Tr.val (d := eLL p.2) ?_ (truth_list (sizeOk (by simp; lia)))) fun zz => TrL.and (Tr.natLt (Ev.len C (ds := p.1.map eL) (n := p.1.length) ?_ (by simp) (by lia)) (Ev.nat (n := 9) rfl)) fun zz => TrL.nil)
   ·exact Ev.var (hsub _ _ (by walk_at "v")) (by kernel_rfl)
   ·exact Ev.var (hsub _ _ (by walk_at "v")) (by kernel_rfl)
  ·obtain ⟨hgo, rfl⟩ := h
   have hgo := hgo.symm
   have inv' := inv.step V hgo
   have hmeas := plMeas_step m.2.2 hgo
   have hgo2 := hgo
   simp only [plGo, Bool.and_eq_true, Bool.not_eq_true', decide_eq_true_eq] at hgo2
   refine Ef.sub (Γ0 := [(N "seen", eLL p.1), (N "fresh", eLL p.2), (N "starts", eL m.1), (N "ends", eL m.2.1), (N "arrows", eA m.2.2), (N "notes", .raw (.ref an))]) ?_ hsub
   refine Ef.own (ds := []) EvN.nil fun af => ?_
   have hfz : ∀ pre, pre.length <= p.2.length -> (found m.2.2 pre).length <= 48 := fun pre h => by have := found_len m.2.2 pre; lia
   refine Ef.forL (α := List Nat) (enc := eL) (xs := p.2) (bs := fun d => [(N "group", d)]) (EvS.list (by walk_at "v")) (fun x hx => As.name)
    (fun pre => [(N "found", .raw (.ref af)), (N "seen", eLL p.1), (N "fresh", eLL p.2), (N "starts", eL m.1), (N "ends", eL m.2.1), (N "arrows", eA m.2.2), (N "notes", .raw (.ref an))]) (fun pre => [(af, (found m.2.2 pre).map eL), (an, notesT ns j)]) (by walk_at "v") (List.Sublist.refl _) (fun a ha => ha) ?_ ?_
   ·intro pre g post hpre
    dsimp only [kA, kN]
    have hgm : g ∈ p.2 := by rw [hpre]; simp
    have hg8 := inv.good g (inv.sub g hgm)
    have hlen : pre.length + 1 <= p.2.length := by have := congrArg List.length hpre; simp at this; lia
    have hpz := hfz pre (by lia)
    refine Ex.for (α := Nat) (enc := eN) (xs := List.range 2) (bs := fun d => [(N "letter", d)]) (EvS.rng C (n := 2) Ev.int (by lia)) (fun x hx => As.name)
     (fun q => [(N "group", eL g), (N "found", .raw (.ref af)), (N "seen", eLL p.1), (N "fresh", eLL p.2), (N "starts", eL m.1), (N "ends", eL m.2.1), (N "arrows", eA m.2.2), (N "notes", .raw (.ref an))]) (fun q => [(af, (q.foldl (fun acc l => foundS acc (led m.2.2 g l)) (found m.2.2 pre)).map eL), (an, notesT ns j)]) (by walk_at "v") (List.Sublist.refl _) ?_ ?_
    ·intro q l r hq
     dsimp only [kA, kN]
     have hl2 : l < 2 := List.mem_range.1 (by rw [hq]; simp)
     have hql : q.length <= 2 := by have := congrArg List.length hq; simp at this; lia
     have hacc : (q.foldl (fun acc l => foundS acc (led m.2.2 g l)) (found m.2.2 pre)).length <= 60 := by
      have go : ∀ (q : List Nat) (acc : List (List Nat)), (q.foldl (fun acc l => foundS acc (led m.2.2 g l)) acc).length <= acc.length + q.length := by
       intro q
       induction q with
       | nil => intro acc; simp
       | cons x q ih => intro acc; have h1 := ih (foundS acc (led m.2.2 g x)); have h2 := foundS_len acc (led m.2.2 g x); simp only [List.foldl_cons, List.length_cons]; lia
      have := go q (found m.2.2 pre); lia
     refine Ex.assign (d := eL (led m.2.2 g l)) (fnled hg8 hl2 (by kernel_rfl) (by walk_at "v") (by walk_at "v") (by walk_at "v") (fun U => rfl) (fun U => rfl) (fun U => rfl)) ?_
     have efold : (q ++ [l]).foldl (fun acc l => foundS acc (led m.2.2 g l)) (found m.2.2 pre) = foundS (q.foldl (fun acc l => foundS acc (led m.2.2 g l)) (found m.2.2 pre)) (led m.2.2 g l) := by rw [List.foldl_append]; rfl
     rw [efold]
     generalize q.foldl (fun acc l => foundS acc (led m.2.2 g l)) (found m.2.2 pre) = acc at *
     refine Ex.cons (Ex1.ifeP (x := N "found") (p := !decide (led m.2.2 g l ∈ acc)) (R := fun o Γ' M' => o = .next /\ Sub [(N "group", eL g), (N "found", .raw (.ref af)), (N "seen", eLL p.1), (N "fresh", eLL p.2), (N "starts", eL m.1), (N "ends", eL m.2.1), (N "arrows", eA m.2.2), (N "notes", .raw (.ref an))] Γ' /\ M' = [(af, (foundS acc (led m.2.2 g l)).map eL), (an, notesT ns j)]) (by walk_at "v")
      (Tr.cmp (d_1 := eL (led m.2.2 g l)) (by walk_at "v") (by walk_at "v") (notIn_dd' layL (by lia) (fun zz zz => trivial) fun zz zz zz zz => trivial) rfl) (fun h => ?_) (fun h => ?_)) (fun o Γ' M' h => ?_)
     ·have hni : led m.2.2 g l ∉ acc := by simpa using h
      refine Ex.append (x := N "found") (d := eL (led m.2.2 g l)) (by walk_at "v") (by walk_at "v") (sizeOk (by simp; lia)) (Ex.nil ⟨rfl, by walk_at "v", ?_⟩)
      rw [foundS, if_neg hni]; simp
     ·have hin : led m.2.2 g l ∈ acc := by simpa using h
      refine Ex.nil ⟨rfl, by walk_at "v", ?_⟩
      rw [foundS, if_pos hin]
     ·obtain ⟨rfl, h2, rfl⟩ := h
      exact Ex.nil ⟨h2, List.Sublist.refl _⟩
    ·refine Ex.nil ⟨by walk_at "v", ?_⟩
     have e : found m.2.2 (pre ++ [g]) = (List.range 2).foldl (fun acc l => foundS acc (led m.2.2 g l)) (found m.2.2 pre) := by
      unfold found; rw [List.foldl_append]; rfl
     rw [e]; exact List.Sublist.refl _
   ·have hz48 := hfz p.2 (Nat.le_refl _)
    refine Ef.freeze (x := N "found") (by walk_at "v") ?_
    have hfl2 : (sortN (found m.2.2 p.2)).length <= 48 := by rw [sortN_len]; exact hz48
    have hfr := plFresh_len m.2.2 p.1 p.2
    refine Ef.seq (P := fun Γ' M' => Γ' = (N "fresh", eLL (plStep m.2.2 p).2) :: (N "found", eLL (found m.2.2 p.2)) :: [(N "found", .raw (.ref af)), (N "seen", eLL p.1), (N "fresh", eLL p.2), (N "starts", eL m.1), (N "ends", eL m.2.1), (N "arrows", eA m.2.2), (N "notes", .raw (.ref an))] /\ M' = [(an, notesT ns (j + 1))])
     (Ef1.assign (RX := fun d M' => d = eLL (plFresh m.2.2 p.1 p.2) /\ M' = [(an, notesT ns (j + 1))]) (RXE := fun zz zz zz => False)
      (EvX.callG C h37 (told_fun C h1 h37 (ns := notesT ns j) (an := an) ordLN layL (by lia) (xs := sortN (found m.2.2 p.2)) (ys := p.1) (fun zz zz zz zz => trivial) (fun zz zz zz zz => trivial) (sortN_srt (found_nodup _ _)) inv.srt (by lia) (by lia) (by simp; lia)) (M_1 := [])
       (EvL.three (Ev.sortedLL C Lay.nat (by lia) LtEl.nat Lin.nat (fun zz => trivial) (xs := found m.2.2 p.2) (by walk_at "v") (by lia) (by kernel_rfl)) (by walk_at "v") (by walk_at "v")) (by simp) (fun d M' h => ⟨h.1, by rw [h.2, notesT_push]; rfl⟩) (fun zz zz zz h => h) (args3 fun U => rfl))
      (by kernel_rfl) (fun d M' h => ⟨rfl, by rw [h.1]; rfl, h.2⟩) (fun zz zz zz h => h.elim)) fun Γ' M' ⟨h1, h2⟩ => ?_
    subst h1 h2
    refine Ef.assign (d := eLL (plStep m.2.2 p).1) ?_ (Ef.nil ?_)
    ·refine Ev.sortedLL C Lay.nat (by lia) LtEl.nat Lin.nat (fun zz => trivial) (xs := p.1 ++ plFresh m.2.2 p.1 p.2) ?_ (by simp; lia) (by kernel_rfl)
     rw [List.map_append]
     exact Ev.bin (d_1 := eLL p.1) (d_2 := eLL (plStep m.2.2 p).2) (by walk_at "v") (by walk_at "v") (add_ll (sizeOk (by show (p.1.map eL).length + ((plFresh m.2.2 p.1 p.2).map eL).length <= _; simp; lia)))
    ·refine ⟨plMeas (plStep m.2.2 p), hmeas, plStep m.2.2 p, j + 1, inv', rfl, by lia, ?_, by walk_at "v", rfl⟩
     cases f with
     | zero => lia
     | succ f =>
      refine ⟨f, by lia, ?_⟩
      rw [plLoop_s, if_pos hgo] at hfin
      exact hfin
  ·obtain ⟨hgo, rfl⟩ := h
   refine ⟨rfl, ?_, j, by lia, rfl⟩
   have e : plSeen m = p.1 := by
    rw [<- hfin]
    cases f with
    | zero => rfl
    | succ f => rw [plLoop_s, if_neg (by rw [<- hgo]; simp)]
   rw [e]
   exact Sub.trans (by walk_at "v") hsub
 ·rintro o Γ' M' ⟨rfl, hsub, j, hj, rfl⟩
  refine Ef.sub (Γ0 := [(N "seen", eLL (plSeen m)), (N "starts", eL m.1), (N "ends", eL m.2.1), (N "arrows", eA m.2.2), (N "notes", .raw (.ref an))]) ?_ hsub
  have inv := plSeen_inv V
  have hpl : plain m = plainOf m (plSeen m) := rfl
  rw [hpl]
  clear hpl
  generalize plSeen m = seen at *
  have hz : seen.length <= 24 := inv.len
  refine Ef.compL (Γ' := [(N "arrows", eA m.2.2)]) (enc := eL) (xs := seen) (p := fun zz => true) (f := fun g => eP (led m.2.2 g 0, led m.2.2 g 1)) (bs := fun d => [(N "group", d)]) (EvS.list (by walk_at "v"))
   (cmp1 (fun g hg zz => ?_) (sizeOk (by lia))) ?_
  ·dsimp only [kA, kN]
   have e : eP (led m.2.2 g 0, led m.2.2 g 1) = .list (((List.range 2).filter fun zz => true).map fun l => eL (led m.2.2 g l)) := rfl
   rw [e]
   refine Ev.comp (Γ' := [(N "arrows", eA m.2.2), (N "group", eL g)]) (enc := eN) (xs := List.range 2) (p := fun zz => true) (bs := fun d => [(N "letter", d)]) (EvS.rng C (n := 2) Ev.int (by lia)) (cmp1 (fun l hl zz => ?_) (sizeOk (by simp)))
   dsimp only [kA, kN]
   exact fnled (inv.good g hg) (List.mem_range.1 hl) (by kernel_rfl) (by walk_at "v") (by walk_at "v") (by walk_at "v") (fun U => rfl) (fun U => rfl) (fun U => rfl)
  rw [filt]
  have getS : ∀ i, i < seen.length -> (seen.map eL)[i]? = some (eL (seen.getD i [])) := fun i hi => by simp [hi]
  have goodAt : ∀ i, i < seen.length -> Set8 m.2.2.length (seen.getD i []) := fun i hi => by
   rw [List.getD_eq_getElem?_getD, List.getElem?_eq_getElem hi]; exact inv.good _ (List.getElem_mem hi)
  refine Ef.seq (P := fun Γ' M' => Γ' = (N "last", eL (plLast m seen)) :: [(N "steps", .list (seen.map fun g => eP (led m.2.2 g 0, led m.2.2 g 1))), (N "seen", eLL seen), (N "starts", eL m.1), (N "ends", eL m.2.1), (N "arrows", eA m.2.2), (N "notes", .raw (.ref an))] /\ M' = [(an, notesT ns (j + seen.length))])
   (Ef1.compX (Γ' := [(N "ends", eL m.2.1), (N "notes", .raw (.ref an)), (N "seen", eLL seen)]) (enc := eN) (xs := List.range seen.length) (p := fun i => decide ((lack (seen.getD i []) m.2.1).length < (seen.getD i []).length)) (f := eN) (bs := fun d => [(N "at", d)]) (Ms := fun i => [(an, notesT ns (j + min i seen.length))]) (Mt := fun i => [(an, notesT ns (j + min (i + 1) seen.length))])
    (EvS.rng C (n := seen.length) (Ev.len C (ds := seen.map eL) (by walk_at "v") (by simp) (by lia)) (by lia))
    ⟨by kernel_rfl, by walk_at "v", (by kernel_rfl : [N "at"].all _ = true), fun zz => rfl, fun x hx => As.name, by simp, fun i => rfl, fun i => rfl, fun i x hx => ?_, fun i x hx zz => rfl, fun i x hx zz => Ev.y (by walk_at "v") ⟨rfl, rfl⟩, sizeOk (by simp; lia)⟩ (by kernel_rfl) (by kernel_rfl) (by kernel_rfl) ⟨rfl, rfl, by simp⟩) fun Γ' M' ⟨h1, h2⟩ => ?_
  ·dsimp only [kA, kN]
   have hxl : x < seen.length := by have := List.mem_of_getElem? hx; exact List.mem_range.1 this
   have hix : i = x /\ i < seen.length := by
    obtain ⟨hl, e⟩ := List.getElem?_eq_some_iff.1 hx
    rw [List.getElem_range] at e
    exact ⟨e, by lia⟩
   have hg8 := goodAt x hxl
   have hzl := hg8.len
   have hze := V.en.len
   have hV := V.len
   have hMi : min i seen.length = i := by lia
   have hMi1 : min (i + 1) seen.length = i + 1 := by lia
   rw [hMi, hMi1]
   refine TrIX.one (TrX.cmpL (RX := fun d M' => d = eN (lack (seen.getD x []) m.2.1).length /\ M' = [(an, notesT ns (j + (i + 1)))])
    (EvX.callB1 (RX := fun d M' => d = eL (lack (seen.getD x []) m.2.1) /\ M' = [(an, notesT ns (j + (i + 1)))]) (Ev.bn (v := .builtin "len") C)
     (EvX.callG C h37 (told_fun C h1 h37 (ns := notesT ns (j + i)) (an := an) Ord.nat Lay.nat (by lia) (xs := seen.getD x []) (ys := m.2.1) (fun zz zz => trivial) (fun zz zz => trivial) hg8.srt V.en.srt (by lia) (by lia) (by simp; lia)) (M_1 := [])
      (EvL.three (Ev.item (ds := seen.map eL) (i := x) (by walk_at "v") (by walk_at "v") (getS x hxl) (by simp; lia)) (by walk_at "v") (by walk_at "v")) (by simp) (fun d M' h => ⟨h.1, by rw [h.2, notesT_push]; rfl⟩) (fun zz zz zz h => h) (args3 fun U => rfl))
     (fun d M' h => ⟨eN (lack (seen.getD x []) m.2.1).length, ?_, rfl, h.2⟩))
    (Ev.len C (ds := (seen.getD x []).map eN) (n := (seen.getD x []).length) (Ev.item (ds := seen.map eL) (i := x) (by walk_at "v") (by walk_at "v") (getS x hxl) (by simp; lia)) (by simp) (by lia)) (fun d M' h => ?_) rfl)
   ·rw [h.1]
    have hl := (lack_sub (seen.getD x []) m.2.1).length_le
    have := len_l (pg := pg) (w := w) (ba := ba) (q := true) (k := 3) (ds := (lack (seen.getD x []) m.2.1).map eN) (sizeOk (by rw [List.length_map]; lia))
    rwa [List.length_map] at this
   ·obtain ⟨rfl, rfl⟩ := h
    refine ⟨decide ((lack (seen.getD x []) m.2.1).length < (seen.getD x []).length), ?_, rfl, rfl⟩
    have := lt_ii (pg := pg) (w := w) (ba := ba) (q := true) (k := 3) (a := ((lack (seen.getD x []) m.2.1).length : Int)) (b := ((seen.getD x []).length : Int))
    have e : decide (((lack (seen.getD x []) m.2.1).length : Int) < ((seen.getD x []).length : Int)) = decide ((lack (seen.getD x []) m.2.1).length < (seen.getD x []).length) := by simp
    rw [e] at this; exact this
  subst h1 h2
  refine Ef.compL (Γ' := [(N "seen", eLL seen)]) (enc := fun g => eP (led m.2.2 g 0, led m.2.2 g 1)) (xs := seen) (p := fun zz => true) (f := fun g => eP ([idxIn seen (led m.2.2 g 0)], [idxIn seen (led m.2.2 g 1)])) (bs := fun d => [(N "pair", d)]) (EvS.list (by walk_at "v"))
   (cmp1 (fun g hg zz => ?_) (sizeOk (by lia))) ?_
  ·dsimp only [kA, kN]
   have e : eP ([idxIn seen (led m.2.2 g 0)], [idxIn seen (led m.2.2 g 1)]) = .list (([led m.2.2 g 0, led m.2.2 g 1].filter fun zz => true).map fun l => eL [idxIn seen l]) := rfl
   rw [e]
   refine Ev.comp (Γ' := [(N "seen", eLL seen)]) (enc := eL) (xs := [led m.2.2 g 0, led m.2.2 g 1]) (p := fun zz => true) (bs := fun d => [(N "led", d)]) (EvS.list (ds := [eL (led m.2.2 g 0), eL (led m.2.2 g 1)]) (by walk_at "v")) (cmp1 (fun l hl zz => ?_) (sizeOk (by simp)))
   dsimp only [kA, kN]
   refine Ev.list (ds := [eN (idxIn seen l)]) (.cons ?_ .nil) (sizeOk (by simp))
   have e2 : eN (idxIn seen l) = if decide (l ∈ seen) = true then eN (seen.idxOf l) else eN 0 := by
    unfold idxIn
    by_cases h : l ∈ seen <;> simp [h]
   rw [e2]
   refine Ev.ife (Tr.cmp (d_1 := eL l) (by walk_at "v") (by walk_at "v") (in_dd' layL (by lia) (fun zz zz => trivial) fun zz zz zz zz => trivial) rfl) (fun h => ?_) (fun zz => Ev.int)
   exact Ev.meth1 (d_1 := eLL seen) (d_2 := eL l) (by walk_at "v") (by walk_at "v") (index_dd' layL (by lia) (fun zz zz => trivial) (fun zz zz zz zz => trivial) (of_decide_eq_true h) (sizeOk (by lia)))
  rw [filt]
  have edr : eM (plainOf m seen) = .list [eL [seen.idxOf m.1], eL (plLast m seen), .list (seen.map fun g => eP ([idxIn seen (led m.2.2 g 0)], [idxIn seen (led m.2.2 g 1)]))] := by
   show D.list [_, _, .list ((seen.map _).map eP)] = _
   rw [List.map_map]; rfl
  refine Ef.ret (d := .list [eL [seen.idxOf m.1], eL (plLast m seen), .list (seen.map fun g => eP ([idxIn seen (led m.2.2 g 0)], [idxIn seen (led m.2.2 g 1)]))]) (Ev.list ?_ (sizeOk (by simp))) ⟨_, _, rfl, List.Sublist.refl _, rfl, edr.symm, j + seen.length, by lia, rfl⟩
  refine EvL.three (Ev.list (ds := [eN (seen.idxOf m.1)]) (.cons ?_ .nil) (sizeOk (by simp))) (by walk_at "v") (by walk_at "v")
  exact Ev.meth1 (d_1 := eLL seen) (d_2 := eL m.1) (by walk_at "v") (by walk_at "v") (index_dd' layL (by lia) (fun zz zz => trivial) (fun zz zz zz zz => trivial) inv.start (sizeOk (by show seen.length <= _; lia)))
theorem posOk_38 : posOk (stmtAt 38) [N "machine", N "notes"] := posOk2 fun zz zz zz zz zz => rfl
theorem plain_fun (C : Cx ba mg mb) {a1 a36 a37 a38 : Addr} (h1 : FnG ba mg (stmtAt 1) a1) (h36 : FnG ba mg (stmtAt 36) a36) (h37 : FnG ba mg (stmtAt 37) a37) (h38 : FnG ba mg (stmtAt 38) a38) (V : MV m) {an : Addr} {ns : List D} (zn : ns.length <= 1000) :
  FunX pg w ba 4 (fun vs => PySem.call (.ref a38) vs) [eM m, .raw (.ref an)] [(an, ns)] (fun d M' => d = eM (plain m) /\ ∃ j, j <= 40 /\ M' = [(an, notesT ns j)]) (fun zz zz zz => False) :=
 fnX_of_body C h38 (by kernel_rfl) posOk_38 rfl (plain_body C h1 h36 h37 V zn)
end
end
section
open PyProof.Rows
noncomputable def ltW (x y : List Bool) : Bool := decide ((strOf x).cps.toList < (strOf y).cps.toList)
theorem strOf_toList (x : List Bool) : (strOf x).cps.toList = x.map fun b => if b then 49 else 48 := by simp [strOf]
theorem strOf_inj {x y : List Bool} (h : strOf x = strOf y) : x = y := by
 have h' := congrArg (fun s : Str => s.cps.toList) h
 simp only [strOf_toList] at h'
 exact List.map_inj_right (by intro a b; cases a <;> cases b <;> simp) |>.1 h'
theorem strOk_strOf (x : List Bool) : PyData.strOk (strOf x) = true := by
 simp only [PyData.strOk, strOf, List.all_toArray, List.all_map, List.all_eq_true]
 intro b _
 cases b <;> decide
theorem Lay.word : Lay eW (fun zz => True) 0 := ⟨fun x zz => strOk_strOf x, fun zz zz => Nat.le_refl _, fun x y zz zz => by
 show (strOf x == strOf y) = _
 rw [Bool.eq_iff_iff]; simp
 exact ⟨strOf_inj, fun h => h ▸ rfl⟩⟩
theorem LtEl.word : LtEl eW (fun zz => True) ltW where
 lt_ := fun A s X v u x y zz zz a b pg w E Q hq => by
  obtain ⟨t, rfl⟩ := a.str_; obtain ⟨t', rfl⟩ := b.str_
  exact PyProof.Rows.lt_str hq
 gt_ := fun A s X v u x y zz zz a b pg w E Q hq => by
  obtain ⟨t, rfl⟩ := a.str_; obtain ⟨t', rfl⟩ := b.str_
  exact compareOp_gives (op := .Gt) (typeIs_str s _ t) (typeIs_str s _ t') F.slot_str_gt F.entry_str_gt (F.args_str_gt_2 _ _) (gives_str_gt _ _ t t') (fun e => nomatch e) hq
theorem Lin.word : Lin ltW (fun zz => True) where
 irr := fun x => by simp only [ltW, decide_eq_false_iff_not]; exact List.lt_irrefl _
 tr := fun x y z h1 h2 => by
  simp only [ltW, decide_eq_true_eq] at *
  exact List.lt_trans h1 h2
 tri := fun x y zz zz h => by
  simp only [ltW, decide_eq_true_eq]
  rcases Decidable.em ((strOf x).cps.toList < (strOf y).cps.toList) with h1 | h1
  ·exact .inl h1
  ·rcases Decidable.em ((strOf y).cps.toList < (strOf x).cps.toList) with h2 | h2
   ·exact .inr h2
   ·have := List.le_antisymm (List.not_lt.1 h1) (List.not_lt.1 h2)
    rw [strOf_toList, strOf_toList] at this
    exact absurd (List.map_inj_right (by intro a b; cases a <;> cases b <;> simp) |>.1 this).symm h
noncomputable def card (lk : List (List Bool)) (steps : List (Nat × Nat)) (s : Nat) : List (List Bool) := [lk.getD s [], lk.getD (steps.getD s (0, 0)).1 [], lk.getD (steps.getD s (0, 0)).2 []]
noncomputable def cards (lk : List (List Bool)) (steps : List (Nat × Nat)) (xs : List Nat) : List (List (List Bool)) := sortB (ltL ltW) (xs.map (card lk steps))
noncomputable abbrev eCs (cs : List (List (List Bool))) : D := .list (cs.map eWs)
theorem cards_len (lk : List (List Bool)) (steps : List (Nat × Nat)) (xs : List Nat) : (cards lk steps xs).length = xs.length := by
 rw [cards, (sortB_perm (lt := ltL ltW) _).length_eq, List.length_map]
section
theorem getP {ps : List (Nat × Nat)} (h : i < ps.length) : (ps.map ePr)[i]? = some (ePr (ps.getD i (0, 0))) := by simp [h]
theorem cards_body (C : Cx ba mg mb) {lk : List (List Bool)} {steps : List (Nat × Nat)} {xs : List Nat} {st : D} (hst : ∀ {sc : Scope} {Γ : Gam} {e : Expr}, Ev pg w ba true k sc Γ e st -> EvS pg w ba true k sc Γ e (xs.map eN)) (hl : lk.length = steps.length) (hm : steps.length <= 100)
  (hin : ∀ p ∈ steps, p.1 < steps.length /\ p.2 < steps.length) (hx : ∀ s ∈ xs, s < steps.length) (h64 : xs.length < 64) :
  Ex pg w ba true k (fnScope (stmtAt 42)) [(N "looks", eWs lk), (N "steps", .list (steps.map ePr)), (N "states", st)] [] (fnBody (stmtAt 42)) (RetP (eCs (cards lk steps xs))) := by
 conv => arg 9; whnf
 apply Ex.ret (d := eCs (cards lk steps xs)) (hr := rfl)
 apply Ev.sortedLL C Lay.word (by lia) LtEl.word Lin.word (fun zz => trivial) (xs := xs.map (card lk steps)) _ (by simp; lia) (by kernel_rfl)
 ·have e : (.list ((xs.map (card lk steps)).map eWs) : D) = .list ((xs.filter fun zz => true).map fun s => eWs (card lk steps s)) := by rw [filt, List.map_map]; rfl
  show Ev _ _ _ _ _ _ _ _ (.list ((xs.map (card lk steps)).map eWs))
  rw [e]
  refine Ev.comp (Γ' := [(N "looks", eWs lk), (N "steps", .list (steps.map ePr))]) (enc := eN) (xs := xs) (p := fun zz => true) (bs := fun d => [(N "state", d)])
   (hst (by walk_at "v")) (cmp1 (fun s hs zz => ?_) (sizeOk (by lia)))
  dsimp only [kA, kN]
  have hs := hx s hs
  have hp : steps.getD s (0, 0) ∈ steps := by rw [List.getD_eq_getElem?_getD, List.getElem?_eq_getElem hs]; exact List.getElem_mem hs
  have hi := hin _ hp
  have hstep : ∀ {sc Γ} {e1 : Expr} {x : Str} {p pos : Pos}, Ev pg w ba true k sc Γ e1 (.list (steps.map ePr)) -> Ev pg w ba true k sc Γ (.Name x p) (eN s) -> Ev pg w ba true k sc Γ (.Subscript e1 (.Name x p) pos) (ePr (steps.getD s (0, 0))) :=
   fun h1 h2 => Ev.item (ds := steps.map ePr) (i := s) h1 h2 (getP hs) (by simp; lia)
  refine Ev.list (ds := [eW _, eW _, eW _]) (EvL.cons ?_ (EvL.cons ?_ (EvL.cons ?_ EvL.nil))) (sizeOk (by simp))
  ·exact Ev.item (ds := lk.map eW) (i := s) (by walk_at "v") (by walk_at "v") (getW (by lia)) (by simp; lia)
  ·exact Ev.item (ds := lk.map eW) (i := (steps.getD s (0, 0)).1) (by walk_at "v") (Ev.item (ds := [eN (steps.getD s (0, 0)).1, eN (steps.getD s (0, 0)).2]) (i := 0) (hstep (by walk_at "v") (by walk_at "v")) Ev.int rfl (by simp)) (getW (by lia)) (by simp; lia)
  ·exact Ev.item (ds := lk.map eW) (i := (steps.getD s (0, 0)).2) (by walk_at "v") (Ev.item (ds := [eN (steps.getD s (0, 0)).1, eN (steps.getD s (0, 0)).2]) (i := 1) (hstep (by walk_at "v") (by walk_at "v")) Ev.int rfl (by simp)) (getW (by lia)) (by simp; lia)
end
end
section
open PyProof.Rows
section
noncomputable def Fill (a : Addr) (ds : List D) (d d' : D) : Prop := ∀ (X X' : List Addr) (h : Heap) (v : Value), (∀ y ∈ X', y ∈ X) -> At X' h (.ref a) (.list ds) -> At X h v d -> At X' h v d'
theorem Fill.hit : Fill a ds (.raw (.ref a)) (.list ds) := fun X X' h v zz hl av => av.raw_ ▸ hl
theorem Fill.same : Fill a ds d d := fun X X' h v hs zz av => av.sub hs
theorem Fill.tup2 {d1 d2 e1 e2 : D} (h1 : Fill a ds d1 e1) (h2 : Fill a ds d2 e2) : Fill a ds (.tuple [d1, d2]) (.tuple [e1, e2]) := fun X X' h v hs hl av => by
 obtain ⟨l, vs, n, rfl, hm, g, as⟩ := av.tuple_
 obtain ⟨v1, v2, e, b1, b2⟩ := as.two_
 exact .tuple (fun m => hm (hs _ m)) g (e ▸ .cons (h1 X X' h _ hs hl b1) (.cons (h2 X X' h _ hs hl b2) .nil))
theorem lookup_app {Γ1 : Gam} (h : (Γ1 ++ Γ).lookup x = some d) : Γ1.lookup x = some d \/ Γ.lookup x = some d := by
 induction Γ1 with
 | nil => exact .inr h
 | cons p Γ1 ih =>
  rw [List.cons_append, List.lookup_cons] at h
  rw [List.lookup_cons]
  cases hp : x == p.1 with
  | true => rw [hp] at h; exact .inl h
  | false => rw [hp] at h; exact ih h
theorem St.freezeF {Γ1 : Gam} (S : St ba B U Γ ((a, ds) :: M) h) (hF : ∀ y d', Γ1.lookup y = some d' -> ∃ d, Γ.lookup y = some d /\ Fill a ds d d') : St ba B U (Γ1 ++ Γ) M h := by
 have S' := S.subM (List.sublist_cons_self (a, ds) M)
 have hs : ∀ y ∈ B ++ own U M, y ∈ B ++ own U ((a, ds) :: M) := fun b hb => jA.2 ((jA.1 hb).imp id (own_sub (List.sublist_cons_self (a, ds) M) b))
 refine ⟨S'.keep, S'.ok, fun y e hl => ?_, S'.muts, S'.nod, S'.dis, S'.bdis, S'.live, S'.out⟩
 rcases lookup_app hl with hl | hl
 ·obtain ⟨d, hd, fl⟩ := hF y e hl
  obtain ⟨v, hv, av⟩ := S.var y d hd
  refine ⟨v, hv, fl _ _ h v hs ?_ av⟩
  obtain ⟨vs, n, g, r⟩ := (S.muts _ (jC)).at_
  refine .list (fun hm => ?_) g (r.sub hs)
  rcases jA.1 hm with hm | hm
  ·exact S.bdis _ hm (mem_own_mut jC)
  ·rw [mem_own] at hm
   rcases hm with hm | hm | hm
   ·exact (S.dis a (by simp)).1 hm
   ·exact (S.dis a (by simp)).2 hm
   ·have := S.nod; rw [List.map_cons, List.nodup_cons] at this; exact this.1 hm
 ·exact S'.var y e hl
theorem Ef.freezeF {Γ1 : Gam} (hF : ∀ y d', Γ1.lookup y = some d' -> ∃ d, Γ.lookup y = some d /\ Fill a ds d d') (h : Ef pg w ba q c k sc (Γ1 ++ Γ) M ss R RE) : Ef pg w ba q c k sc Γ ((a, ds) :: M) ss R RE := by
 intro U s B A Q E G S Rm Ar H T TE
 have sb := own_sub (U := U) (List.sublist_cons_self (a, ds) M)
 exact h U s B A Q E G (S.freezeF hF) Rm (own_list_frame S Ar) H (fun f o h' tk Γ' M' hf S' off gr r => T f o h' tk Γ' M' hf S' (off.mono sb) (fun y hy => (gr y hy).imp (sb y) id) r)
  fun x X t d Z h'' tk' Γ'' M'' hx ha S' o' g' r => TE x X t d Z h'' tk' Γ'' M'' hx ha S' (o'.mono sb) (fun y hy => (g' y hy).imp (sb y) id) r
theorem fill2 {y : Str} {d1 e1 d2 e2 : D} (h1 : Γ.lookup x = some d1) (f1 : Fill a ds d1 e1) (h2 : Γ.lookup y = some d2) (f2 : Fill a ds d2 e2) : ∀ z d', [(x, e1), (y, e2)].lookup z = some d' -> ∃ d, Γ.lookup z = some d /\ Fill a ds d d' := by
 intro z d' h
 rw [List.lookup_cons] at h
 cases hz : z == x with
 | true => rw [hz] at h; cases h; rw [beq_iff_eq.1 hz]; exact ⟨d1, h1, f1⟩
 | false =>
  rw [hz] at h
  simp only [List.lookup_cons] at h
  cases hy : z == y with
  | true => rw [hy] at h; cases h; rw [beq_iff_eq.1 hy]; exact ⟨d2, h2, f2⟩
  | false => rw [hy] at h; cases h
theorem Ev.neg {i : Int} (he : Ev pg w ba q k sc Γ e (.int i)) : Ev pg w ba q k sc Γ (.UnaryOp .USub e pos) (.int (-i)) := by
 intro U s B M G S A Q E R hQ
 show wpAny _ _ (do let v <- eval e U; standAt pos; holding [v] (unaryOp .USub v)) _ _ _
 refine jB ((he U s B M G S).bind R fun v g t e1 a => jB (wpAny_standAt ?_))
 obtain ⟨t', rfl⟩ := a.int_
 exact wpAny_holding (P.neg_int (hQ _ g _ e1 (.int _ _)))
theorem Ev.and3 {e_1 e_2 e_3 : Expr} {b d : Bool} (h_1 : Ev pg w ba q k sc Γ e_1 (.bool b)) (h_2 : Ev pg w ba q k sc Γ e_2 (.bool c)) (h_3 : Ev pg w ba q k sc Γ e_3 (.bool d)) : Ev pg w ba q k sc Γ (.BoolOp .And [e_1, e_2, e_3] pos) (.bool (b && (c && d))) := by
 intro U s B M G S A Q E R hQ
 show wpAny _ _ (boolOp pos .And [eval e_1 U, eval e_2 U, eval e_3 U]) _ _ _
 unfold boolOp
 refine jB ((h_1 U s B M G S).bindB R fun g t e => jB (wpAny_standAt ?_))
 refine jB (wpAny_holding (wpAny_truthy_bool ?_))
 cases b with
 | false => exact jP (hQ _ g t e (.bool _))
 | true =>
  exact Ev.and2 (pos := pos) h_2 (fun zz => h_3) U _ B M G (S.ext e) A Q E R fun v g t e' a => hQ v g t (e.trans e') a
theorem posOk_2 : posOk (stmtAt 2) [N "expected", N "actual"] := posOk2 fun zz zz zz zz zz => rfl
theorem ul_fun (C : Cx ba mg mb) {a2' : Addr} (h2 : FnG ba mg (stmtAt 2) a2') {xs ys : List (List Bool)} {a1 a2 : Addr} (zx : xs.length <= 500) (zy : ys.length <= 500) :
  FunX pg w ba 2 (fun vs => PySem.call (.ref a2') vs) [.raw (.ref a1), .raw (.ref a2)] [(a1, xs.map eW), (a2, ys.map eW)] (fun d M' => d = .tuple [.list ((ul xs ys).1.map eW), .raw (.ref a2)] /\ M' = [(a1, []), (a2, (ul xs ys).2.map eW)]) (fun zz zz zz => False) :=
 fnX_of_body C h2 (by kernel_rfl) posOk_2 rfl (ul_body C zx zy)
noncomputable def downs (n : Nat) : List Nat := (List.range n).map fun i => n - 1 - i
noncomputable def lackB (one two : List (List Bool)) : List (List Bool) := ((downs one.length).filter fun i => decide (two.count (one.getD i []) < (one.drop i).count (one.getD i []))).map fun i => one.getD i []
noncomputable def bags (one two : List (List Bool)) : Bool := decide (ul one two = (lackB one two, [])) && (true && decide ((ul one two).2 = []))
theorem downs_lt (h : i ∈ downs n) : i < n := by
 obtain ⟨j, hj, rfl⟩ := jM.1 h
 have := List.mem_range.1 hj; lia
theorem downs_len (n : Nat) : (downs n).length = n := by simp [downs]
theorem EvS.downs (h : Ev pg w ba true k sc Γ e (.range ((n : Int) - 1) (-1) (-1))) (hn : n <= 100000) : EvS pg w ba true k sc Γ e ((Mine.downs n).map eN) := by
 have e : (Mine.downs n).map eN = (List.range n).map fun i : Nat => D.int ((n : Int) - 1 - i) := by
  rw [Mine.downs, List.map_map]
  refine List.map_congr_left fun i hi => ?_
  have := List.mem_range.1 hi
  exact congrArg D.int (show ((n - 1 - i : Nat) : Int) = _ by lia)
 rw [e]
 exact EvS.rangeD h (sizeOk (by lia))
theorem count_dd' [DecidableEq α] (L : Lay enc ok n) (hn : n <= 60) (x : α) (xs : List α) (hx : ok x) (hxs : ∀ y ∈ xs, ok y) {i : BEq α} [@LawfulBEq α i] : Meth1 pg w ba q k "count" (.list (xs.map enc)) (enc x) (.int (@List.count α i x xs : Nat)) := by
 have h := count_dd (pg := pg) (w := w) (ba := ba) (q := q) (k := k) L hn hx hxs
 have e : i = instBEqOfDecidableEq := beq_one _ _
 subst e
 exact h
theorem bags_body (C : Cx ba mg mb) {a2' : Addr} (h2 : FnG ba mg (stmtAt 2) a2') {one two : List (List Bool)} (z1 : one.length <= 500) (z2 : two.length <= 500) :
  Ef pg w ba true true 2 (fnScope (stmtAt 43)) [(N "one", eWs one), (N "two", eWs two)] [] (fnBody (stmtAt 43))
   (fun o zz M' => ∃ (d : D) (M_1 : Mut), o = .ret d /\ M_1.Sublist M' /\ M_1.map (·.1) = ([] : Mut).map (·.1) /\ d = .bool (bags one two) /\ M_1 = [])
   (fun X d zz M' => ∃ M_1 : Mut, M_1.Sublist M' /\ M_1.map (·.1) = ([] : Mut).map (·.1) /\ False) := by
 conv => arg 10; whnf
 refine Ef.own (EvN.list C (ds := one.map eW) (by walk_at "v") (by simp; lia) (by kernel_rfl)) fun a1 => ?_
 refine Ef.own (EvN.list C (ds := two.map eW) (by walk_at "v") (by simp; lia) (by kernel_rfl)) fun a2 => ?_
 refine Ef.perm (M' := [(a1, one.map eW), (a2, two.map eW)]) ?_ (List.Perm.swap _ _ _)
 have zl := ul_len two one
 refine Ef.seq (P := fun Γ' M' => Γ' = (N "told", .tuple [.list ((ul one two).1.map eW), .raw (.ref a2)]) :: [(N "second", .raw (.ref a2)), (N "first", .raw (.ref a1)), (N "one", eWs one), (N "two", eWs two)] /\ M' = [(a1, []), (a2, (ul one two).2.map eW)])
  (Ef1.assign (RX := fun d M' => d = .tuple [.list ((ul one two).1.map eW), .raw (.ref a2)] /\ M' = [(a1, []), (a2, (ul one two).2.map eW)]) (RXE := fun zz zz zz => False)
   (EvX.callG C h2 (ul_fun C h2 (xs := one) (ys := two) (a1 := a1) (a2 := a2) z1 z2) (M_1 := []) (EvL.cons (by walk_at "v") (EvL.cons (by walk_at "v") EvL.nil)) (by simp) (fun d M' h => ⟨h.1, by rw [h.2]; rfl⟩) (fun zz zz zz h => h) (args2 fun U => rfl))
   (by kernel_rfl) (fun d M' h => ⟨rfl, by rw [h.1], h.2⟩) (fun zz zz zz h => h.elim)) fun Γ' M' ⟨e1, e2⟩ => ?_
 subst e1 e2
 refine Ef.freeze (x := N "first") (by walk_at "v") ?_
 refine Ef.freezeF (Γ1 := [(N "told", .tuple [.list ((ul one two).1.map eW), .list ((ul one two).2.map eW)]), (N "second", .list ((ul one two).2.map eW))]) (fill2 (by walk_at "v") (Fill.tup2 Fill.same Fill.hit) (by walk_at "v") Fill.hit) ?_
 dsimp only [kA, kN]
 refine Ef.assign (d := .range ((one.length : Int) - 1) (-1) (-1)) ?_ ?_
 ·refine Ev.callT (Ev.bn (v := .type "range") C ?h1 ?h2 ?h3) (EvL.three (Ev.bin (Ev.len C (ds := one.map eW) (n := one.length) (by walk_at "v") (by simp) (by lia)) Ev.int sub_ii) (Ev.neg Ev.int) (Ev.neg Ev.int)) (range3 ?h4 ?h5) (args3 fun U => rfl)
  all_goals decide +kernel
 apply Ef.compL (Γ' := [(N "one", eWs one), (N "two", eWs two)]) (enc := eN) (xs := downs one.length) (p := fun i => decide (two.count (one.getD i []) < (one.drop i).count (one.getD i []))) (f := fun i => eW (one.getD i [])) (ns := [N "at"]) (bs := fun d => [(N "at", d)])
 case h => exact EvS.downs (by walk_at "v") (by lia)
 case O =>
  refine ⟨by kernel_rfl, by walk_at "v", (by kernel_rfl : [N "at"].all _ = true), fun zz => rfl, fun x hx => As.name, fun i hi => ?_, fun i hi zz => ?_, sizeOk (by rw [downs_len]; lia)⟩
  ·dsimp only [kA, kN]
   have hl := downs_lt hi
   have it : ∀ {sc Γ p1 p2 pos}, Ev pg w ba true 2 sc Γ (.Name (N "one") p1) (eWs one) -> Ev pg w ba true 2 sc Γ (.Name (N "at") p2) (eN i) -> Ev pg w ba true 2 sc Γ (.Subscript (.Name (N "one") p1) (.Name (N "at") p2) pos) (eW (one.getD i [])) :=
    fun g1 g2 => Ev.item (ds := one.map eW) (i := i) g1 g2 (getW hl) (by simp; lia)
   refine TrI.one (Tr.natGt (x := (one.drop i).count (one.getD i [])) (y := two.count (one.getD i [])) ?_ ?_)
   ·refine Ev.meth1 (d_1 := eWs (one.drop i)) (d_2 := eW (one.getD i [])) ?_ (it (by walk_at "v") (by walk_at "v")) (count_dd' Lay.word (by lia) (one.getD i []) (one.drop i) trivial fun zz zz => trivial)
    have e : eWs (one.drop i) = .list ((one.map eW).drop i) := by rw [eWs, List.map_drop]
    rw [e]
    exact Ev.sub (d_1 := .list (one.map eW)) (d_2 := .slice (some (i : Int)) none none) (by walk_at "v") (Ev.slice (EvO.some (by walk_at "v")) EvO.none EvO.none) (item_from (by simp; lia) (sizeOk (by simp; lia)))
   ·exact Ev.meth1 (d_1 := eWs two) (d_2 := eW (one.getD i [])) (by walk_at "v") (it (by walk_at "v") (by walk_at "v")) (count_dd' Lay.word (by lia) (one.getD i []) two trivial fun zz zz => trivial)
  ·dsimp only [kA, kN]
   exact Ev.item (ds := one.map eW) (i := i) (by walk_at "v") (by walk_at "v") (getW (downs_lt hi)) (by simp; lia)
 all_goals try decide +kernel
 have el : (.list (((downs one.length).filter fun i => decide (two.count (one.getD i []) < (one.drop i).count (one.getD i []))).map fun i => eW (one.getD i [])) : D) = eWs (lackB one two) := by
  rw [eWs, lackB, List.map_map]; rfl
 rw [el]
 have LW : Lay eWs (fun xs : List (List Bool) => ∀ x ∈ xs, True) 1 := Lay.word.list
 refine Ef.ret (d := .bool (bags one two)) ?_ ⟨_, _, rfl, List.nil_sublist _, rfl, rfl, rfl⟩
 refine Ev.and3 ?_ ?_ ?_
 ·exact Ev.cmp (d_1 := .tuple [.list ((ul one two).1.map eW), .list ((ul one two).2.map eW)]) (d_2 := .tuple [eWs (lackB one two), .list []]) (by walk_at "v") (Ev.tuple (.cons (by walk_at "v") (.cons (Ev.list .nil (sizeOk (by simp))) .nil)) (sizeOk (by simp))) (eq_dd (LW.pair LW) (by lia) (x := ul one two) (y := (lackB one two, [])) ⟨fun zz zz => trivial, fun zz zz => trivial⟩ ⟨fun zz zz => trivial, fun zz zz => trivial⟩) rfl
 ·exact Ev.cmp (d_1 := .list []) (d_2 := .list []) (by walk_at "v") (Ev.list .nil (sizeOk (by simp))) (eq_dd LW (by lia) (x := []) (y := []) (fun zz zz => trivial) (fun zz zz => trivial)) rfl
 ·exact Ev.cmp (d_1 := .list ((ul one two).2.map eW)) (d_2 := .list []) (by walk_at "v") (Ev.list .nil (sizeOk (by simp))) (eq_dd LW (by lia) (x := (ul one two).2) (y := []) (fun zz zz => trivial) (fun zz zz => trivial)) rfl
theorem posOk_43 : posOk (stmtAt 43) [N "one", N "two"] := posOk2 fun zz zz zz zz zz => rfl
theorem bags_fun (C : Cx ba mg mb) {a2' a43 : Addr} (h2 : FnG ba mg (stmtAt 2) a2') (h43 : FnG ba mg (stmtAt 43) a43) {one two : List (List Bool)} (z1 : one.length <= 500) (z2 : two.length <= 500) :
  FunX pg w ba 3 (fun vs => PySem.call (.ref a43) vs) [eWs one, eWs two] [] (fun d M' => d = .bool (bags one two) /\ M' = []) (fun zz zz zz => False) :=
 fnX_of_body C h43 (by kernel_rfl) posOk_43 rfl (bags_body C h2 z1 z2)
end
end
section
section
theorem compTurn2_0 (elt t1 i1 t2 i2 : Expr) (scope : Scope) (pos : Pos) (it acc : Value) (U : Env) :
  compTurn (.ListComp elt [⟨t1, i1, [], 0⟩, ⟨t2, i2, [], 0⟩] scope pos) 0 it acc U = (do
   standAt i1.pos
   match <- pyNext it with
   | none => pure (.done .next)
   | some v =>
    letOwnedTupleGo t1 it v
    assign t1 U v
    let x <- eval i2 U
    standAt i2.pos
    let x <- foldedSetIterable i2 U x
    let _ <- runOwn (.compStart (.ListComp elt [⟨t1, i1, [], 0⟩, ⟨t2, i2, [], 0⟩] scope pos) 1 (<- holding [x] (pyIter x)) acc U) U
    again (.compLoop (.ListComp elt [⟨t1, i1, [], 0⟩, ⟨t2, i2, [], 0⟩] scope pos) 0 it acc U)) := by rfl
theorem compTurn2_1 (elt t1 i1 t2 i2 : Expr) (scope : Scope) (pos : Pos) (it acc : Value) (U : Env) :
  compTurn (.ListComp elt [⟨t1, i1, [], 0⟩, ⟨t2, i2, [], 0⟩] scope pos) 1 it acc U = (do
   standAt i2.pos
   match <- pyNext it with
   | none => pure (.done .next)
   | some v =>
    letOwnedTupleGo t2 it v
    assign t2 U v
    (do let _ <- call (.builtin "list.append") [acc, <- eval elt U])
    again (.compLoop (.ListComp elt [⟨t1, i1, [], 0⟩, ⟨t2, i2, [], 0⟩] scope pos) 1 it acc U)) := by rfl
theorem compStart2_1 {t1 i1 t2 i2 : Expr} {scope : Scope} {it acc : Value} {R : Result -> Shared -> Prop}
  (h0 : codeAny (model pg w) A (.compLoop (.ListComp elt [⟨t1, i1, [], 0⟩, ⟨t2, i2, [], 0⟩] scope pos) 1 it acc U) R s)
  (h : wpAny (model pg w) A (pyIter it) (fun it' s' => codeAny (model pg w) A (.compLoop (.ListComp elt [⟨t1, i1, [], 0⟩, ⟨t2, i2, [], 0⟩] scope pos) 1 it' acc U) R s')
   (notedBy (model pg w) A U fun x s' => R (.error x) s') s) :
  codeAny (model pg w) A (.compStart (.ListComp elt [⟨t1, i1, [], 0⟩, ⟨t2, i2, [], 0⟩] scope pos) 1 it acc U) R s := by
 refine codeAny_of_tree ?_
 show wpAny _ _ ((compStart (.ListComp elt [⟨t1, i1, [], 0⟩, ⟨t2, i2, [], 0⟩] scope pos) 1 it acc U).onRaise (fun x => do noteFrame x U; standAt theWindowsPlace)) _ _ s
 refine wpAny_notedAt ?_
 unfold compStart
 show wpAny _ _ (ask >>= _) _ _ s
 refine jB (wpAny_askSetting (wpAny_ite ?_))
 split
 ·first
   | exact jB (jP (jP (And.intro rfl h0)))
   | exact jP (And.intro rfl h0)
 ·first
   | exact jB (wpAny_rule (jB (wpAny_standAt (jB (wpAny_mono h (fun it' s' h' => jP (And.intro rfl h')) fun zz zz x => x)))))
   | (refine jB (wpAny_rule ?_); show wpAny _ _ (standAt i2.pos >>= _) _ _ s; exact jB (wpAny_standAt (jB (wpAny_mono h (fun it' s' h' => jP (And.intro rfl h')) fun zz zz x => x))))
theorem comp_loop2 {Rr : Result -> Shared -> Prop} {t1 i1 t2 i2 : Expr} {scope : Scope} {it acc : Value} (hs : ∀ x, foldedSetIterable i2 U x = pure x) (I : Nat -> Shared -> Prop)
  (turn : ∀ n s, I n s -> ∀ E', wpAny (model pg w) A (pyNext it) (fun r s_1 => match r with
   | none => Rr (.ok .next) s_1
   | some v => wpAny (model pg w) A (letOwnedTupleGo t1 it v) (fun zz s_2 => wpAny (model pg w) A (assign t1 U v) (fun zz s3 =>
     wpAny (model pg w) A (eval i2 U) (fun x s4 => wpAny (model pg w) A (pyIter x) (fun it2 s5 =>
      codeAny (model pg w) A (.compStart (.ListComp elt [⟨t1, i1, [], 0⟩, ⟨t2, i2, [], 0⟩] scope pos) 1 it2 acc U) (fun r s6 => r = .ok .next /\ ∃ m, m < n /\ I m s6) s5) E' s4) E' s3) E' s_2) E' s_1) E' s)
  (n : Nat) (h : I n s) : codeAny (model pg w) A (.compLoop (.ListComp elt [⟨t1, i1, [], 0⟩, ⟨t2, i2, [], 0⟩] scope pos) 0 it acc U) Rr s := by
 refine codeAny_loop rfl I (fun n s hI => ?_) n h
 show wpAny _ A ((compTurn (.ListComp elt [⟨t1, i1, [], 0⟩, ⟨t2, i2, [], 0⟩] scope pos) 0 it acc U).onRaise (fun x => do noteFrame x U; theTreesLotGoes x)) _ _ s
 refine wpAny_noted ?_
 rw [compTurn2_0]
 refine jB (wpAny_standAt (jB (wpAny_mono (turn n s hI _) (fun r s_1 h_1 => ?_) fun zz zz h' => h')))
 cases r with
 | none => exact jP h_1
 | some v =>
  refine jB (wpAny_mono h_1 (fun zz s_2 h_2 => ?_) fun zz zz h' => h')
  refine jB (wpAny_mono h_2 (fun zz s3 h_3 => jB (wpAny_mono h_3 (fun x s4 h_4 => jB (wpAny_standAt (jB (wpAny_of_eq (hs x) ?_)))) fun zz zz h' => h')) fun zz zz h' => h')
  refine jB (wpAny_holding (wpAny_mono h_4 (fun it2 s5 h_5 => ?_) fun zz zz h' => h'))
  refine jB (wpAny_runOwn (codeAny_mono h_5 fun r s' hr => ?_))
  obtain ⟨rfl, m, hm, hI'⟩ := hr
  exact jP ⟨rfl, m, hm, hI'⟩
theorem comp_loop2_1 {Rr : Result -> Shared -> Prop} {t1 i1 t2 i2 : Expr} {scope : Scope} {it acc : Value} (I : Nat -> Shared -> Prop)
  (turn : ∀ n s, I n s -> ∀ E', wpAny (model pg w) A (pyNext it) (fun r s_1 => match r with
   | none => Rr (.ok .next) s_1
   | some v => wpAny (model pg w) A (letOwnedTupleGo t2 it v) (fun zz s_2 => wpAny (model pg w) A (assign t2 U v) (fun zz s3 =>
     wpAny (model pg w) A (eval elt U) (fun x s5 => wpAny (model pg w) A (call (.builtin "list.append") [acc, x]) (fun zz s6 => ∃ m, m < n /\ I m s6) E' s5) E' s3) E' s_2) E' s_1) E' s)
  (n : Nat) (h : I n s) : codeAny (model pg w) A (.compLoop (.ListComp elt [⟨t1, i1, [], 0⟩, ⟨t2, i2, [], 0⟩] scope pos) 1 it acc U) Rr s := by
 refine codeAny_loop rfl I (fun n s hI => ?_) n h
 show wpAny _ A ((compTurn (.ListComp elt [⟨t1, i1, [], 0⟩, ⟨t2, i2, [], 0⟩] scope pos) 1 it acc U).onRaise (fun x => do noteFrame x U; theTreesLotGoes x)) _ _ s
 refine wpAny_noted ?_
 rw [compTurn2_1]
 refine jB (wpAny_standAt (jB (wpAny_mono (turn n s hI _) (fun r s_1 h_1 => ?_) fun zz zz h' => h')))
 cases r with
 | none => exact jP h_1
 | some v =>
  refine jB (wpAny_mono h_1 (fun zz s_2 h_2 => ?_) fun zz zz h' => h')
  refine jB (wpAny_mono h_2 (fun zz s3 h_3 => ?_) fun zz zz h' => h')
  exact jB (jB (wpAny_mono h_3 (fun x s5 h_5 => jB (wpAny_mono h_5 (fun zz s6 h_6 => jP (jP ⟨rfl, h_6⟩)) fun zz zz h' => h')) fun zz zz h' => h'))
end
section
theorem comp2_in {t1 i1 t2 i2 : Expr} {scope : Scope} {β : Type} {enc : β -> D} {ys : List β} {f : β -> D} {bs : D -> Gam} {ns : List Str} {ds0 : List D}
  (tgt : ∀ y ∈ ys, As pg w ba true k sc t2 (enc y) (bs (enc y))) (elts : ∀ y ∈ ys, Ev pg w ba true k sc (bs (enc y) ++ Γ) elt (f y)) (hsub : ∀ y ∈ ys, Sub Γ (bs (enc y) ++ Γ)) (bsn : ∀ d, (bs d).map (·.1) = ns)
 (G : EnvG sc U) (S : St ba B U Γ M s.heap) (Rm : Room true k A) {h_2 : Heap} {tk_2 : Nat} {I D : Nat} (e_2 : Ext s.heap h_2) (hnI : s.heap.get? I = .none) (sr : Src pg w A (B ++ own U M) h_2 I (ys.map enc))
  (hD : D ∈ B) {vs : Array Value} {m : Nat} (hacc : s.heap.get? D = some (listO vs m)) (has : Ats (B ++ own U M) s.heap vs.toList ds0) (hsz : ds0.length + ys.length <= sizeLine)
  (hslot : ∀ x ∈ ns, slot U x ∈ own U M)
  {Rr : Result -> Shared -> Prop}
  (hRR : ∀ h' tk vs' m', St ba B U Γ M h' -> h'.get? D = some (listO vs' m') -> Ats (B ++ own U M) h' vs'.toList (ds0 ++ ys.map f) -> Off (D :: I :: ns.map (slot U)) h_2 h' -> Rr (.ok .next) { s with heap := h', toks := tk }) :
  codeAny (model pg w) A (.compStart (.ListComp elt [⟨t1, i1, [], 0⟩, ⟨t2, i2, [], 0⟩] scope pos) 1 (.ref I) (.ref D) U) Rr ({ s with heap := h_2, toks := tk_2 } : Shared) := by
 obtain ⟨fp, P, St', W, st0, hfp, hval, hcls, hIfp⟩ := sr.src
 have hlI : ∃ o, h_2.get? I = some o := let ⟨_, o, ho, _⟩ := hcls 0 h_2 st0; ⟨o, ho⟩
 have S2 := S.addB e_2 hnI hlI
 have hIB : I ∉ B := fun hm => by obtain ⟨o, x⟩ := S.live I hm; rw [hnI] at x; cases x
 have hIO : I ∉ own U M := S2.bdis I jC
 have hDO : D ∉ own U M := S.bdis D hD
 have hDI : D ≠ I := fun h => hIB (h ▸ hD)
 have slotO : ∀ y ∈ ns.map (slot U), y ∈ own U M := fun y hy => by obtain ⟨x, hx, rfl⟩ := jM.1 hy; exact hslot x hx
 have loop : ∀ s3 : Shared, s3 = { s with heap := h_2, toks := tk_2 } -> codeAny (model pg w) A (.compLoop (.ListComp elt [⟨t1, i1, [], 0⟩, ⟨t2, i2, [], 0⟩] scope pos) 1 (.ref I) (.ref D) U) Rr s3 := by
  rintro s3 rfl
  refine comp_loop2_1 (fun n s' => LoopV s s' n ys.length fun i h' vs m => St' i h' /\ St ba (I :: B) U Γ M h' /\
   h'.get? D = some (listO vs m) /\ Ats (I :: B ++ own U M) h' vs.toList (ds0 ++ (ys.take i).map f) /\ Off (D :: I :: ns.map (slot U)) h_2 h') ?_ (ys.length + 1)
   ⟨0, _, _, vs, m, rfl, Nat.zero_le _, rfl, st0, S2, e_2 _ _ hacc, ?_, Off.refl _ _⟩
  rotate_left
  ·rw [List.take_zero, List.map_nil, List.append_nil]
   refine has.move fun b o hb ho => ⟨fun hm => ?_, e_2 b o ho⟩
   rcases jK.1 hm with h | h
   ·rw [h, hnI] at ho; cases ho
   ·exact hb h
  intro n s' hI E'
  refine bc fun hn => ?_
  obtain ⟨i, h', tk, vs, m, rfl, hi, rfl, sti, Si, hacc, has, off⟩ := hI
  refine hn ?_
  by_cases hlt : i < ys.length
  ·have hmem : ys[i] ∈ ys := List.getElem_mem hlt
   have hd : (ys.map enc)[i]? = some (enc ys[i]) := by simp [hlt]
   have htake : ys.take (i + 1) = ys.take i ++ [ys[i]] := by simp
   refine W.item i _ _ _ (by simpa using hlt) sti fun v h_3 tk_3 hP st_3 hk_3 => ?_
   have o3 : Off [I] h' h_3 := fun b o hb e => hk_3 b o hb e
   have live3 : ∃ T o, h_3.get? I = some o /\ o.cls = .type T /\ ownsTuples T = false := hcls (i + 1) h_3 st_3
   have S3 := Si.offMem jC o3 (let ⟨_, o, ho, _⟩ := live3; ⟨o, ho⟩)
   refine letOwned_ok live3 ?_
   have off3 : Off (D :: I :: ns.map (slot U)) h_2 h_3 := off.trans (o3.mono fun y hy => by rw [jS.1 hy]; simp)
   have ZX : ∀ y ∈ D :: I :: ns.map (slot U), y ∈ I :: (B ++ own U M) := fun y hy => by
    rcases jK.1 hy with h | hy
    ·rw [h]; exact jT _ (jA.2 (.inl hD))
    ·rcases jK.1 hy with h | hy
     ·rw [h]; exact jC
     ·exact jT _ (jA.2 (.inr (slotO y hy)))
   have av : At (I :: B ++ own U M) h_3 v (enc ys[i]) := (hval i v _ hP hd).move fun b o hb ho => ⟨hb, off3 b o (fun hm => hb (ZX b hm)) ho⟩
   refine tgt _ hmem _ _ _ Γ M v A _ E' G S3 Rm av fun h_4 tk_4 S4 zz o4 => ?_
   have o4' : Off (ns.map (slot U)) h_3 h_4 := by
    have e : (bs (enc ys[i])).map (fun p => slot U p.1) = ns.map (slot U) := by rw [<- bsn (enc ys[i]), List.map_map]; rfl
    rw [<- e]; exact o4
   have off4 : Off (D :: I :: ns.map (slot U)) h_2 h_4 := off3.trans (o4'.mono fun y hy => jT _ (jT _ hy))
   have acc4 : h_4.get? D = some (listO vs m) := o4' _ _ (fun hm => hDO (slotO _ hm)) (o3 _ _ (fun hm => hDI (jS.1 hm)) hacc)
   have fpS : ∀ b ∈ fp, b ∉ ns.map (slot U) /\ (b ≠ I -> b ≠ D) := fun b hb => by
    by_cases hbI : b = I
    ·exact ⟨fun hm => hIO (hbI ▸ slotO b hm), fun h => absurd hbI h⟩
    ·obtain ⟨hX, _⟩ := hfp b hb hbI
     exact ⟨fun hm => hX (jA.2 (.inr (slotO b hm))), fun zz h => hX (jA.2 (.inl (h ▸ hD)))⟩
   have st4 : St' (i + 1) h_4 := W.frame _ _ _ st_3 fun b hb o e => o4' b o (fpS b hb).1 e
   have has4 : Ats (I :: B ++ own U M) h_4 vs.toList (ds0 ++ (ys.take i).map f) := has.move fun b o hb ho => ⟨hb, o4' b o (fun hm => hb (jA.2 (.inr (slotO b hm)))) (o3 b o (fun hm => hb (by rw [jS.1 hm]; exact jA.2 (.inl jC))) ho)⟩
   refine (elts _ hmem _ _ _ M G S4).bind Rm fun y h_6 tk_6 e6 ay => ?_
   have acc6 : h_6.PlainList D vs := ⟨m, e6 _ _ acc4⟩
   have hvs : vs.size <= sizeLine := by
    have h1 := size_of_ats has
    rw [List.length_append, List.length_map, List.length_take] at h1
    lia
   refine wpAny_list_append_plain acc6 (fun h_7 hpl hsame => ?_) hvs
   obtain ⟨m', acc7⟩ := hpl
   have o7 : Off [D] h_6 h_7 := same_off hsame
   have hDB' : D ∈ I :: B := jT _ hD
   have S7 := (S4.ext e6).offMem hDB' o7 ⟨_, acc7⟩
   refine ⟨ys.length + 1 - (i + 1), by lia, i + 1, h_7, tk_6, vs.push y, m', rfl, by lia, rfl, ?_, S7.sub (hsub _ hmem), acc7, ?_, (off4.trans e6.off).trans (o7.mono fun y hy => by rw [jS.1 hy]; exact jC)⟩
   ·refine W.frame _ _ _ (W.frame _ _ _ st4 fun b zz o e => e6 b o e) fun (b : Nat) hb o e => o7 b o (fun hm => ?_) e
    have hbD := jS.1 hm
    by_cases hbI : b = I
    ·exact hDI (hbD.symm.trans hbI)
    ·exact (fpS b hb).2 hbI hbD
   ·rw [htake, List.map_append, <- List.append_assoc]
    have offD : Off (I :: B ++ own U M) h_6 h_7 := o7.mono fun y hy => by rw [jS.1 hy]; exact jA.2 (.inl hDB')
    have := ((has4.ext e6).off offD).push (ay.off offD)
    simpa using this
  ·have hie : i = ys.length := by lia
   subst hie
   rw [List.take_length] at has
   refine W.done _ _ _ (by rw [List.length_map]; exact sti) fun h_3 tk_3 hk_3 => ?_
   have o3 : Off [I] h' h_3 := fun b o hb e => hk_3 b o hb e
   refine hRR h_3 tk_3 vs m (Si.offOut o3 hIB) (o3 _ _ (fun hm => hDI (jS.1 hm)) hacc) ?_ (off.trans (o3.mono fun y hy => by rw [jS.1 hy]; simp))
   exact has.move fun b o hb ho => ⟨fun hm => hb (jT _ hm), o3 b o (fun hm => hb (by rw [jS.1 hm]; exact jA.2 (.inl jC))) ho⟩
 exact compStart2_1 (loop _ rfl) (W.self 0 _ _ _ st0 (loop _ rfl))
structure CompOk2 (pg : Program) (w : World) (ba : Heap) (k : Nat) (sc csc : Scope) (Γ Γ' : Gam) (elt t1 t2 i2 : Expr) {α β : Type} (enc : α -> D) (xs : List α) (enc2 : β -> D) (ys : α -> List β) (f : α -> β -> D) (ns ns2 : List Str) (bs bs2 : D -> Gam) : Prop where
 ok : compOk csc sc = true
 see : SubC csc sc Γ' Γ
 names : (ns ++ ns2).all (storable csc) = true
 bsn : ∀ d, (bs d).map (·.1) = ns
 bsn2 : ∀ d, (bs2 d).map (·.1) = ns2
 tgt : ∀ x ∈ xs, As pg w ba true k (relab csc sc) t1 (enc x) (bs (enc x))
 inner : ∀ x ∈ xs, EvS pg w ba true k (relab csc sc) (bs (enc x) ++ Γ') i2 ((ys x).map enc2)
 tgt2 : ∀ x ∈ xs, ∀ y ∈ ys x, As pg w ba true k (relab csc sc) t2 (enc2 y) (bs2 (enc2 y))
 elts : ∀ x ∈ xs, ∀ y ∈ ys x, Ev pg w ba true k (relab csc sc) (bs2 (enc2 y) ++ (bs (enc x) ++ Γ')) elt (f x y)
 keep : ∀ x ∈ xs, ∀ y ∈ ys x, Sub (bs (enc x) ++ Γ') (bs2 (enc2 y) ++ (bs (enc x) ++ Γ'))
 size : (xs.flatMap fun x => (ys x).map (f x)).length <= sizeLine
 fold : ∀ U x, foldedSetIterable i2 U x = pure x
theorem comp_core2 {t1 i1 t2 i2 : Expr} {β : Type} {enc2 : β -> D} {ys : α -> List β} {f : α -> β -> D} {ns ns2 : List Str} {bs bs2 : D -> Gam} (O : CompOk2 pg w ba k sc csc Γ Γ' elt t1 t2 i2 enc xs enc2 ys f ns ns2 bs bs2)
 (G : EnvG sc U) (S : St ba B U Γ M s.heap) (Rm : Room true k A) {h_2 : Heap} {tk_2 : Nat} {I : Nat} (e_2 : Ext s.heap h_2) (hnI : s.heap.get? I = .none) (sr : Src pg w A (B ++ own U M) h_2 I (xs.map enc))
  {RR : Value -> Addr -> Result -> Shared -> Prop}
  (hRR : ∀ h' tk m, h'.Ns (h_2.objs.size + 1) m -> At ((h_2.objs.size + 1) :: (B ++ own U M)) h' (.ref h_2.objs.size) (.list (xs.flatMap fun x => (ys x).map (f x))) -> Off [I] h_2 h' -> RR (.ref h_2.objs.size) (h_2.objs.size + 1) (.ok .next) { s with heap := h', toks := tk }) :
  wpAny (model pg w) A (newList []) (fun acc s3 => wpAny (model pg w) A (newFunctionEnv csc U.globals (clOf U csc.names []) [] U.qual .none .none (some U)) (fun cenv s4 =>
   codeAny (model pg w) A (.compStart (.ListComp elt [⟨t1, i1, [], 0⟩, ⟨t2, i2, [], 0⟩] csc pos) 0 (.ref I) acc { cenv with scope := relabel csc U }) (RR acc cenv.locals) s4) E s3) E ({ s with heap := h_2, toks := tk_2 } : Shared) := by
 have F := compFacts O.ok G
 obtain ⟨fp, P, St', W, st0, hfp, hval, hcls, hIfp⟩ := sr.src
 have hlI : ∃ o, h_2.get? I = some o := let ⟨_, o, ho, _⟩ := hcls 0 h_2 st0; ⟨o, ho⟩
 have S4 := S.comp G O.ok O.see e_2 hnI hlI
 have G4 := G.comp O.ok (h_2.objs.size + 1)
 have CO := h4_cells csc h_2
 refine wpAny_newObj_type (newEnv_comp ?_)
 show codeAny _ _ (.compStart _ 0 (.ref I) (.ref h_2.objs.size) (cEnv csc U (h3 h_2).objs.size)) (RR (.ref h_2.objs.size) (h3 h_2).objs.size) ({ s with heap := h4 csc h_2, toks := tk_2 } : Shared)
 rw [h3_size]
 have geC : ∀ a : Nat, a ∈ (cellsFrom (h_2.objs.size + 1 + 1) csc.names []).map (·.2) -> h_2.objs.size + 2 <= a := fun a ha => by obtain ⟨p, hp, rfl⟩ := jM.1 ha; exact (CO.empty p.1 p.2 hp).2
 generalize hZ : h_2.objs.size :: I :: (h_2.objs.size + 1) :: (cellsFrom (h_2.objs.size + 1 + 1) csc.names []).map (·.2) = Z at *
 have hZold : ∀ b : Nat, b ∈ Z -> b = I \/ h_2.get? b = .none := fun b hb => by
  rw [<- hZ] at hb
  rcases jK.1 hb with h | hb
  ·exact .inr (none_of_le (Nat.le_of_eq (Eq.symm h)))
  ·rcases jK.1 hb with h | hb
   ·exact .inl h
   ·rcases jK.1 hb with h | hb
    ·have h : @Eq Nat b (h_2.objs.size + 1) := h
     exact .inr (none_of_le (by lia))
    ·exact .inr (none_of_le (by have := geC b hb; lia))
 have DZ : h_2.objs.size ∈ Z := by rw [<- hZ]; exact jC
 have IZ : I ∈ Z := by rw [<- hZ]; exact jT _ jC
 have hIB' : I ∈ bC h_2.objs.size I B csc U := jT _ jC
 have hDB' : h_2.objs.size ∈ bC h_2.objs.size I B csc U := jC
 have hfpZ : ∀ b, b ∈ fp -> b ≠ I -> b ∉ Z := fun b hb hbI hm => by
  obtain ⟨_, o, ho⟩ := hfp b hb hbI
  rcases hZold b hm with h | h
  ·exact hbI h
  ·rw [h] at ho; cases ho
 have loop : ∀ s3 : Shared, s3 = { s with heap := h4 csc h_2, toks := tk_2 } ->
   codeAny (model pg w) A (.compLoop (.ListComp elt [⟨t1, i1, [], 0⟩, ⟨t2, i2, [], 0⟩] csc pos) 0 (.ref I) (.ref h_2.objs.size) (cEnv csc U (h_2.objs.size + 1))) (RR (.ref h_2.objs.size) (h_2.objs.size + 1)) s3 := by
  rintro s3 rfl
  refine comp_loop2 (O.fold _) (fun n s' => LoopV s s' n xs.length fun i h' vs m => St' i h' /\ St ba (bC h_2.objs.size I B csc U) (cEnv csc U (h_2.objs.size + 1)) Γ' M h' /\
   h'.get? h_2.objs.size = some (listO vs m) /\ Ats (bC h_2.objs.size I B csc U ++ own (cEnv csc U (h_2.objs.size + 1)) M) h' vs.toList ((xs.take i).flatMap fun x => (ys x).map (f x)) /\ Off Z (h4 csc h_2) h') ?_ (xs.length + 1)
   ⟨0, _, _, #[], 0, rfl, Nat.zero_le _, rfl, W.frame _ _ _ st0 fun b zz o e => h4_ext csc h_2 b o e, S4, h4_acc csc h_2, by simpa using Ats.nil, Off.refl _ _⟩
  intro n s' hI E'
  refine bc fun hn => ?_
  obtain ⟨i, h', tk, vs, m, rfl, hi, rfl, sti, Si, hacc, has, off⟩ := hI
  refine hn ?_
  have off2 : ∀ {h'' : Heap}, Off Z (h4 csc h_2) h'' -> Off [I] h_2 h'' := fun o' b ob hb e => o' b ob (fun hm => by
   rcases hZold b hm with h | h
   ·exact hb (jS.2 h)
   ·rw [h] at e; cases e) (h4_ext csc h_2 b ob e)
  by_cases hlt : i < xs.length
  ·have hmem : xs[i] ∈ xs := List.getElem_mem hlt
   have hd : (xs.map enc)[i]? = some (enc xs[i]) := by simp [hlt]
   have htake : xs.take (i + 1) = xs.take i ++ [xs[i]] := by simp
   refine W.item i _ _ _ (by simpa using hlt) sti fun v h_3 tk_3 hP st_3 hk_3 => ?_
   have o3 : Off [I] h' h_3 := fun b o hb e => hk_3 b o hb e
   have live3 : ∃ T o, h_3.get? I = some o /\ o.cls = .type T /\ ownsTuples T = false := hcls (i + 1) h_3 st_3
   have S3 := Si.offMem hIB' o3 (let ⟨_, o, ho, _⟩ := live3; ⟨o, ho⟩)
   refine letOwned_ok live3 ?_
   have off3 : Off Z (h4 csc h_2) h_3 := off.trans (o3.mono fun y hy => by rw [jS.1 hy]; exact IZ)
   have av : At (bC h_2.objs.size I B csc U ++ own (cEnv csc U (h_2.objs.size + 1)) M) h_3 v (enc xs[i]) := by
    refine (hval i v _ hP hd).move fun (b : Nat) o hb ho => ⟨fun hm => ?_, off3 b o (fun hm => ?_) (h4_ext csc h_2 b o ho)⟩
    ·have hbl : b < h_2.objs.size := Heap.lt_size ho
     rcases compX' S F hm with h | h | h | h | h
     ·lia
     ·exact hb (h ▸ jC)
     ·lia
     ·have := geC b h; lia
     ·exact hb (jT _ h)
    ·rcases hZold b hm with h | h
     ·exact hb (h ▸ jC)
     ·rw [h] at ho; cases ho
   refine O.tgt _ hmem _ _ _ Γ' M v A _ E' G4 S3 Rm av fun h_4 tk_4 S4' zz o4 => ?_
   have slotsZ : ∀ y ∈ (bs (enc xs[i])).map (fun p => slot (cEnv csc U (h_2.objs.size + 1)) p.1), y ∈ Z := fun y hy => by
    obtain ⟨pr, hpr, rfl⟩ := jM.1 hy
    have hn : pr.1 ∈ ns := by rw [<- O.bsn (enc xs[i])]; exact jM.2 ⟨pr, hpr, rfl⟩
    have hst := List.all_eq_true.1 O.names _ (jA.2 (.inl hn))
    rw [<- hZ]
    rcases slot_fresh O.ok G (C := h_2.objs.size + 1) hst with h | h
    ·rw [h]; simp
    ·simp [h]
   have off4 : Off Z (h4 csc h_2) h_4 := off3.trans (o4.mono slotsZ)
   have frame4 : ∀ b, b = h_2.objs.size \/ b ∈ fp -> b ∉ (bs (enc xs[i])).map (fun p => slot (cEnv csc U (h_2.objs.size + 1)) p.1) := fun (b : Nat) hb hm => by
    obtain ⟨pr, hpr, e⟩ := jM.1 hm
    have hn : pr.1 ∈ ns := by rw [<- O.bsn (enc xs[i])]; exact jM.2 ⟨pr, hpr, rfl⟩
    have hst := List.all_eq_true.1 O.names _ (jA.2 (.inl hn))
    have hbl : b <= h_2.objs.size := by
     rcases hb with h | h
     ·exact Nat.le_of_eq h
     ·by_cases hbI : b = I
      ·obtain ⟨o, x⟩ := hlI; rw [hbI]; exact Nat.le_of_lt (Heap.lt_size x)
      ·obtain ⟨_, o, x⟩ := hfp b h hbI; exact Nat.le_of_lt (Heap.lt_size x)
    rcases slot_fresh O.ok G (C := h_2.objs.size + 1) hst with h | h
    ·rw [e] at h
     have h : @Eq Nat b (h_2.objs.size + 1) := h
     lia
    ·rw [e] at h; have := geC b h; lia
   have acc4 : h_4.get? h_2.objs.size = some (listO vs m) := o4 _ _ (frame4 _ (.inl rfl)) (o3 _ _ (fun hm => by
    have : @Eq Nat h_2.objs.size I := jS.1 hm
    obtain ⟨o, x⟩ := hlI; have := ltz x; lia) hacc)
   have st4 : St' (i + 1) h_4 := W.frame _ _ _ st_3 fun b hb o e => o4 b o (frame4 b (.inr hb)) e
   have has4 : Ats (bC h_2.objs.size I B csc U ++ own (cEnv csc U (h_2.objs.size + 1)) M) h_4 vs.toList ((xs.take i).flatMap fun x => (ys x).map (f x)) := by
    refine has.move fun b o hb ho => ⟨hb, o4 b o (fun hm => hb ?_) (o3 b o (fun hm => hb ?_) ho)⟩
    ·obtain ⟨pr, hpr, e⟩ := jM.1 hm
     have hn : pr.1 ∈ ns := by rw [<- O.bsn (enc xs[i])]; exact jM.2 ⟨pr, hpr, rfl⟩
     have hst := List.all_eq_true.1 O.names _ (jA.2 (.inl hn))
     refine jA.2 (.inr (mem_own.2 ?_))
     rcases slot_fresh O.ok G (C := h_2.objs.size + 1) hst with h | h
     ·exact .inl (e ▸ h)
     ·exact .inr (.inl (mem_cells_split.2 (.inl (e ▸ h))))
    ·rw [jS.1 hm]; exact jA.2 (.inl hIB')
   have subΓ : Sub Γ' (bs (enc xs[i]) ++ Γ') := fun x d hx => by
    rw [lookup_app_none]
    ·exact hx
    ·intro pr hpr e
     have hn : pr.1 ∈ ns := by rw [<- O.bsn (enc xs[i])]; exact jM.2 ⟨pr, hpr, rfl⟩
     have hst := List.all_eq_true.1 O.names _ (jA.2 (.inl hn))
     have hfr := (O.see x d hx).2.1
     rw [e] at hst
     simp [storable, hfr] at hst
   have slot2 : ∀ x ∈ ns2, slot (cEnv csc U (h_2.objs.size + 1)) x = h_2.objs.size + 1 \/ slot (cEnv csc U (h_2.objs.size + 1)) x ∈ (cellsFrom (h_2.objs.size + 1 + 1) csc.names []).map (·.2) := fun x hx =>
    slot_fresh O.ok G (List.all_eq_true.1 O.names _ (jA.2 (.inr hx)))
   have slot2Z : ∀ y ∈ ns2.map (slot (cEnv csc U (h_2.objs.size + 1))), y ∈ Z := fun y hy => by
    obtain ⟨x, hx, rfl⟩ := jM.1 hy
    rw [<- hZ]
    rcases slot2 x hx with h | h
    ·rw [h]; simp
    ·simp [h]
   refine O.inner _ hmem _ _ _ M A _ E' G4 S4' Rm fun I2 h_5 tk_5 e5 hn2 sr2 => ?_
   have hn2' : h_2.get? I2 = .none := by
    cases e : h_2.get? I2 with
    | none => rfl
    | some ob =>
     by_cases hz : I2 ∈ Z
     ·rcases hZold _ hz with h | h
      ·have hI4 : ∃ o, h_4.get? I = some o := let ⟨o, x⟩ := S4'.allLive I (jA.2 (.inl hIB')); ⟨o, x⟩
       obtain ⟨o, x⟩ := hI4; rw [<- h, hn2] at x; cases x
      ·rw [h] at e; cases e
     ·have := off4 _ _ hz (h4_ext csc h_2 _ _ e); rw [hn2] at this; cases this
   have hsz : ((xs.take i).flatMap fun x => (ys x).map (f x)).length + (ys xs[i]).length <= sizeLine := by
    refine Nat.le_trans ?_ O.size
    have e : xs = xs.take i ++ xs[i] :: xs.drop (i + 1) := by rw [List.getElem_cons_drop, List.take_append_drop]
    have e2 := congrArg (fun l => (l.flatMap fun x => (ys x).map (f x)).length) e
    simp only [List.flatMap_append, List.flatMap_cons, List.length_append, List.length_map] at e2
    rw [e2]; lia
   refine comp2_in (fun y hy => O.tgt2 _ hmem y hy) (fun y hy => O.elts _ hmem y hy) (fun y hy => O.keep _ hmem y hy) O.bsn2 (s := ({ s with heap := h_4, toks := tk_4 } : Shared)) G4 S4' Rm e5 hn2 sr2 hDB' acc4 has4 hsz
    (fun x hx => mem_own.2 (by
     rcases slot2 x hx with h | h
     ·exact .inl h
     ·exact .inr (.inl (mem_cells_split.2 (.inl h))))) (fun h_6 tk_6 vs' m' S6 acc6 has6 off6 => ⟨rfl, ?_⟩)
   have hDZ2 : ∀ y ∈ h_2.objs.size :: I2 :: ns2.map (slot (cEnv csc U (h_2.objs.size + 1))), y ∈ Z \/ h_5.get? y = .none \/ y = I2 := fun y hy => by
    rcases jK.1 hy with h | hy
    ·exact .inl (h ▸ DZ)
    ·rcases jK.1 hy with h | hy
     ·exact .inr (.inr h)
     ·exact .inl (slot2Z y hy)
   have hI2h4 : (h4 csc h_2).get? I2 = .none := by
    cases e : (h4 csc h_2).get? I2 with
    | none => rfl
    | some ob =>
     by_cases hz : I2 ∈ Z
     ·have : ∃ o, h_4.get? I2 = some o := by
       refine S4'.allLive I2 ?_
       rw [<- hZ] at hz
       rcases jK.1 hz with h | hz
       ·exact jA.2 (.inl (h ▸ hDB'))
       ·rcases jK.1 hz with h | hz
        ·exact jA.2 (.inl (h ▸ hIB'))
        ·rcases jK.1 hz with h | hz
         ·exact jA.2 (.inr (mem_own.2 (.inl h)))
         ·exact jA.2 (.inr (mem_own.2 (.inr (.inl (mem_cells_split.2 (.inl hz))))))
      obtain ⟨o, x⟩ := this; rw [hn2] at x; cases x
     ·have := off4 _ _ hz e; rw [hn2] at this; cases this
   have offA : Off Z (h4 csc h_2) h_6 := fun b o hb e => off6 b o (fun hm => by
    rcases hDZ2 b hm with h | h | h
    ·exact hb h
    ·have := e5 _ _ (off4 b o hb e); rw [h] at this; cases this
    ·rw [h, hI2h4] at e; cases e) (e5 _ _ (off4 b o hb e))
   have fp2 : ∀ b ∈ fp, b ∉ h_2.objs.size :: I2 :: ns2.map (slot (cEnv csc U (h_2.objs.size + 1))) := fun (b : Nat) hb hm => by
    have hlb : ∃ o, h_2.get? b = some o := by
     by_cases hbI : b = I
     ·rw [hbI]; exact hlI
     ·obtain ⟨_, o, x⟩ := hfp b hb hbI; exact ⟨o, x⟩
    obtain ⟨o, x⟩ := hlb
    have hbl := ltz x
    rcases jK.1 hm with h | hm
    ·have h : @Eq Nat b h_2.objs.size := h
     lia
    ·rcases jK.1 hm with h | hm
     ·rw [h, hn2'] at x; cases x
     ·obtain ⟨y, hy, e⟩ := jM.1 hm
      rcases slot2 y hy with h | h
      ·rw [e] at h
       have h : @Eq Nat b (h_2.objs.size + 1) := h
       lia
      ·rw [e] at h; have := geC b h; lia
   refine ⟨xs.length + 1 - (i + 1), by lia, i + 1, h_6, tk_6, vs', m', rfl, by lia, rfl, ?_, S6.sub subΓ, acc6, ?_, offA⟩
   ·exact W.frame _ _ _ (W.frame _ _ _ st4 fun b zz o e => e5 b o e) fun b hb o e => off6 b o (fp2 b hb) e
   ·rw [htake, List.flatMap_append]
    simpa using has6
  ·have hie : i = xs.length := by lia
   subst hie
   rw [List.take_length] at has
   refine W.done _ _ _ (by rw [List.length_map]; exact sti) fun h_3 tk_3 hk_3 => ?_
   have o3 : Off [I] h' h_3 := fun b o hb e => hk_3 b o hb e
   have off3 : Off Z (h4 csc h_2) h_3 := off.trans (o3.mono fun y hy => by rw [jS.1 hy]; exact IZ)
   obtain ⟨mm, hn⟩ := Si.ok.ns
   have hIC : @Eq Nat (h_2.objs.size + 1) I -> False := fun h => by obtain ⟨o, x⟩ := hlI; have := ltz x; lia
   have hID : @Eq Nat h_2.objs.size I -> False := fun h => by obtain ⟨o, x⟩ := hlI; have := ltz x; lia
   refine hRR h_3 tk_3 mm (hn.at' fun o e => o3 _ o (fun hm => hIC (jS.1 hm)) e) ?_ (off2 off3)
   refine .list (n := m) ?_ (o3 _ _ (fun hm => hID (jS.1 hm)) hacc) ?_
   ·intro hm
    rcases jK.1 hm with h | h
    ·have h : @Eq Nat h_2.objs.size (h_2.objs.size + 1) := h
     lia
    ·obtain ⟨o, x⟩ := S.allLive _ h
     have := Heap.lt_size (e_2 _ _ x)
     exact Nat.lt_irrefl _ this
   ·refine has.move fun b o hb ho => ⟨fun hm => hb ?_, o3 b o (fun hm => hb ?_) ho⟩
    ·rcases jK.1 hm with h | h
     ·exact jA.2 (.inr (mem_own.2 (.inl h)))
     ·exact compX S F h
    ·rw [jS.1 hm]; exact jA.2 (.inl hIB')
 exact codeAny_compStart_list (loop _ rfl) (W.self 0 _ _ _ (W.frame _ _ _ st0 fun b zz o e => h4_ext csc h_2 b o e) (loop _ rfl))
theorem Ev.comp2 {t1 i1 t2 i2 : Expr} {β : Type} {enc2 : β -> D} {ys : α -> List β} {f : α -> β -> D} {ns ns2 : List Str} {bs bs2 : D -> Gam} (h : EvS pg w ba true k sc Γ i1 (xs.map enc)) (O : CompOk2 pg w ba k sc csc Γ Γ' elt t1 t2 i2 enc xs enc2 ys f ns ns2 bs bs2)
  (hs : autoParam (∀ U x, foldedSetIterable i1 U x = pure x) tA) : Ev pg w ba true k sc Γ (.ListComp elt [⟨t1, i1, [], 0⟩, ⟨t2, i2, [], 0⟩] csc pos) (.list (xs.flatMap fun x => (ys x).map (f x))) := by
 intro U s B M G S A Q E Rm hQ
 have F := compFacts O.ok G
 rw [eval_ListComp]
 refine wpAny_comprehension_free (use := none) rfl (hs U) (closureFor_eq F.free) F.kind (hnames_of F) (h U s B M A _ E G S Rm fun I h_2 tk_2 e_2 hnI sr => ?_)
 refine comp_core2 O G S Rm e_2 hnI sr (RR := fun acc C => compPost (model pg w) A E none Q acc C) ?_
 intro h' tk m hn a off
 refine ⟨m, hn, fun h'' hs'' => hQ _ h'' tk (fun b o e => ?_) ((a.off ((same_off hs'').mono fun y hy => by rw [jS.1 hy]; exact jC)).sub fun y hy => jT _ hy)⟩
 have e' := e_2 b o e
 refine hs''.extBut b o (fun hb => ?_) (off b o (fun hm => ?_) e')
 ·have hb : @Eq Nat b (h_2.objs.size + 1) := hb
  have := ltz (a := b) e'
  lia
 ·rw [jS.1 hm, hnI] at e; cases e
end
end
section
open PyProof.Rows
noncomputable def isEnd (en g : Nat) : Bool := (((g &&& en : Nat) : Int) != 0)
noncomputable def groupsOf (en : Nat) : List Nat := (List.range 8).filter (isEnd en)
noncomputable def succs (steps : List (Nat × Nat)) (g : Nat) : List Nat := [(steps.getD g (0, 0)).1, (steps.getD g (0, 0)).2]
noncomputable def reach (steps : List (Nat × Nat)) (start : Nat) : Nat -> List Nat
 | 0 => [start]
 | t + 1 => uniq (reach steps start t ++ (reach steps start t).flatMap (succs steps))
theorem reach_0 {steps : List (Nat × Nat)} {start : Nat} : reach steps start 0 = [start] := rfl
theorem reach_s {steps : List (Nat × Nat)} {start t : Nat} : reach steps start (t + 1) = uniq (reach steps start t ++ (reach steps start t).flatMap (succs steps)) := rfl
noncomputable def keepK (cs : List (List (List Bool))) (i : Nat) : Bool := decide (i = 0) || !decide (cs.getD i [] = cs.getD (i - 1) [])
noncomputable def kindsOf (cs : List (List (List Bool))) : List (List (List Bool)) := ((List.range cs.length).filter (keepK cs)).map fun i => cs.getD i []
noncomputable def pairsOf (m : Mach) : List (Nat × Nat) := m.2.2.map fun p => (p.1.getD 0 0, p.2.getD 0 0)
noncomputable def ownOf (m : Mach) : List (List Bool) := looks m.2.1 (pairsOf m)
structure MD (m : Mach) : Prop where
 len : m.2.2.length <= 8
 st : ∀ i ∈ m.1, i < m.2.2.length
 one : ∀ p ∈ m.2.2, ∃ i j, p = ([i], [j]) /\ i < m.2.2.length /\ j < m.2.2.length
 z : m.1.length <= 8
structure Fits (m : Mach) (due : List (List (List Bool))) (look : List Bool) : Prop where
 cards : cards (ownOf m) (pairsOf m) (List.range (ownOf m).length) = due
 start : m.1.map (fun i => (ownOf m).getD i []) = [look]
theorem MD.pairs (V : MD m) : ∀ p ∈ pairsOf m, p.1 < (pairsOf m).length /\ p.2 < (pairsOf m).length := by
 intro p hp
 obtain ⟨r, hr, rfl⟩ := jM.1 hp
 obtain ⟨i, j, rfl, h1, h2⟩ := V.one r hr
 simpa [pairsOf] using ⟨h1, h2⟩
theorem ownOf_len (m : Mach) : (ownOf m).length = (pairsOf m).length := (lookIt_len _ _ _).2
theorem pairsOf_len (m : Mach) : (pairsOf m).length = m.2.2.length := by simp [pairsOf]
theorem uniq_len (l : List Nat) : (uniq l).length <= 8 := by
 unfold uniq
 exact Nat.le_trans (List.length_filter_le _ _) (by simp)
theorem uniq_lt {l : List Nat} (h : n ∈ uniq l) : n < 8 := List.mem_range.1 (List.mem_filter.1 h).1
theorem reach_len (steps : List (Nat × Nat)) (start t : Nat) : (reach steps start t).length <= 8 := by
 cases t with
 | zero => simp [reach_0]
 | succ t => exact uniq_len _
theorem reach_lt {steps : List (Nat × Nat)} {start : Nat} (h : start < 8) (t : Nat) : ∀ n ∈ reach steps start t, n < 8 := by
 cases t with
 | zero => intro n hn; rw [reach_0, List.mem_singleton] at hn; lia
 | succ t => exact fun n hn => uniq_lt hn
section
theorem Ev.asD {d' : D} (h : d = d') (he : Ev pg w ba q k sc Γ e d) : Ev pg w ba q k sc Γ e d' := h ▸ he
theorem posOk_41 : posOk (stmtAt 41) [N "ends", N "steps"] := posOk2 fun zz zz zz zz zz => rfl
theorem posOk_42 : posOk (stmtAt 42) [N "looks", N "steps", N "states"] := posOk3 fun zz zz zz zz zz zz => rfl
theorem looks_fun (C : Cx ba mg mb) {a41 : Addr} (h41 : FnG ba mg (stmtAt 41) a41) {ends : List Nat} {steps : List (Nat × Nat)} (hm : steps.length <= 100) (hin : ∀ p ∈ steps, p.1 < steps.length /\ p.2 < steps.length) :
  FunN pg w ba true 2 (fun vs => PySem.call (.ref a41) vs) [eL ends, .list (steps.map ePr)] (eWs (looks ends steps)) :=
 pure_of_body C h41 (ns := [N "ends", N "steps"]) (by kernel_rfl) (fun vs pm code doc hv => posOk_41 vs pm code doc hv) (looks_body C hm hin)
theorem cards_fun (C : Cx ba mg mb) {a42 : Addr} (h42 : FnG ba mg (stmtAt 42) a42) {lk : List (List Bool)} {steps : List (Nat × Nat)} {xs : List Nat} {st : D} (hst : ∀ {sc : Scope} {Γ : Gam} {e : Expr}, Ev pg w ba true 1 sc Γ e st -> EvS pg w ba true 1 sc Γ e (xs.map eN)) (hl : lk.length = steps.length) (hm : steps.length <= 100)
  (hin : ∀ p ∈ steps, p.1 < steps.length /\ p.2 < steps.length) (hx : ∀ s ∈ xs, s < steps.length) (h64 : xs.length < 64) :
  FunN pg w ba true 2 (fun vs => PySem.call (.ref a42) vs) [eWs lk, .list (steps.map ePr), st] (eCs (cards lk steps xs)) :=
 pure_of_body C h42 (ns := [N "looks", N "steps", N "states"]) (by kernel_rfl) (fun vs pm code doc hv => posOk_42 vs pm code doc hv) (cards_body C hst hl hm hin hx h64)
theorem least_body (C : Cx ba mg mb) {a2 a41 a42 a43 : Addr} (h2 : FnG ba mg (stmtAt 2) a2) (h41 : FnG ba mg (stmtAt 41) a41) (h42 : FnG ba mg (stmtAt 42) a42) (h43 : FnG ba mg (stmtAt 43) a43)
  {m1 m2 : Mach} {steps : List (Nat × Nat)} {start en : Nat} (V1 : MD m1) (V2 : MD m2) (h8 : steps.length = 8) (hin : ∀ p ∈ steps, p.1 < 8 /\ p.2 < 8) (hst : start < 8)
  {lk : List (List Bool)} {cs : List (List (List Bool))} (elk : lk = looks (groupsOf en) steps) (ecs : cs = cards lk steps (reach steps start 7))
  (f1 : Fits m1 cs (lk.getD start [])) (f2 : Fits m2 (kindsOf cs) (lk.getD start [])) :
  Ef pg w ba true true 3 (fnScope (stmtAt 44)) [(N "some", eM m1), (N "least", eM m2), (N "steps", .list (steps.map ePr)), (N "start", eN start), (N "end", eN en)] [] (fnBody (stmtAt 44))
   (fun o zz M' => ∃ (d : D) (M_1 : Mut), o = .ret d /\ M_1.Sublist M' /\ M_1.map (·.1) = ([] : Mut).map (·.1) /\ d = .bool (bags (ownOf m1) (ownOf m2)) /\ M_1 = [])
   (fun X d zz M' => ∃ M_1 : Mut, M_1.Sublist M' /\ M_1.map (·.1) = ([] : Mut).map (·.1) /\ False) := by
 conv => arg 10; whnf
 have hin' : ∀ p ∈ steps, p.1 < steps.length /\ p.2 < steps.length := fun p hp => by rw [h8]; exact hin p hp
 have llk : lk.length = 8 := by rw [elk]; exact (lookIt_len _ _ _).2.trans h8
 refine Ef.assign (d := eWs lk) ?_ ?_
 ·rw [elk]
  refine Ev.callF h41.fn (Ev.fn C h41) (EvL.cons (Ev.asD (d := .list (((List.range 8).filter (isEnd en)).map eN)) rfl (Ev.comp (Γ' := [(N "end", eN en)]) (enc := eN) (xs := List.range 8) (p := isEnd en) (f := eN) (bs := fun d => [(N "group", d)]) (EvS.rng C (n := 8) Ev.int (by lia))
   ⟨by kernel_rfl, by walk_at "v", (by kernel_rfl : [N "group"].all _ = true), fun zz => rfl, fun x hx => As.name, fun x hx => TrI.one (Tr.val (Ev.natAnd (x := x) (y := en) (by walk_at "v") (by walk_at "v")) truth_int), fun x hx zz => by walk_at "v", sizeOk (by simp)⟩)) (EvL.cons (by walk_at "v") EvL.nil)) ((looks_fun C h41 (by lia) hin').up (by lia)) (args2 fun U => rfl)
 refine Ef.assign (d := eL (reach steps start 0)) (Ev.list (ds := [eN start]) (.cons (by walk_at "v") .nil) (sizeOk (by simp))) ?_
 refine Ef.forL (α := Nat) (enc := eN) (xs := List.range 7) (bs := fun d => [(N "turn", d)]) (EvS.rng C (n := 7) Ev.int (by lia)) (fun x hx => As.name)
  (fun pre => [(N "reached", eL (reach steps start pre.length)), (N "looks", eWs lk), (N "some", eM m1), (N "least", eM m2), (N "steps", .list (steps.map ePr)), (N "start", eN start)]) (fun pre => []) (by dsimp only [List.length_nil]; walk_at "v") (List.Sublist.refl _) (fun a ha => ha) ?_ ?_
 ·intro pre t post hpre
  dsimp only [kA, kN]
  have e3 : (pre ++ [t]).length = pre.length + 1 := by simp
  rw [e3]
  have rl := reach_lt (steps := steps) hst pre.length
  have rz := reach_len steps start pre.length
  have hmem : ∀ g, g < 8 -> steps.getD g (0, 0) ∈ steps := fun g hg => by rw [List.getD_eq_getElem?_getD, List.getElem?_eq_getElem (by lia)]; exact List.getElem_mem _
  have fz : ((reach steps start pre.length).flatMap (succs steps)).length <= 16 := by
   have : ∀ l : List Nat, (l.flatMap (succs steps)).length = 2 * l.length := by
    intro l
    induction l with
    | nil => rfl
    | cons x l ih => rw [List.flatMap_cons, List.length_append, ih, List.length_cons]; simp [succs]; lia
   rw [this]; lia
  generalize hr : reach steps start pre.length = rs at *
  have er : reach steps start (pre.length + 1) = uniq (rs ++ rs.flatMap (succs steps)) := by rw [reach_s, hr]
  rw [er]
  refine Ex.assign (d := eL (uniq (rs ++ rs.flatMap (succs steps)))) (Ev.sortedSet C ?_ (fun n hn => ?_) (by kernel_rfl) (by kernel_rfl)) (Ex.nil ⟨by walk_at "v", List.Sublist.refl _⟩)
  ·have e : eL (rs ++ rs.flatMap (succs steps)) = .list (rs.map eN ++ (rs.flatMap fun x => (succs steps x).map eN)) := by
    rw [eL, List.map_append, List.map_flatMap]
   rw [e]
   refine Ev.bin (d_1 := .list (rs.map eN)) (d_2 := .list (rs.flatMap fun x => (succs steps x).map eN)) (by walk_at "v") (Ev.comp2 (Γ' := [(N "steps", .list (steps.map ePr))]) (enc := eN) (xs := rs) (enc2 := eN) (ys := succs steps) (f := fun zz => eN) (ns := [N "group"]) (ns2 := [N "led"]) (bs := fun d => [(N "group", d)]) (bs2 := fun d => [(N "led", d)]) (EvS.list (by walk_at "v"))
    ⟨by kernel_rfl, by walk_at "v", by kernel_rfl, fun zz => rfl, fun zz => rfl, fun x hx => As.name, fun x hx => ?_, fun x hx y hy => As.name, fun x hx y hy => by walk_at "v", fun x hx y hy => ?_, sizeOk ?_, fun zz zz => rfl⟩) (add_ll (sizeOk ?_))
   ·dsimp only [kA, kN]
    have hx8 := rl x hx
    exact EvS.list (ds := (succs steps x).map eN) (show Ev _ _ _ _ _ _ _ _ (ePr (steps.getD x (0, 0))) from Ev.item (ds := steps.map ePr) (i := x) (by walk_at "v") (by walk_at "v") (getP (by lia)) (by simp; lia))
   ·dsimp only [kA, kN]; walk_at "v"
   ·rw [<- List.map_flatMap, List.length_map]; lia
   ·rw [<- List.map_flatMap, List.length_map, List.length_map]; lia
  ·rcases jA.1 hn with h | h
   ·exact rl n h
   ·obtain ⟨g, hg, h⟩ := List.mem_flatMap.1 h
    have := hin _ (hmem g (rl g hg))
    simp only [succs, List.mem_cons, List.not_mem_nil, or_false] at h
    rcases h with h | h <;> lia
 have e7 : (List.range 7).length = 7 := rfl
 rw [e7]
 have rl := reach_lt (steps := steps) hst 7
 have rz := reach_len steps start 7
 generalize hr : reach steps start 7 = rs at *
 have lcs : cs.length <= 8 := by rw [ecs, cards_len]; exact rz
 refine Ef.assign (d := eCs cs) ?_ ?_
 ·rw [ecs]
  exact Ev.callF h42.fn (Ev.fn C h42) (EvL.three (by walk_at "v") (by walk_at "v") (by walk_at "v"))
   ((cards_fun C h42 (st := eL rs) (fun h => EvS.list h) (by lia) (by lia) hin' (fun s hs => by have := rl s hs; lia) (by lia)).up (by lia)) (args3 fun U => rfl)
 have LC : Lay eWs (fun xs : List (List Bool) => ∀ x ∈ xs, True) 1 := Lay.word.list
 have LCC := LC.list
 have getC : ∀ i, i < cs.length -> (cs.map eWs)[i]? = some (eWs (cs.getD i [])) := fun i hi => by simp [hi]
 refine Ef.compL (Γ' := [(N "cards", eCs cs)]) (enc := eN) (xs := List.range cs.length) (p := keepK cs) (f := fun i => eWs (cs.getD i [])) (bs := fun d => [(N "at", d)])
  (EvS.rng C (n := cs.length) (Ev.len C (ds := cs.map eWs) (by walk_at "v") (by simp) (by lia)) (by lia))
  ⟨by kernel_rfl, by walk_at "v", (by kernel_rfl : [N "at"].all _ = true), fun zz => rfl, fun x hx => As.name, fun i hi => ?_, fun i hi zz => ?_, sizeOk (by simp; lia)⟩ ?_
 ·dsimp only [kA, kN]
  have hi' := List.mem_range.1 hi
  have e : keepK cs i = (decide (i = 0) || (!decide (cs.getD i [] = cs.getD (i - 1) []) || (BoolOp.Or == .And))) := by
   have : (BoolOp.Or == .And) = false := by decide
   rw [this, Bool.or_false]; rfl
  rw [e]
  refine TrI.one (Tr.boolOp (TrL.or (Tr.natEq (x := i) (y := 0) (by walk_at "v") (Ev.nat rfl)) fun h => TrL.or ?_ fun zz => TrL.nil))
  have hi0 : i ≠ 0 := of_decide_eq_false h
  refine Tr.cmp (d_1 := eWs (cs.getD i [])) (d_2 := eWs (cs.getD (i - 1) [])) (Ev.item (ds := cs.map eWs) (i := i) (by walk_at "v") (by walk_at "v") (getC i hi') (by simp; lia)) (Ev.item (ds := cs.map eWs) (i := i - 1) (by walk_at "v") ?_ (getC (i - 1) (by lia)) (by simp; lia)) (ne_dd LC (by lia) (fun zz zz => trivial) fun zz zz => trivial) rfl
  have e2 : (((i - 1 : Nat) : Int)) = (i : Int) - 1 := by lia
  rw [e2]
  exact Ev.bin (d_1 := eN i) (d_2 := .int 1) (by walk_at "v") Ev.int sub_ii
 ·dsimp only [kA, kN]
  exact Ev.item (ds := cs.map eWs) (i := i) (by walk_at "v") (by walk_at "v") (getC i (List.mem_range.1 hi)) (by simp; lia)
 have ek : (.list (((List.range cs.length).filter (keepK cs)).map fun i => eWs (cs.getD i [])) : D) = eCs (kindsOf cs) := by
  rw [eCs, kindsOf, List.map_map]; rfl
 rw [ek]
 refine Ef.own (ds := []) EvN.nil fun at' => ?_
 refine Ef.forL (α := Mach × List (List (List Bool))) (enc := fun x => .tuple [eM x.1, eCs x.2]) (xs := [(m1, cs), (m2, kindsOf cs)]) (bs := fun d => [(N "due", unD 1 d), (N "machine", unD 0 d)])
  (EvS.tuple (ds := [.tuple [eM m1, eCs cs], .tuple [eM m2, eCs (kindsOf cs)]]) (Ev.tuple (EvL.cons (Ev.tuple (EvL.cons (by walk_at "v") (EvL.cons (by walk_at "v") EvL.nil)) (sizeOk (by simp))) (EvL.cons (Ev.tuple (EvL.cons (by walk_at "v") (EvL.cons (by walk_at "v") EvL.nil)) (sizeOk (by simp))) EvL.nil)) (sizeOk (by simp))))
  (fun x hx => As.tup (ds := [eM x.1, eCs x.2]) (AsL.cons (AsL.cons AsL.nil)))
  (fun pre => [(N "told", .raw (.ref at')), (N "looks", eWs lk), (N "start", eN start)]) (fun pre => [(at', (pre.map fun x => ownOf x.1).map eWs)]) (by walk_at "v") (List.Sublist.refl _) (fun a ha => ha) ?_ ?_
 ·intro pre x post hpre
  have hx : x ∈ [(m1, cs), (m2, kindsOf cs)] := by rw [hpre]; simp
  have hpl : pre.length <= 2 := by have := congrArg List.length hpre; simp at this; lia
  have hV : MD x.1 /\ Fits x.1 x.2 (lk.getD start []) := by
   simp only [List.mem_cons, List.not_mem_nil, or_false] at hx
   rcases hx with rfl | rfl
   ·exact ⟨V1, f1⟩
   ·exact ⟨V2, f2⟩
  obtain ⟨V, f⟩ := hV
  obtain ⟨⟨ss, es, ar⟩, due⟩ := x
  show Ex pg w ba true 3 _ ([(N "due", eCs due), (N "machine", eM (ss, es, ar))] ++ _) _ _ _
  dsimp only [kA, kN]
  have hlen : ar.length <= 8 := V.len
  have hpl2 := pairsOf_len (ss, es, ar)
  have hpl3 : (pairsOf (ss, es, ar)).length = ar.length := hpl2
  have hol := ownOf_len (ss, es, ar)
  refine Ex.compL (Γ' := []) (enc := eP) (xs := ar) (p := fun zz => true) (f := fun p => ePr (p.1.getD 0 0, p.2.getD 0 0)) (bs := fun d => [(N "pair", d)])
   (EvS.list (Ev.item (ds := [eL ss, eL es, eA ar]) (i := 2) (by walk_at "v") Ev.int rfl (by simp)))
   (cmp1 (fun p hp zz => ?_) (sizeOk (by lia))) ?_
  ·dsimp only [kA, kN]
   obtain ⟨i, j, rfl, _, _⟩ := V.one p hp
   show Ev _ _ _ _ _ _ _ _ (.list [eN i, eN j])
   refine Ev.list (EvL.cons ?_ (EvL.cons ?_ EvL.nil)) (sizeOk (by simp))
   ·exact Ev.item (ds := [eN i]) (i := 0) (Ev.item (ds := [eL [i], eL [j]]) (i := 0) (by walk_at "v") Ev.int rfl (by simp)) Ev.int rfl (by simp)
   ·exact Ev.item (ds := [eN j]) (i := 0) (Ev.item (ds := [eL [i], eL [j]]) (i := 1) (by walk_at "v") Ev.int rfl (by simp)) Ev.int rfl (by simp)
  have ep : (.list ((ar.filter fun zz => true).map fun p => ePr (p.1.getD 0 0, p.2.getD 0 0)) : D) = .list ((pairsOf (ss, es, ar)).map ePr) := by rw [filt, pairsOf, List.map_map]; rfl
  rw [ep]
  refine Ex.assign (d := eWs (ownOf (ss, es, ar))) (Ev.callF h41.fn (Ev.fn C h41) (EvL.cons (Ev.item (ds := [eL ss, eL es, eA ar]) (i := 1) (by walk_at "v") Ev.int rfl (by simp)) (EvL.cons (by walk_at "v") EvL.nil)) ((looks_fun C h41 (ends := es) (steps := pairsOf (ss, es, ar)) (by lia) V.pairs).up (by lia)) (args2 fun U => rfl)) ?_
  have fc := f.cards
  have fs := f.start
  have hfs : ∀ i ∈ ss, i < (ownOf (ss, es, ar)).length := fun i hi => by rw [hol, hpl3]; exact V.st i hi
  have zss : ss.length <= 8 := V.z
  have Vp := V.pairs
  generalize ho : ownOf (ss, es, ar) = own' at *
  generalize pairsOf (ss, es, ar) = prs at *
  refine Ex.cons (Ex1.ife (p := !decide (cards own' prs (List.range own'.length) = due) || (!decide (ss.map (fun i => own'.getD i []) = [lk.getD start []]) || (BoolOp.Or == .And))) (R := fun o Γ' M' => o = .next /\ Sub [(N "own", eWs own'), (N "told", .raw (.ref at')), (N "looks", eWs lk), (N "start", eN start)] Γ' /\ M' = [(at', (pre.map fun x => ownOf x.1).map eWs)]) ?_ (fun h => ?_) (fun h => ?_)) (fun o Γ' M' h => ?_)
  ·refine Tr.boolOp (TrL.or (Tr.cmp (d_1 := eCs (cards own' prs (List.range own'.length))) (d_2 := eCs due) ?_ (by walk_at "v") (ne_dd LCC (by lia) (fun zz zz zz zz => trivial) fun zz zz zz zz => trivial) rfl) fun zz => TrL.or (Tr.cmp (d_1 := eWs (ss.map fun i => own'.getD i [])) (d_2 := eWs [lk.getD start []]) ?_ ?_ (ne_dd LC (by lia) (fun zz zz => trivial) fun zz zz => trivial) rfl) fun zz => TrL.nil)
   ·exact Ev.callF h42.fn (Ev.fn C h42) (EvL.three (by walk_at "v") (by walk_at "v") (Ev.rng C (n := (own'.length : Int)) (Ev.len C (ds := own'.map eW) (by walk_at "v") (by simp) (by lia))))
     ((cards_fun C h42 (st := .range 0 own'.length 1) (fun h => EvS.rangeN h (sizeOk (by lia))) (by lia) (by lia) Vp (fun s hs => by have := List.mem_range.1 hs; lia) (by simp; lia)).up (by lia)) (args3 fun U => rfl)
   ·have ec : eWs (ss.map fun i => own'.getD i []) = .list ((ss.filter fun zz => true).map fun i => eW (own'.getD i [])) := by rw [filt, eWs, List.map_map]; rfl
    rw [ec]
    refine Ev.comp (Γ' := [(N "own", eWs own')]) (enc := eN) (xs := ss) (p := fun zz => true) (f := fun i => eW (own'.getD i [])) (bs := fun d => [(N "state", d)]) (EvS.list (Ev.item (ds := [eL ss, eL es, eA ar]) (i := 0) (by walk_at "v") Ev.int rfl (by simp)))
     (cmp1 (fun i hi zz => ?_) (sizeOk (by lia)))
    dsimp only [kA, kN]
    exact Ev.item (ds := own'.map eW) (i := i) (by walk_at "v") (by walk_at "v") (getW (hfs i hi)) (by simp; lia)
   ·exact Ev.list (ds := [eW (lk.getD start [])]) (EvL.cons (Ev.item (ds := lk.map eW) (i := start) (by walk_at "v") (by walk_at "v") (getW (by lia)) (by simp; lia)) EvL.nil) (sizeOk (by simp))
  ·exfalso
   rw [fc, fs] at h
   simp at h
  ·exact Ex.nil ⟨rfl, by walk_at "v", rfl⟩
  ·obtain ⟨rfl, hsub, rfl⟩ := h
   refine Ex.sub (Γ0 := [(N "own", eWs own'), (N "told", .raw (.ref at')), (N "looks", eWs lk), (N "start", eN start)]) ?_ hsub
   refine Ex.append (x := N "told") (d := eWs own') (by walk_at "v") (by walk_at "v") (sizeOk (by simp; lia)) (Ex.nil ⟨by walk_at "v", ?_⟩)
   rw [List.map_append, List.map_append]
   have e : List.map eWs (List.map (fun x => ownOf x.1) [(((ss, es, ar) : Mach), due)]) = [eWs own'] := by rw [List.map_cons, List.map_nil, List.map_cons, List.map_nil, ho]
   rw [e]
   exact List.Sublist.refl _
 ·refine Ef.freeze (x := N "told") (by walk_at "v") ?_
  have z1 : (ownOf m1).length <= 8 := by rw [ownOf_len, pairsOf_len]; exact V1.len
  have z2 : (ownOf m2).length <= 8 := by rw [ownOf_len, pairsOf_len]; exact V2.len
  have ed : (.list (([(m1, cs), (m2, kindsOf cs)].map fun x => ownOf x.1).map eWs) : D) = .list [eWs (ownOf m1), eWs (ownOf m2)] := rfl
  rw [ed]
  exact Ef.one (Ef1.ret (RX := fun d M' => d = .bool (bags (ownOf m1) (ownOf m2)) /\ M' = []) (RXE := fun zz zz zz => False)
   (EvX.callG C h43 (bags_fun C h2 h43 (one := ownOf m1) (two := ownOf m2) (by lia) (by lia)) (M_1 := []) (EvL.cons (Ev.item (ds := [eWs (ownOf m1), eWs (ownOf m2)]) (i := 0) (by walk_at "v") Ev.int rfl (by simp)) (EvL.cons (Ev.item (ds := [eWs (ownOf m1), eWs (ownOf m2)]) (i := 1) (by walk_at "v") Ev.int rfl (by simp)) EvL.nil)) rfl (fun d M' h => ⟨h.1, by rw [h.2]; rfl⟩) (fun zz zz zz h => h) (args2 fun U => rfl))
   (fun d M' h => ⟨d, M', rfl, List.Sublist.refl _, by rw [h.2], h.1, h.2⟩) (fun zz zz zz h => h.elim))
theorem posOk_44 : posOk (stmtAt 44) [N "some", N "least", N "steps", N "start", N "end"] := posOk5 fun zz zz zz zz zz zz zz zz => rfl
theorem least_fun (C : Cx ba mg mb) {a2 a41 a42 a43 a44 : Addr} (h2 : FnG ba mg (stmtAt 2) a2) (h41 : FnG ba mg (stmtAt 41) a41) (h42 : FnG ba mg (stmtAt 42) a42) (h43 : FnG ba mg (stmtAt 43) a43) (h44 : FnG ba mg (stmtAt 44) a44)
  {m1 m2 : Mach} {steps : List (Nat × Nat)} {start en : Nat} (V1 : MD m1) (V2 : MD m2) (h8 : steps.length = 8) (hin : ∀ p ∈ steps, p.1 < 8 /\ p.2 < 8) (hst : start < 8)
  {lk : List (List Bool)} {cs : List (List (List Bool))} (elk : lk = looks (groupsOf en) steps) (ecs : cs = Mine.cards lk steps (reach steps start 7))
  (f1 : Fits m1 cs (lk.getD start [])) (f2 : Fits m2 (kindsOf cs) (lk.getD start [])) :
  FunX pg w ba 4 (fun vs => PySem.call (.ref a44) vs) [eM m1, eM m2, .list (steps.map ePr), eN start, eN en] [] (fun d M' => d = .bool (bags (ownOf m1) (ownOf m2)) /\ M' = []) (fun zz zz zz => False) :=
 fnX_of_body C h44 (by kernel_rfl) posOk_44 rfl (least_body C h2 h41 h42 h43 V1 V2 h8 hin hst elk ecs f1 f2)
end
end
section
open AutoSeq1 (wpAny_loadPart')
section
theorem wpAny_nextOf_tup_item {it l : Addr} {items} {x : Value} {Q : VP} (hit : s.heap.IsTupleIter it l i)
  (hl : s.heap.IsTuple l items) (hx : items[i]? = some x)
  (hQ : ∀ h', h'.IsTupleIter it l (i + 1) -> Heap.SameBut it s.heap h' -> Q x { s with heap := h' }) :
  wpAny (model pg w) A (Builtin.SmallTypes.nextOf (.ref it)) Q E s := by
 obtain ⟨o, ho, hc, hd⟩ := id hit
 obtain ⟨ol, hol, _, nl, hdl⟩ := hl
 unfold Builtin.SmallTypes.nextOf
 refine jB (wpAny_callSpecial?_slot (name := Str.ofString "__next__") hit.typeIs F.slot_tuple_iterator_next
  (wpAny_call_entry F.slot_tuple_iterator_next hit.typeIs F.entry_tuple_iterator_next ?_ (F.args_tuple_iterator_next_1 _)))
 show wpAny _ _ (field (.ref it) 0 >>= _) _ _ s
 refine jB (wpAny_field ho hd (x := .ref l) rfl ?_)
 show wpAny _ _ (if (Value.ref l == Value.none) = true then _ else _) _ _ s
 rw [if_neg (show ¬ ((Value.ref l == Value.none) = true) from Bool.false_ne_true)]
 show wpAny _ _ (field (.ref it) 1 >>= _) _ _ s
 refine jB (wpAny_field ho hd (x := .int i 0) rfl ?_)
 show wpAny _ _ (seqItems? (.ref l) >>= _) _ _ s
 refine jB (wpAny_seqItems hol hdl ?_)
 simp only [Int.toNat_natCast, hx]
 refine jB (wpAny_setField ho hd (by simp) (jP ⟨x, rfl, jP (hQ _ ?_ (Heap.SameBut.update ..))⟩))
 exact ⟨_, Heap.get?_update_self _ ho (Obj.isFreed_of_fields (Obj.data_mapFields hd _)), (Obj.cls_mapFields ..).trans hc, by
  rw [Obj.data_mapFields hd]; simp [rawInt]⟩
theorem wpAny_nextOf_tup_end {it l : Addr} {items} {Q : VP} (hh : A.handled = none)
  (hit : s.heap.IsTupleIter it l i) (hl : s.heap.IsTuple l items) (hx : items[i]? = none)
  (hE : ∀ h' e, Heap.ExtBut it s.heap h' -> (∃ o, h'.get? e = some o /\ o.cls = .type "StopIteration") -> E (.ref e) { s with heap := h' }) :
  wpAny (model pg w) A (Builtin.SmallTypes.nextOf (.ref it)) Q E s := by
 obtain ⟨o, ho, hc, hd⟩ := id hit
 obtain ⟨ol, hol, _, nl, hdl⟩ := hl
 unfold Builtin.SmallTypes.nextOf
 refine jB (wpAny_callSpecial?_slot (name := Str.ofString "__next__") hit.typeIs F.slot_tuple_iterator_next
  (wpAny_call_entry F.slot_tuple_iterator_next hit.typeIs F.entry_tuple_iterator_next ?_ (F.args_tuple_iterator_next_1 _)))
 show wpAny _ _ (field (.ref it) 0 >>= _) _ _ s
 refine jB (wpAny_field ho hd (x := .ref l) rfl ?_)
 show wpAny _ _ (if (Value.ref l == Value.none) = true then _ else _) _ _ s
 rw [if_neg (show ¬ ((Value.ref l == Value.none) = true) from Bool.false_ne_true)]
 show wpAny _ _ (field (.ref it) 1 >>= _) _ _ s
 refine jB (wpAny_field ho hd (x := .int i 0) rfl ?_)
 show wpAny _ _ (seqItems? (.ref l) >>= _) _ _ s
 refine jB (wpAny_seqItems hol hdl ?_)
 simp only [Int.toNat_natCast, hx]
 refine jB (wpAny_rule (jB (wpAny_setField ho hd (by simp) ?_)))
 show wpAny _ _ (newExc (.type "StopIteration") [] >>= _) _ _ _
 refine jB ?_
 simp only [newExc, newTuple]
 refine jB (wpAny_newObj_type ?_ (by size_fits))
 refine jB (m := firstArgMember _ _) (wpAny_of_eq (a := Value.none) (by first | rfl | (simp only [firstArgMember]; rfl)) ?_)
 refine wpAny_newObj_type ?_ (by size_fits)
 simp only [raiseNew]
 refine jB (wpAny_handled ?_)
 first | rw [show A.in1.handled = none from hh] | rw [hh]
 refine jB (jP (wpAny_throw ?_))
 exact hE _ _ (((Heap.SameBut.update ..).extBut.push _).push _) ⟨_, Heap.get?_push_size _ rfl, rfl⟩
theorem Draws.tuple (hh : A.handled = none) (it l : Addr) (hne : l ≠ it) (items : Array Value) :
  Draws pg w A it [it, l] items.size (fun i v => items[i]? = some v) (fun i h => h.IsTupleIter it l i /\ h.IsTuple l items) where
 live := fun zz zz st => let ⟨o, ho, _⟩ := st.1; ⟨o, ho⟩
 frame := fun zz zz zz st hk => ⟨st.1.at fun o e => hk it (by simp) o e, st.2.at fun o e => hk l (by simp) o e⟩
 item := fun i s Q E hi st hQ => by
  refine wpAny_nextOf_tup_item st.1 st.2 (x := items[i]) (by simp [hi]) fun h' hit' hs' => ?_
  exact hQ _ h' s.toks (by simp [hi]) ⟨hit', st.2.extBut hs'.extBut hne⟩ hs'
 done := fun s Q E st hE => wpAny_nextOf_tup_end hh st.1 st.2 (by simp) hE
set_option tactic.hygienic true in
theorem meets_enumerate_newT (l : Addr) (items : Array Value) (n : Nat) :
  Meets (Builtin.«enumerate.__new__» ⟨[.type "enumerate", .ref l], []⟩) (fun zz R s => s.heap.get? l = some (tupO items n) /\
   R (.ok (.ret (.ref (s.heap.push { cls := .type "tuple_iterator", data := .fields #[.ref l, .int 0 0] }).objs.size)))
    { s with heap := (s.heap.push { cls := .type "tuple_iterator", data := .fields #[.ref l, .int 0 0] }).push { cls := .type "enumerate", data := .fields #[.none, .bool false, .ref s.heap.objs.size, rawInt 0, .none, .none] } }) :=
 .of_wp fun pg w A R s h => by
  obtain ⟨hp, g, d, tk, os⟩ := s; obtain ⟨hl, h⟩ := h
  have hsub := sub_enumerate
  have hL : Heap.IsTuple (Shared.heap ⟨hp, g, d, tk, os⟩) l items := ⟨_, hl, rfl, n, rfl⟩
  wp_walk using wpAny_loadPart' hl
  refine wpAny_stack_any fun st => jP ?_
  split
  ·rename_i c _ _ _ _ _
   cases (c == Value.type "enumerate")
   ·wp_walk using wpAny_loadPart' hl, wpAny_pyIter_tuple hL
    exact ⟨_, rfl, h⟩
   ·wp_walk using wpAny_loadPart' hl, wpAny_pyIter_tuple hL
    exact ⟨_, rfl, h⟩
  ·wp_walk using wpAny_loadPart' hl, wpAny_pyIter_tuple hL
   exact ⟨_, rfl, h⟩
section
theorem call_enumerate_tuple {l : Addr} {items : Array Value} {Q : VP} (hl : s.heap.get? l = some (tupO items n))
  (h : ∀ h', IsEnum h' (s.heap.objs.size + 1) s.heap.objs.size 0 .none -> h'.IsTupleIter s.heap.objs.size l 0 -> h'.objs.size = s.heap.objs.size + 2 ->
   (∀ b o, s.heap.get? b = some o -> h'.get? b = some o) -> Q (.ref (s.heap.objs.size + 1)) { s with heap := h' }) :
  wpAny (model pg w) A (call (.type "enumerate") [.ref l]) Q E s := by
 refine callType_new F.called_enumerate (by decide) (F.typeCall_enumerate_1 _) (F.newCall_enumerate_1 _) (fun obj => F.args_object_init_2 obj _) F.entry_enumerate_new
  (meets_enumerate_newT l items n) ⟨hl, ?_⟩
 have hz : (s.heap.push { cls := .type "tuple_iterator", data := .fields #[.ref l, .int 0 0] }).objs.size = s.heap.objs.size + 1 := Heap.size_push ..
 show _ /\ _
 rw [hz]
 have he : IsEnum ((s.heap.push { cls := .type "tuple_iterator", data := .fields #[.ref l, .int 0 0] }).push
   { cls := .type "enumerate", data := .fields #[.none, .bool false, .ref s.heap.objs.size, rawInt 0, .none, .none] }) (s.heap.objs.size + 1) s.heap.objs.size 0 .none := by
  have := Heap.get?_push_size (s.heap.push { cls := .type "tuple_iterator", data := .fields #[.ref l, .int 0 0] })
   (o := { cls := .type "enumerate", data := .fields #[.none, .bool false, .ref s.heap.objs.size, rawInt 0, .none, .none] }) rfl
  rw [hz] at this; exact this
 refine ⟨⟨_, he, rfl⟩, h _ he ⟨_, Heap.get?_push_of_some _ (Heap.get?_push_size _ rfl), rfl, rfl⟩ (by rw [Heap.size_push, hz]) fun b o x => Heap.get?_push_of_some _ (Heap.get?_push_of_some _ x)⟩
end
end
end
section
section
theorem St.addZ (S : St ba B U Γ M h) (e : Ext h h') (hz : ∀ z ∈ Z, h.get? z = .none /\ ∃ o, h'.get? z = some o) : St ba (Z ++ B) U Γ M h' := by
 have S' := S.ext e
 have mv : ∀ b o, b ∉ B ++ own U M -> h.get? b = some o -> b ∉ Z ++ B ++ own U M /\ h'.get? b = some o := fun b o hb x => ⟨fun hm => by
  rw [List.append_assoc] at hm
  rcases jA.1 hm with h | h
  ·rw [(hz b h).1] at x; cases x
  ·exact hb h, e b o x⟩
 refine ⟨S'.keep, S'.ok, fun x d hx => ?_, fun p hp => ?_, S.nod, S.dis, fun a ha hm => ?_, fun a ha => ?_, fun a ha => ?_⟩
 ·obtain ⟨v, hv, av⟩ := S.var x d hx
  exact ⟨v, hv.keep fun b o zz x => e b o x, av.move mv⟩
 ·obtain ⟨vs, n, g, r⟩ := (S.muts p hp).at_
  exact ⟨vs, n, e _ _ g, r.move mv⟩
 ·rcases jA.1 ha with ha | ha
  ·obtain ⟨o, x⟩ := S.allLive a (jA.2 (.inr hm)); rw [(hz a ha).1] at x; cases x
  ·exact S.bdis a ha hm
 ·rcases jA.1 ha with ha | ha
  ·exact (hz a ha).2
  ·exact S'.live a ha
 ·rw [List.append_assoc] at ha
  rcases jA.1 ha with ha | ha
  ·exact none_of_ext S.keep (hz a ha).1
  ·exact S.out a ha
theorem St.dropZ' (S : St ba (Z ++ B) U Γ M h) : St ba B U Γ M h := by
 have sX : ∀ a ∈ B ++ own U M, a ∈ Z ++ B ++ own U M := fun a ha => by rw [List.append_assoc]; exact jA.2 (.inr ha)
 exact ⟨S.keep, S.ok, fun x d hx => let ⟨v, a, b⟩ := S.var x d hx; ⟨v, a, b.sub sX⟩, fun p hp => let ⟨vs, n, g, r⟩ := (S.muts p hp).at_; ⟨vs, n, g, r.sub sX⟩, S.nod, S.dis,
  fun a ha => S.bdis a (jA.2 (.inr ha)), fun a ha => S.live a (jA.2 (.inr ha)), fun a ha => S.out a (sX a ha)⟩
theorem St.offZ (hZ : ∀ z ∈ Z, z ∈ B) (S : St ba B U Γ M h) (o : Off Z h h') (hl : ∀ z ∈ Z, ∃ x, h'.get? z = some x) : St ba B U Γ M h' := by
 have hZX : ∀ z ∈ Z, z ∈ B ++ own U M := fun z hz => jA.2 (.inl (hZ z hz))
 have hZ' : ∀ z ∈ Z, z ∉ own U M := fun z hz => S.bdis z (hZ z hz)
 have offX : Off (B ++ own U M) h h' := o.mono hZX
 have ho : ∀ b x, b ∈ own U M -> h.get? b = some x -> h'.get? b = some x := fun b x hb e => o b x (fun hm => hZ' b hm hb) e
 refine ⟨fun b x e => o b x (fun hm => ?_) (S.keep b x e), S.ok.keep fun b x hb e => ho b x (mem_own.2 (hb.imp id .inl)) e, fun x d hx => ?_, fun p hp => ?_, S.nod, S.dis, S.bdis, fun a ha => ?_, S.out⟩
 ·have := S.out b (hZX b hm); rw [this] at e; cases e
 ·obtain ⟨v, hv, av⟩ := S.var x d hx
  exact ⟨v, hv.keep fun b x hb e => ho b x (mem_own.2 (hb.imp id .inl)) e, av.off offX⟩
 ·obtain ⟨vs, n, g, r⟩ := (S.muts p hp).at_
  exact ⟨vs, n, ho _ _ (mem_own_mut hp) g, r.off offX⟩
 ·by_cases e : a ∈ Z
  ·exact hl a e
  ·obtain ⟨x, g⟩ := S.live a ha
   exact ⟨x, o a x e g⟩
theorem St.offZOut (S : St ba (Z ++ B) U Γ M h) (o : Off Z h h') (hZB : ∀ z ∈ Z, z ∉ B) : St ba B U Γ M h' := by
 have S0 := S.dropZ'
 have hZ' : ∀ z ∈ Z, z ∉ own U M := fun z hz => S.bdis z (jA.2 (.inl hz))
 have ho : ∀ b x, b ∈ own U M -> h.get? b = some x -> h'.get? b = some x := fun b x hb e => o b x (fun hm => hZ' b hm hb) e
 have mv : ∀ b x, b ∉ Z ++ B ++ own U M -> h.get? b = some x -> b ∉ B ++ own U M /\ h'.get? b = some x := fun b x hb e => ⟨fun hm => hb (by rw [List.append_assoc]; exact jA.2 (.inr hm)), o b x (fun hm => hb (by rw [List.append_assoc]; exact jA.2 (.inl hm))) e⟩
 refine ⟨fun b x e => o b x (fun hm => ?_) (S.keep b x e), S.ok.keep fun b x hb e => ho b x (mem_own.2 (hb.imp id .inl)) e, fun x d hx => ?_, fun p hp => ?_, S0.nod, S0.dis, S0.bdis, fun a ha => ?_, S0.out⟩
 ·have := S.out b (by rw [List.append_assoc]; exact jA.2 (.inl hm)); rw [this] at e; cases e
 ·obtain ⟨v, hv, av⟩ := S.var x d hx
  exact ⟨v, hv.keep fun b x hb e => ho b x (mem_own.2 (hb.imp id .inl)) e, av.move mv⟩
 ·obtain ⟨vs, n, g, r⟩ := (S.muts p hp).at_
  exact ⟨vs, n, ho _ _ (mem_own_mut hp) g, r.move mv⟩
 ·obtain ⟨x, g⟩ := S0.live a ha
  exact ⟨x, o a x (fun hm => hZB a hm ha) g⟩
theorem Ex1.forEnum (C : Cx ba mg mb) {elts : List Expr} {tn : Nat} {tpos : Pos} {p cpos : Pos} {orelse : List Stmt} {bs : Nat -> D -> Gam} (he : Ev pg w ba true k sc Γ e (.tuple ds)) (hx : sc.names.lookup (N "enumerate") = some .globalImplicit)
  (ht : ∀ (i : Nat) d, ds[i]? = some d -> As pg w ba true k sc (.Tuple elts tn tpos) (.tuple [.int i, d]) (bs i d))
  (J : Nat -> Prop) (j0 : J 0) (Γs : Nat -> Gam) (Ms : Nat -> Mut) (h0 : Sub (Γs 0) Γ) (hm0 : (Ms 0).Sublist M)
  (turn : ∀ (i : Nat) d, ds[i]? = some d -> J i -> Ex pg w ba true k sc (bs i d ++ Γs i) (Ms i) body (fun o Γ' M' => match o with
   | .next | .cont => (Sub (Γs (i + 1)) Γ' /\ (Ms (i + 1)).Sublist M') /\ J (i + 1)
   | .brk => R .next Γ' M'
   | .ret d => R (.ret d) Γ' M'))
  (done : J ds.length -> Ex pg w ba true k sc (Γs ds.length) (Ms ds.length) orelse R)
  (hh : autoParam (∀ U, backTo cpos (starEach [e] U) = [(false, eval e U)]) tA)
  (hs : autoParam (∀ U x, foldedSetIterable (.Call (.Name (N "enumerate") p) [e] [] cpos) U x = pure x) tA) : Ex1 pg w ba true k sc Γ M (.For (.Tuple elts tn tpos) (.Call (.Name (N "enumerate") p) [e] [] cpos) body orelse pos) R := by
 intro U s B A Q E G S Rm T
 refine wpAny_For ?_ (hs U)
 refine PyProof.Rows.Call_ (((Ev.bn (v := .type "enumerate") C hx) U s B M G S).bindR Rm fun g t e1 => ?_) rfl
 refine PySem.callWith_type (args_plain (args1 hh) U) (args_eval (args1 hh) (.cons he .nil (fun U => hh U)) G (S.ext e1) Rm fun vs g' t' e2 as => ?_)
 obtain ⟨v, rfl, a⟩ := as.one_
 obtain ⟨l, ws, n, rfl, hlX, e3, as'⟩ := a.tuple_
 have hll : l < g'.objs.size := Heap.lt_size e3
 refine call_enumerate_tuple e3 fun h_2 hE hT hsz keep => ?_
 dsimp only at hE hT hsz keep ⊢
 refine wpAny_pyIter_enum hE ?_
 have e_2 : Ext s.heap h_2 := (e1.trans e2).trans keep
 generalize hitn : g'.objs.size = it at *
 have hll' : @LT.lt Nat _ l it := hll
 have hl2 : h_2.get? l = some (tupO ws n) := keep _ _ e3
 have Dr := Draws.tuple (pg := pg) (w := w) (A := A.in1) (Rm.hd rfl) it l (Nat.ne_of_lt hll) ws
 have hnit : g'.get? it = .none := none_of_le (Nat.le_of_eq hitn)
 have hne : g'.get? (it + 1) = .none := none_of_le (by lia)
 have e12 := e1.trans e2
 have lit : ∃ o, h_2.get? it = some o := let ⟨o, ho, _⟩ := hT; ⟨o, ho⟩
 have len : ∃ o, h_2.get? (it + 1) = some o := ⟨_, hE⟩
 have S2 : St ba ([it + 1, it] ++ B) U Γ M h_2 := S.addZ e_2 fun z hz => by
  rcases jK.1 hz with rfl | hz
  ·exact ⟨none_of_ext e12 hne, len⟩
  ·rw [jS.1 hz]; exact ⟨none_of_ext e12 hnit, lit⟩
 have hval : ∀ i x d, ws[i]? = some x -> ds[i]? = some d -> At ([it + 1, it] ++ B ++ Mine.own U M) h_2 x d := fun i x d h1 h2 => by
  obtain ⟨d', hd', a'⟩ := as'.get' (k := i) (v := x) (by simpa using h1)
  rw [h2] at hd'; cases hd'
  refine a'.move fun b o hb ho => ⟨fun hm => ?_, keep b o ho⟩
  rw [List.append_assoc] at hm
  rcases jA.1 hm with hm | hm
  ·rcases jK.1 hm with h | h
   ·rw [h, hne] at ho; cases ho
   ·rw [jS.1 h, hnit] at ho; cases ho
  ·exact hb hm
 have hlz : l ∉ ([it + 1, it] : List Addr) := fun hm => by
  rcases jK.1 hm with h | h
  ·have h : @Eq Nat l (it + 1) := h
   lia
  ·have h : @Eq Nat l it := jS.1 h
   lia
 have hsz' : ws.size = ds.length := size_of_ats as'
 have eOwn : ∀ z ∈ ([it + 1, it] : List Addr), s.heap.get? z = .none := fun z hz => by
  rcases jK.1 hz with rfl | hz
  ·exact none_of_ext e12 hne
  ·rw [jS.1 hz]; exact none_of_ext e12 hnit
 refine for_loop (fun n s' => LoopH s s' ds.length fun i h' => J i /\ n = ds.length - i /\ ((∃ old, IsEnum h' (it + 1) it i old) /\ h'.IsTupleIter it l i) /\ St ba ([it + 1, it] ++ B) U (Γs i) (Ms i) h' /\ Off ([it + 1, it] ++ Mine.own U M) h_2 h' /\ Grow h_2 (Mine.own U M) (Mine.own U (Ms i))) ?_ ds.length
  ⟨0, h_2, t', rfl, Nat.zero_le _, j0, rfl, ⟨⟨_, hE⟩, hT⟩, (S2.sub h0).subM hm0, Off.refl _ _, (Grow.refl _ _).sub (own_sub hm0)⟩
 intro n s' hI E'
 refine bc fun hn => ?_
 obtain ⟨i, h', tk, rfl, hi, hJ, rfl, ⟨⟨old, hEi⟩, hTi⟩, Si, off, gr⟩ := hI
 refine hn ?_
 have lOwn : l ∉ Mine.own U (Ms i) := fun hm => by
  rcases gr l hm with hm' | hn
  ·exact hlX (jA.2 (.inr hm'))
  ·rw [hl2] at hn; cases hn
 have lOwn0 : l ∉ Mine.own U M := fun hm => hlX (jA.2 (.inr hm))
 have hli : h'.get? l = some (tupO ws n) := off l _ (fun hm => (jA.1 hm).elim hlz lOwn0) hl2
 have zOwn : ∀ z ∈ ([it + 1, it] : List Addr), z ∉ Mine.own U (Ms i) := fun z hz => Si.bdis z (jA.2 (.inl hz))
 have finish : ∀ {h'' : Heap} {M' : Mut}, Off ([it + 1, it] ++ Mine.own U M) h_2 h'' -> Grow h_2 (Mine.own U M) (Mine.own U M') -> Off (Mine.own U M) s.heap h'' /\ Grow s.heap (Mine.own U M) (Mine.own U M') := fun o' g' =>
  ⟨(e_2.off (X := Mine.own U M)).then o' fun y hy => (jA.1 hy).elim (fun e => .inr (eOwn y e)) .inl, fun y hy => (g' y hy).imp id fun hn => none_of_ext e_2 hn⟩
 by_cases hlt : i < ds.length
 ·obtain ⟨d, hd⟩ : ∃ d, ds[i]? = some d := ⟨ds[i], List.getElem?_eq_getElem hlt⟩
  refine wpAny_pyNext_enum_itemD Dr hEi ⟨hTi, ⟨_, hli, rfl, _, rfl⟩⟩ (Nat.lt_of_lt_of_eq hlt hsz'.symm) (Nat.succ_ne_self it) (fun hm => by
   rcases jK.1 hm with h | h
   ·have h : @Eq Nat (it + 1) it := h
    lia
   ·have h : @Eq Nat (it + 1) l := jS.1 h
    lia) fun x h_3 tk_3 hP hOut hst3 hT3 hsz3 hk3 => ?_
  dsimp only at hOut hst3 hT3 hsz3 hk3 ⊢
  refine wpAny_letOwnedTupleGo_enum hOut fun h_4 hE4 hs4 => ?_
  dsimp only at hE4 hs4 ⊢
  have o3 : Off [it + 1, it] h' h_3 := fun b o hb e => hk3 b o (fun h => hb (by simp [h])) (fun h => hb (by simp [h])) e
  have o34 : Off [it + 1] h_3 h_4 := fun b o hb e => (hs4.2 b fun h => hb (by simp [h])).trans e
  have o4 : Off [it + 1, it] h' h_4 := o3.trans (o34.mono fun y hy => by rw [jS.1 hy]; simp)
  have hT4 : h_4.IsTupleIter it l (i + 1) := hst3.1.at fun o e => o34 _ _ (fun hm => by have h : @Eq Nat it (it + 1) := jS.1 hm; lia) e
  have live4 : ∀ z ∈ ([it + 1, it] : List Addr), ∃ x, h_4.get? z = some x := fun z hz => by
   rcases jK.1 hz with rfl | hz
   ·exact ⟨_, hE4⟩
   ·rw [jS.1 hz]; obtain ⟨o, ho, _⟩ := hT4; exact ⟨o, ho⟩
  have S4 : St ba ([it + 1, it] ++ B) U (Γs i) (Ms i) h_4 := Si.offZ (fun z hz => jA.2 (.inl hz)) o4 live4
  have off4 : Off ([it + 1, it] ++ Mine.own U M) h_2 h_4 := off.trans (o4.mono fun y hy => jA.2 (.inl hy))
  have aX : At ([it + 1, it] ++ B ++ Mine.own U (Ms i)) h_4 x d := by
   refine (hval i x d hP hd).move fun b o hb ho => ⟨fun hm => ?_, off4 b o (fun hm => ?_) ho⟩
   ·rcases jA.1 hm with hm | hm
    ·exact hb (jA.2 (.inl hm))
    ·rcases gr b hm with hm' | hn
     ·exact hb (jA.2 (.inr hm'))
     ·rw [hn] at ho; cases ho
   ·rcases jA.1 hm with hm | hm
    ·exact hb (jA.2 (.inl (jA.2 (.inl hm))))
    ·exact hb (jA.2 (.inr hm))
  have hTn : h'.objs.size ∉ [it + 1, it] ++ B ++ Mine.own U (Ms i) := fun hm => by
   obtain ⟨o, x⟩ := Si.allLive _ hm
   exact Nat.lt_irrefl _ (Heap.lt_size x)
  have hT4' : h_4.get? h'.objs.size = some (tupO #[.int i tk_3, x] 0) := o34 _ _ (fun hm => hTn (by rw [jS.1 hm]; simp)) hT3
  have av : At ([it + 1, it] ++ B ++ Mine.own U (Ms i)) h_4 (.ref h'.objs.size) (.tuple [.int i, d]) := .tuple hTn hT4' (.cons (.int _ _) (.cons aX .nil))
  refine ht i d hd U _ ([it + 1, it] ++ B) (Γs i) (Ms i) _ A _ E' G S4 Rm av fun h_5 tk_5 S5 o5 zz => ?_
  refine turn i d hd hJ U _ ([it + 1, it] ++ B) A _ E' G S5 Rm fun f out h_6 tk_6 Γ' M' hf S6 o6 g6 hr => ?_
  have oTurn : Off (Mine.own U (Ms i)) h_4 h_6 := o5.trans o6
  have offAll : Off ([it + 1, it] ++ Mine.own U M) h_2 h_6 := off4.then oTurn fun y hy => (gr y hy).imp (fun h => jA.2 (.inr h)) id
  have gAll : Grow h_2 (Mine.own U M) (Mine.own U M') := fun y hy => by
   rcases g6 y hy with hy' | hn
   ·exact gr y hy'
   ·by_cases hm : y ∈ Mine.own U M
    ·exact .inl hm
    ·cases e : h_2.get? y with
     | none => exact .inr rfl
     | some ob =>
      by_cases hyI : y ∈ ([it + 1, it] : List Addr)
      ·exact absurd hy (S6.bdis y (jA.2 (.inl hyI)))
      ·have := (off4.then o5 fun y hy => (gr y hy).imp (fun h => jA.2 (.inr h)) id) y ob (fun hm' => (jA.1 hm').elim hyI hm) e
       rw [this] at hn; cases hn
  have st6 : (∃ old, IsEnum h_6 (it + 1) it ((i + 1 : Nat) : Int) old) /\ h_6.IsTupleIter it l (i + 1) :=
   ⟨⟨_, oTurn _ _ (zOwn _ (by simp)) (by exact_mod_cast hE4)⟩, hT4.at fun o e => oTurn _ _ (zOwn _ (by simp)) e⟩
  have loopOn : (Sub (Γs (i + 1)) Γ' /\ (Ms (i + 1)).Sublist M') /\ J (i + 1) -> ∃ m, m < ds.length - i /\ LoopH s ({ s with heap := h_6, toks := tk_6 } : Shared) ds.length fun i' h' => J i' /\ m = ds.length - i' /\ ((∃ old, IsEnum h' (it + 1) it i' old) /\ h'.IsTupleIter it l i') /\ St ba ([it + 1, it] ++ B) U (Γs i') (Ms i') h' /\ Off ([it + 1, it] ++ Mine.own U M) h_2 h' /\ Grow h_2 (Mine.own U M) (Mine.own U (Ms i')) := fun hh =>
   ⟨ds.length - (i + 1), by lia, i + 1, h_6, tk_6, rfl, by lia, hh.2, rfl, st6, (S6.sub hh.1.1).subM hh.1.2, offAll, gAll.sub (own_sub hh.1.2)⟩
  have fin := finish offAll gAll
  have aX : ∀ {v : Value} {d : D}, At ([it + 1, it] ++ B ++ Mine.own U M') h_6 v d -> At (B ++ Mine.own U M') h_6 v d := fun a => a.sub fun y hy => by rw [List.append_assoc]; exact jA.2 (.inr hy)
  cases f <;> cases out <;> first | exact hf.elim | skip
  ·exact loopOn hr
  ·exact T .next .next h_6 tk_6 Γ' M' trivial S6.dropZ' fin.1 fin.2 hr
  ·exact loopOn hr
  ·exact T (.ret _) (.ret _) h_6 tk_6 Γ' M' (aX hf) S6.dropZ' fin.1 fin.2 hr
 ·have hie : i = ds.length := by lia
  subst hie
  refine wpAny_pyNext_enum_endD Dr hEi ⟨by rw [hsz']; exact hTi, ⟨_, hli, rfl, _, rfl⟩⟩ fun h_3 hk_3 => ?_
  have o3 : Off [it] h' h_3 := fun b o hb e => hk_3 b o (fun h => hb (by simp [h])) e
  have o3' : Off [it + 1, it] h' h_3 := o3.mono fun y hy => by rw [jS.1 hy]; simp
  have hZB : ∀ z ∈ ([it + 1, it] : List Addr), z ∉ B := fun z hz hm => by obtain ⟨o, x⟩ := S.live z hm; rw [eOwn z hz] at x; cases x
  have S3 := Si.offZOut o3' hZB
  refine done hJ U _ B A Q E' G S3 Rm fun f out h_5 tk_5 Γ' M' hf S5 o5 g5 hr => ?_
  have off3 : Off ([it + 1, it] ++ Mine.own U M) h_2 h_3 := off.trans (o3'.mono fun y hy => jA.2 (.inl hy))
  have o1 : Off (Mine.own U M) s.heap h_3 := (e_2.off (X := Mine.own U M)).then off3 fun y hy => (jA.1 hy).elim (fun e => .inr (eOwn y e)) .inl
  have g1 : Grow s.heap (Mine.own U M) (Mine.own U (Ms ds.length)) := fun y hy => (gr y hy).imp id fun hn => none_of_ext e_2 hn
  exact T f out h_5 tk_5 Γ' M' hf S5 (o1.then o5 g1) (g1.trans o1 g5) hr
end
end
section
open PyProof.Rows
section
structure GD (ba : Heap) (mg : SV) (x : Str) (d : D) : Prop where
 at_ : ∃ v, mg x = some v /\ At [] ba v d
theorem Ev.gd (C : Cx ba mg mb) (g : GD ba mg x d) (hx : sc.names.lookup x = some .globalImplicit) (hd : (x == ("__debug__" : Str)) = false) : Ev pg w ba q k sc Γ (.Name x pos) d := by
 obtain ⟨v, hv, a⟩ := g.at_
 intro U s B M G S A Q E R hQ
 refine Ev.glob C.L hx hv hd U s B M G S A Q E R fun v' h' tk e a' => ?_
 rw [a'.raw_]
 refine hQ v h' tk e (a.move fun b o zz ho => ⟨fun hm => ?_, e _ _ (S.keep _ _ ho)⟩)
 rw [S.out b hm] at ho; cases ho
theorem glued_empty : ∀ (l : List Nat), Builtin.Str.glued (sOf []) (l.map fun c => sOf [c]) = sOf l
 | [] => rfl
 | c :: l => by
  have go : ∀ (l : List Nat) (acc : Array Nat), (l.map fun c => sOf [c]).foldl (fun acc p => acc ++ (sOf []).cps ++ p.cps) acc = acc ++ l.toArray := by
   intro l
   induction l with
   | nil => intro acc; simp
   | cons x l ih => intro acc; rw [List.map_cons, List.foldl_cons, ih]; simp [sOf]
  show Str.mk _ = Str.mk _
  rw [List.map_cons, List.drop_succ_cons, List.drop_zero, List.headD_cons, go]
  simp [sOf]
theorem strs_of {cs : List Nat} (as : Ats X h vs (cs.map fun c => eC [c])) : ∃ l : List (Str × Tok), vs = strValues l /\ l.map (·.1) = cs.map fun c => sOf [c] := by
 induction cs generalizing vs with
 | nil => rw [as.nil_]; exact ⟨[], rfl, rfl⟩
 | cons c cs ih =>
  obtain ⟨v, ws, rfl, a, r⟩ := as.cons_
  obtain ⟨l, h1, h2⟩ := ih r
  obtain ⟨t, rfl⟩ := a.str_
  exact ⟨(sOf [c], t) :: l, by rw [h1]; rfl, by rw [List.map_cons, h2]; rfl⟩
theorem fold_le : ∀ (l : List Nat) (n : Nat), (l.map fun c => sOf [c]).foldl (fun acc (x : Str) => acc + x.length + (sOf []).length) n = n + l.length
 | [], n => rfl
 | c :: l, n => by rw [List.map_cons, List.foldl_cons, fold_le l]; simp [sOf, Str.length]; lia
theorem join_dd {cs : List Nat} (hz : cs.length <= 100000) : Meth1 pg w ba q k "join" (.str (sOf [])) (.list (cs.map fun c => eC [c])) (eC cs) where
 run := fun s X v_1 o a_1 => by
  obtain ⟨t, rfl⟩ := a_1.str_
  refine ⟨"str", "str.join", F.plainAttrs_str, F.slot_str_join, F.type_str_join, typeIs_str _ _ _, (fun zz e => nomatch e), ?_⟩
  intro A pos xx Q E R h
  refine seqMethod1_meets F.slot_str_join F.entry_str_join (wpAny_mono h (fun v_2 s_1 h_1 => ?_) fun zz zz e => e)
  obtain ⟨h', tk, rfl, e', a_2, hQ⟩ := h_1
  obtain ⟨a, vs, n, rfl, _, e3, as⟩ := a_2.list_
  obtain ⟨l, hl1, hl2⟩ := strs_of as
  have hlen : l.length = cs.length := by have := congrArg List.length hl2; simpa using this
  refine ⟨typeIs_str _ _ _, F.args_str_join_2 _ _, _, meets_str_join_list (sOf []) t a l ?_, ?_, ?_⟩
  ·rw [hl2, <- Array.foldl_toList, List.toList_toArray, fold_le]
   simp only [Builtin.Str.tooLong, Nat.zero_add, gt_iff_lt, decide_eq_false_iff_not, Nat.not_lt]
   exact sizeOk hz
  ·have : vs = (strValues l).toArray := by rw [<- hl1]
   rw [<- this]; exact ⟨_, e3, rfl, n, rfl⟩
  ·match l, cs, hl2, hlen with
   | [], [], _, _ => exact ⟨by exact sizeOk (Nat.zero_le _), hQ _ h' _ (Ext.refl _) (.str _ _)⟩
   | [p], [c], h2, _ =>
    have e : p.1 = sOf [c] := by simpa using h2
    show wants Q E (.ok (.ret (.str p.1 p.2))) _
    rw [e]; exact hQ _ h' _ (Ext.refl _) (.str _ _)
   | p :: p' :: l, cs, h2, _ =>
    have e : Builtin.Str.glued (sOf []) ((p :: p' :: l).map (·.1)) = sOf cs := by rw [h2, glued_empty]
    show Made.post (.str (Builtin.Str.glued (sOf []) ((p :: p' :: l).map (·.1)))) _ _
    rw [e]
    exact ⟨by rw [sOf_length]; exact sizeOk hz, hQ _ h' _ (Ext.refl _) (.str _ _)⟩
noncomputable def fmTab : List (List (Nat × Nat)) := [[(40960, 108), (49152, 115), (32768, 45), (24576, 98), (16384, 100), (8192, 99), (4096, 112)], [(256, 114)], [(128, 119)], [(2112, 115), (2048, 83), (64, 120)], [(32, 114)], [(16, 119)], [(1032, 115), (1024, 83), (8, 120)], [(4, 114)], [(2, 119)], [(513, 116), (512, 84), (1, 120)]]
noncomputable abbrev eBC (p : Nat × Nat) : D := .tuple [eN p.1, eC [p.2]]
noncomputable abbrev eTab (tb : List (Nat × Nat)) : D := .tuple (tb.map eBC)
noncomputable def fmHit (i mode : Nat) (p : Nat × Nat) : Bool := if i = 0 then decide (mode &&& 61440 = p.1) else decide (mode &&& p.1 = p.1)
noncomputable def fmChar (mode i : Nat) (tb : List (Nat × Nat)) : Nat := match tb.find? (fmHit i mode) with | some p => p.2 | none => if i = 0 then 63 else 45
noncomputable def fmUp (mode : Nat) (i : Nat) : List Nat := (List.range i).map fun j => fmChar mode j (fmTab.getD j [])
noncomputable def fm (mode : Nat) : List Nat := fmUp mode 10
theorem fmUp_len (mode i : Nat) : (fmUp mode i).length = i := by simp [fmUp]
theorem fmUp_succ (mode i : Nat) : fmUp mode (i + 1) = fmUp mode i ++ [fmChar mode i (fmTab.getD i [])] := by simp [fmUp, List.range_succ]
theorem posOk_8 : posOk (stmtAt 8) [N "mode"] := posOk1 fun zz zz zz zz => rfl
theorem ifmt_fun (C : Cx ba mg mb) {a8 : Addr} (h8 : FnG ba mg (stmtAt 8) a8) {m : Nat} : FunN pg w ba true 1 (fun vs => PySem.call (.ref a8) vs) [eN m] (eN (m &&& 61440)) :=
 have body : Ex pg w ba true 0 (fnScope (stmtAt 8)) [(N "mode", eN m)] [] (fnBody (stmtAt 8)) (RetP (eN (m &&& 61440))) := by
  conv => arg 9; whnf
  exact Ex.ret (Ev.natAnd (by walk_at "v") (Ev.nat (n := 61440) rfl)) rfl
 pure_of_body C h8 (ns := [N "mode"]) (by kernel_rfl) (fun vs pm code doc hv => posOk_8 vs pm code doc hv) body
theorem filemode_body (C : Cx ba mg mb) {a8 : Addr} (h8 : FnG ba mg (stmtAt 8) a8) (hT : GD ba mg (N "_filemode_table") (.tuple (fmTab.map eTab))) {mode : Nat} :
  Ex pg w ba true 1 (fnScope (stmtAt 29)) [(N "mode", eN mode)] [] (fnBody (stmtAt 29)) (RetP (eC (fm mode))) := by
 conv => arg 9; whnf
 refine Ex.own (ds := []) EvN.nil fun ap => ?_
 refine Ex.cons (R1 := fun o Γ' M' => o = .next /\ Sub [(N "perm", .raw (.ref ap)), (N "mode", eN mode)] Γ' /\ M' = [(ap, (fm mode).map fun c => eC [c])])
  (Ex1.forEnum C (ds := fmTab.map eTab) (bs := fun i d => [(N "table", d), (N "index", eN i)]) (Ev.gd C hT (by kernel_rfl) (by kernel_rfl)) (by kernel_rfl)
   (fun i d hd => As.tup (ds := [eN i, d]) (AsL.cons (AsL.cons AsL.nil)))
   (fun zz => True) trivial (fun i => [(N "perm", .raw (.ref ap)), (N "mode", eN mode)]) (fun i => [(ap, (fmUp mode i).map fun c => eC [c])]) (by walk_at "v") (List.Sublist.refl _) (fun i d hd zz => ?_) (fun zz => Ex.nil ⟨rfl, by walk_at "v", rfl⟩)) (fun o Γ' M' h => ?_)
 ·dsimp only [kA, kN]
  rw [List.getElem?_map] at hd
  obtain ⟨tb, htb, rfl⟩ := Option.map_eq_some_iff.1 hd
  have hi : i < 10 := (List.getElem?_eq_some_iff.1 htb).1
  have etb : fmTab.getD i [] = tb := by rw [List.getD_eq_getElem?_getD, htb]; rfl
  have hul := fmUp_len mode i
  refine Ex.cons (R1 := fun o Γ' M' => o = .next /\ Sub [(N "perm", .raw (.ref ap)), (N "mode", eN mode)] Γ' /\ M' = [(ap, (fmUp mode (i + 1)).map fun c => eC [c])])
   (Ex1.forJ (ds := tb.map eBC) (bs := fun d => [(N "char", unD 1 d), (N "bit", unD 0 d)]) (EvS.tuple (by walk_at "v")) (fun j d hd => ?_)
    (fun j => (tb.take j).all (fun p => !fmHit i mode p) = true) (by simp) (fun j => [(N "index", eN i), (N "perm", .raw (.ref ap)), (N "mode", eN mode)]) (fun j => [(ap, (fmUp mode i).map fun c => eC [c])]) (by walk_at "v") (List.Sublist.refl _) (fun j d hd hJ => ?_) (fun hJ => ?_)) (fun o Γ' M' h => ?_)
  ·rw [List.getElem?_map] at hd
   obtain ⟨p, hp, rfl⟩ := Option.map_eq_some_iff.1 hd
   exact As.tup (ds := [eN p.1, eC [p.2]]) (AsL.cons (AsL.cons AsL.nil))
  ·rw [List.getElem?_map] at hd
   obtain ⟨p, hp, rfl⟩ := Option.map_eq_some_iff.1 hd
   show Ex pg w ba true 1 _ ([(N "char", eC [p.2]), (N "bit", eN p.1)] ++ _) _ _ _
   dsimp only [kA, kN]
   have hjl := (List.getElem?_eq_some_iff.1 hp).1
   have htk : tb.take (j + 1) = tb.take j ++ [p] := by rw [List.take_add_one, hp]; rfl
   have hit : fmHit i mode p = true -> (fmUp mode i).map (fun c => eC [c]) ++ [eC [p.2]] = (fmUp mode (i + 1)).map fun c => eC [c] := fun h => by
    rw [fmUp_succ, List.map_append, etb]
    have : tb.find? (fmHit i mode) = some p := by
     rw [List.find?_eq_some_iff_getElem]
     refine ⟨h, j, hjl, (List.getElem?_eq_some_iff.1 hp).2, fun j' hj' => ?_⟩
     rw [List.all_eq_true] at hJ
     exact hJ _ (List.mem_iff_getElem.2 ⟨j', by rw [List.length_take]; lia, by rw [List.getElem_take]⟩)
    rw [fmChar, this]; rfl
   have act : ∀ {R : Out -> Gam -> Mut -> Prop}, (∀ Γ' M', Sub [(N "perm", .raw (.ref ap)), (N "mode", eN mode)] Γ' -> M' = [(ap, (fmUp mode (i + 1)).map fun c => eC [c])] -> R .brk Γ' M') -> fmHit i mode p = true -> ∀ {pos1 pos2 pos3 pos4 pos5 pos6 : Pos}, (pos2.endLine == pos4.line) = true -> Ex pg w ba true 1 (fnScope (stmtAt 29)) [(N "char", eC [p.2]), (N "bit", eN p.1), (N "index", eN i), (N "perm", .raw (.ref ap)), (N "mode", eN mode)] [(ap, (fmUp mode i).map fun c => eC [c])]
     [.Expr (.Call (.Attribute (.Name (N "perm") pos1) "append" pos2) [.Name (N "char") pos3] [] pos4) pos5, .Break pos6] R := fun hR h pos1 pos2 pos3 pos4 pos5 pos6 hl =>
    Ex.append (x := N "perm") (d := eC [p.2]) (by walk_at "v") (by walk_at "v") (sizeOk (by simp; lia)) (Ex.brk (hR _ _ (by walk_at "v") (by rw [hit h]))) (hline := hl)
   have miss : fmHit i mode p = false -> (tb.take (j + 1)).all (fun p => !fmHit i mode p) = true := fun h => by
    rw [htk, List.all_append, hJ]; simp [h]
   refine Ex.cons (R1 := fun o Γ' M' => (o = .next /\ (Sub [(N "index", eN i), (N "perm", .raw (.ref ap)), (N "mode", eN mode)] Γ' /\ ([(ap, (fmUp mode i).map fun c => eC [c])] : Mut).Sublist M') /\ (tb.take (j + 1)).all (fun p => !fmHit i mode p) = true) \/ (o = .brk /\ Sub [(N "perm", .raw (.ref ap)), (N "mode", eN mode)] Γ' /\ M' = [(ap, (fmUp mode (i + 1)).map fun c => eC [c])]))
    (Ex1.ife (Tr.natEq (x := i) (y := 0) (by walk_at "v") (Ev.nat rfl)) (fun h => ?_) (fun h => ?_)) (fun o Γ' M' h => ?_)
   ·have hi0 : i = 0 := of_decide_eq_true h
    have eh : fmHit i mode p = decide (mode &&& 61440 = p.1) := if_pos hi0
    refine Ex.cons (R1 := fun o Γ' M' => (o = .next /\ (Sub [(N "index", eN i), (N "perm", .raw (.ref ap)), (N "mode", eN mode)] Γ' /\ ([(ap, (fmUp mode i).map fun c => eC [c])] : Mut).Sublist M') /\ (tb.take (j + 1)).all (fun p => !fmHit i mode p) = true) \/ (o = .brk /\ Sub [(N "perm", .raw (.ref ap)), (N "mode", eN mode)] Γ' /\ M' = [(ap, (fmUp mode (i + 1)).map fun c => eC [c])]))
     (Ex1.ife (Tr.natEq (x := mode &&& 61440) (y := p.1) (Ev.callF h8.fn (Ev.fn C h8) (EvL.cons (by walk_at "v") EvL.nil) (ifmt_fun C h8) (args1 fun U => rfl)) (by walk_at "v")) (fun h => act (fun Γ' M' h1 h2 => .inr ⟨rfl, h1, h2⟩) (by rw [eh]; exact h) rfl) (fun h => Ex.nil (.inl ⟨rfl, ⟨by walk_at "v", List.Sublist.refl _⟩, miss (by rw [eh]; exact h)⟩))) (fun o Γ' M' h => ?_)
    rcases h with ⟨rfl, h⟩ | ⟨rfl, h⟩
    ·exact Ex.nil (.inl ⟨rfl, h⟩)
    ·exact .inr ⟨rfl, h⟩
   ·have hi0 : i ≠ 0 := of_decide_eq_false h
    have eh : fmHit i mode p = decide (mode &&& p.1 = p.1) := if_neg hi0
    refine Ex.cons (R1 := fun o Γ' M' => (o = .next /\ (Sub [(N "index", eN i), (N "perm", .raw (.ref ap)), (N "mode", eN mode)] Γ' /\ ([(ap, (fmUp mode i).map fun c => eC [c])] : Mut).Sublist M') /\ (tb.take (j + 1)).all (fun p => !fmHit i mode p) = true) \/ (o = .brk /\ Sub [(N "perm", .raw (.ref ap)), (N "mode", eN mode)] Γ' /\ M' = [(ap, (fmUp mode (i + 1)).map fun c => eC [c])]))
     (Ex1.ife (Tr.natEq (x := mode &&& p.1) (y := p.1) (Ev.natAnd (by walk_at "v") (by walk_at "v")) (by walk_at "v")) (fun h => act (fun Γ' M' h1 h2 => .inr ⟨rfl, h1, h2⟩) (by rw [eh]; exact h) rfl) (fun h => Ex.nil (.inl ⟨rfl, ⟨by walk_at "v", List.Sublist.refl _⟩, miss (by rw [eh]; exact h)⟩))) (fun o Γ' M' h => ?_)
    rcases h with ⟨rfl, h⟩ | ⟨rfl, h⟩
    ·exact Ex.nil (.inl ⟨rfl, h⟩)
    ·exact .inr ⟨rfl, h⟩
   ·rcases h with ⟨rfl, h⟩ | ⟨rfl, h⟩
    ·exact Ex.nil h
    ·exact ⟨rfl, h⟩
  ·have hnone : tb.find? (fmHit i mode) = none := by
    rw [List.length_map, List.take_length, List.all_eq_true] at hJ
    exact List.find?_eq_none.2 fun p hp => by have := hJ p hp; simpa using this
   refine Ex.cons (R1 := fun o Γ' M' => o = .next /\ Sub [(N "perm", .raw (.ref ap)), (N "mode", eN mode)] Γ' /\ M' = [(ap, (fmUp mode (i + 1)).map fun c => eC [c])]) (Ex1.ife (Tr.natEq (x := i) (y := 0) (by walk_at "v") (Ev.nat rfl)) (fun h => ?_) (fun h => ?_)) (fun o Γ' M' h => ?_)
   ·refine Ex.append (x := N "perm") (d := eC [63]) (by walk_at "v") (Ev.strC rfl) (sizeOk (by simp; lia)) (Ex.nil ⟨rfl, by walk_at "v", ?_⟩)
    rw [fmUp_succ, List.map_append, etb, fmChar, hnone]
    simp only [if_pos (of_decide_eq_true h)]; rfl
   ·refine Ex.append (x := N "perm") (d := eC [45]) (by walk_at "v") (Ev.strC rfl) (sizeOk (by simp; lia)) (Ex.nil ⟨rfl, by walk_at "v", ?_⟩)
    rw [fmUp_succ, List.map_append, etb, fmChar, hnone]
    simp only [if_neg (of_decide_eq_false h)]; rfl
   ·obtain ⟨rfl, h2, rfl⟩ := h
    exact Ex.nil ⟨rfl, h2, rfl⟩
  ·obtain ⟨rfl, h2, rfl⟩ := h
   exact Ex.nil ⟨⟨h2, List.Sublist.refl _⟩, trivial⟩
 ·obtain ⟨rfl, h2, rfl⟩ := h
  refine Ex.sub (Γ0 := [(N "perm", .raw (.ref ap)), (N "mode", eN mode)]) ?_ h2
  refine Ex.freeze (x := N "perm") (by walk_at "v") ?_
  exact Ex.ret (d := eC (fm mode)) (Ev.meth1 (d_1 := .str (sOf [])) (d_2 := .list ((fm mode).map fun c => eC [c])) (Ev.strC rfl) (by walk_at "v") (join_dd (by rw [fm, fmUp_len]; lia))) rfl
theorem posOk_29 : posOk (stmtAt 29) [N "mode"] := posOk1 fun zz zz zz zz => rfl
theorem filemode_fun (C : Cx ba mg mb) {a8 a29 : Addr} (h8 : FnG ba mg (stmtAt 8) a8) (h29 : FnG ba mg (stmtAt 29) a29) (hT : GD ba mg (N "_filemode_table") (.tuple (fmTab.map eTab))) {mode : Nat} :
  FunN pg w ba true 2 (fun vs => PySem.call (.ref a29) vs) [eN mode] (eC (fm mode)) :=
 pure_of_body C h29 (ns := [N "mode"]) (by kernel_rfl) (fun vs pm code doc hv => posOk_29 vs pm code doc hv) (filemode_body C h8 hT)
end
end
section
open PySem.W PyProof.Rows Builtin Builtin.ObjectAttr Builtin.Getset_descriptor
section
variable {K : Frag} {C x dx : Addr} {R : Result -> Shared -> Prop}
set_option tactic.hygienic true in
theorem osa_dictU {ox od od' : Obj} {name : Str} {tk : Tok} {es : List DictEntry} (X : K.In s.heap)
  (I : InstAt s.heap x ox C (some od)) (hd : ox.dict = some dx) (D : s.heap.get? dx = some od) (hp : plainOver K C = true) (ht : takerIn K C name = some none) (hh : (clsIn K C).any (·.hasDict) = true)
  (hl : (lookIn name od).isSome = true)
  (e : Obj.putName name (PyData.keyHash w.params name) (.str name s.toks) v od = od') (e' : od'.data = .dict es.toArray n) (hf : od'.isFreed = false) (hz : es.length <= 1000)
  (h : ∀ h', h'.get? dx = some od' -> (∀ b o, b ≠ dx -> s.heap.get? b = some o -> h'.get? b = some o) -> h'.objs.size = s.heap.objs.size -> R (.ok (.ret .none)) { s with heap := h', toks := s.toks + 1 }) :
  codeAny (model pg w) A (.call (.builtin "object.__setattr__") ⟨[.ref x, .str name tk, v], []⟩) R s := by
 refine osa_open X I hp ht fun b => ?_
 obtain ⟨cd, hc, hd'⟩ := any_some hh
 have D' : (s.heap.update dx (Obj.putName name (PyData.keyHash w.params name) (.str name s.toks) v)).get? dx = some od' := by
  rw [<- e]; exact Heap.get?_update_self _ D (by rw [e]; exact hf)
 obtain ⟨hx, hcl, hn, -⟩ := I
 obtain ⟨oc, odi, oda, osl⟩ := ox
 dsimp only at hcl hd
 subst hcl hd
 refine jB (jP (jB (jB (wpAny_loadPart hx (jB ((looks_clsIn X hc).here ?_))))))
 rw [hd']
 refine jP (a := some dx) (jB (jP (jB ?_)))
 unfold nsSet
 refine jB (jB (wpAny_askSetting (jP (jB (wpAny_mkText (jB (wpAny_loadPart D ?_)))))))
 unfold lookIn at hl
 split at hl
 ·rename_i es0 n0 q
  rw [q]
  dsimp only
  have c : (!es0.any (·.key.isStr name) && es0.any (·.refKey)) = false := by
   rw [<- Array.any_toList, <- Array.any_toList]
   split at hl
   ·rename_i en he
    rw [List.any_eq_true.2 ⟨en, List.mem_of_find?_eq_some he, List.find?_some he⟩]; rfl
   ·split at hl
    ·cases hl
    ·rename_i z; rw [Bool.not_eq_true] at z; rw [z, Bool.and_false]
  rw [aRefKeyMayBeTheName_at, c]
  refine wpAny_updatePart D ?_
  refine jB (wpAny_lookBehind D' (by rw [e']; exact pastItsLine_dict (by rw [List.size_toArray, sizeLine_eq]; lia)) ?_)
  exact jP (h _ D' (fun b o hb eb => (Heap.get?_update_other _ _ (Ne.symm hb)).trans eb) (Heap.size_update ..))
 ·cases hl
structure ExK (K : Frag) (C fI : Addr) : Prop where
 makes : makesIn K C = true
 ini : findIn K (.ref C) "__init__" = some (some (.ref fI))
 fn : typeIn K (.ref fI) = some (.type "function")
 keep : keepIn K (.ref C) = true
 plain : plainOver K C = true
 tk1 : takerIn K C "value" = some none
 tk2 : takerIn K C "read" = some none
 hd : (clsIn K C).any (·.hasDict) = true
 sa : findIn K (.ref C) "__setattr__" = some (some (.builtin "object.__setattr__"))
 ga : findIn K (.ref C) "__getattribute__" = some (some (.builtin "object.__getattribute__"))
 gx : findIn K (.ref C) "__getattr__" = some none
 rd : findIn K (.ref C) "read" = some none
end
end
section
open PySem.W PyProof.Rows
noncomputable def initSt : Stmt := match stmtAt 6 with | .ClassDef _ _ _ (s :: _) _ _ _ _ _ _ _ => s | _ => .Pass ⟨0,0,0,0⟩
structure FnQ (ba : Heap) (a : Addr) (st : Stmt) (qual : Str) : Prop where
 at_ : ∃ o pm code doc ct, ba.get? a = some o /\ o.data = .func (fnX (fnName st) qual (fnParams st) (fnBody st) (fnScope st) [] .none .none doc pm none code ct) /\ ba.CodeRec code qual
theorem FnQ.keeps {base' : Heap} {st : Stmt} {qual : Str} (x : FnQ ba a st qual) (e : Ext ba base') : FnQ base' a st qual :=
 by obtain ⟨o, pm, code, doc, ct, h1, h2, h3⟩ := x.at_; exact ⟨o, pm, code, doc, ct, e _ _ h1, h2, h3.keeps e⟩
noncomputable def dict1 (w : World) (tk : Tok) (v : Value) : Obj := Obj.putName (N "value") (PyData.keyHash w.params (N "value")) (.str (N "value") tk) v emptyDict
noncomputable def dict2 (w : World) (tk : Tok) (v : Value) (tk' : Tok) (f : Value) : Obj := Obj.putName (N "read") (PyData.keyHash w.params (N "read")) (.str (N "read") tk') f (dict1 w tk v)
theorem dict1_eq (w : World) (tk : Tok) (v : Value) : dict1 w tk v = { cls := .type "dict", data := .dict [(⟨PyData.keyHash w.params (N "value"), .str (N "value") tk, v⟩ : DictEntry)].toArray 1 } := rfl
theorem dict2_eq (w : World) (tk : Tok) (v : Value) (tk' : Tok) (f : Value) : dict2 w tk v tk' f = { cls := .type "dict", data := .dict [(⟨PyData.keyHash w.params (N "value"), .str (N "value") tk, v⟩ : DictEntry), ⟨PyData.keyHash w.params (N "read"), .str (N "read") tk', f⟩].toArray 2 } := rfl
theorem dict1_look (w : World) (tk : Tok) (v : Value) : lookIn (N "read") (dict1 w tk v) = some none := by rw [dict1_eq]; rfl
theorem dict2_look (w : World) (tk : Tok) (v : Value) (tk' : Tok) (f : Value) : lookIn (N "read") (dict2 w tk v tk' f) = some (some f) := by rw [dict2_eq]; rfl
section
variable {K : Frag} {C fI : Addr} {R : Result -> Shared -> Prop} {g : Array GenState} {d : Drawn} {t : Nat} {os : OsState}
theorem make_tape (EX : ExK K C fI) (X : K.In h) (FI : FnQ h fI initSt (N "_Example.__init__")) (lim : h.NoLimit) (hroom : A.depth + 2 < recursionLimit)
  (hq : ∀ h' tk tkv, (∀ b o, h.get? b = some o -> h'.get? b = some o) -> h.objs.size + 2 <= h'.objs.size -> h'.get? h.objs.size = some (dict1 w tkv v) -> h'.get? (h.objs.size + 1) = some (instObj C h.objs.size) ->
   R (.ok (.ret (.ref (h.objs.size + 1)))) ⟨h', g, d, tk, os⟩) :
  codeAny (model pg w) A (.call (.ref C) ⟨[v], []⟩) R ⟨h, g, d, t, os⟩ := by
 obtain ⟨o, pm, code, doc, ct, ho, hdat, hcd⟩ := FI.at_
 refine make_core (makes_of X EX.makes) (looks_findIn X EX.ini) (fun self => bind_fn X self EX.fn) (.inl rfl) ?_
 have k : ∀ b o, h.get? b = some o -> ((h.push emptyDict).push (instObj C h.objs.size)).get? b = some o := fun b o e => Heap.get?_push_of_some _ (Heap.get?_push_of_some _ e)
 have hz : ((h.push emptyDict).push (instObj C h.objs.size)).objs.size = h.objs.size + 2 := by rw [Heap.size_push, Heap.size_push]
 have hd0 : ((h.push emptyDict).push (instObj C h.objs.size)).get? h.objs.size = some emptyDict := Heap.get?_push_of_some _ (Heap.get?_push_size _ rfl)
 have hx0 : ((h.push emptyDict).push (instObj C h.objs.size)).get? (h.objs.size + 1) = some (instObj C h.objs.size) := by
  have := Heap.get?_push_size (h.push emptyDict) (o := instObj C h.objs.size) rfl
  rwa [Heap.size_push] at this
 generalize hg : (h.push emptyDict).push (instObj C h.objs.size) = h1 at *
 refine codeAny_call_def (fd := fnX (fnName initSt) (N "_Example.__init__") (fnParams initSt) (fnBody initSt) (fnScope initSt) [] .none .none doc pm none code ct) (body := fnBody initSt) (binds := [(N "self", .ref (h.objs.size + 1)), (N "value", v)])
  (by have e : (Code.builtin "type.__call__" ⟨[Value.ref C, v], []⟩).weight = 1 := rfl; show A.depth + _ < _; lia) (k _ _ ho) hdat (lim.keeps k) (hcd.keeps k) rfl (BindsTo.of_eq rfl) (show ∀ x ∈ (fnScope initSt).names, x.2 ≠ .cell by decide +kernel) (fun x hx => ?_) (fun h_0 hns hk => ?_)
 ·have hx : x = (N "self", .ref (h.objs.size + 1)) \/ x = (N "value", v) := by simpa using hx
  rcases hx with rfl | rfl
  ·exact (by kernel_rfl : (fnScope initSt).names.lookup (N "self") = some .local)
  ·exact (by kernel_rfl : (fnScope initSt).names.lookup (N "value") = some .local)
 conv in (execs _ _) => arg 1; whnf
 generalize henv : callEnv _ _ _ = U at *
 have hloc : U.locals = h1.objs.size := by rw [<- henv]; rfl
 have hsc : U.scope = fnScope initSt := by rw [<- henv]; rfl
 have hkd : U.scope.kind = .function := by rw [hsc]; rfl
 have k1 : U.kindOf (N "self") = some .local := by rw [Env.kindOf, hsc]; rfl
 have k2 : U.kindOf (N "value") = some .local := by rw [Env.kindOf, hsc]; rfl
 rw [<- hloc] at hns
 have hx2 := hk _ _ hx0
 have hd2 := hk _ _ hd0
 have X2 : K.In h_0 := (X.keeps k).keeps hk
 refine wpAny_execs_cons (plainObj_wpAny_Assign_Attribute (wpAny_Name (wpAny_loadName_local hkd k2 hns (v := v) rfl ?_)) (by rfl))
 refine wpAny_Name (wpAny_loadName_local hkd k1 hns (v := .ref (h.objs.size + 1)) rfl ?_)
 refine set_plain (ox := instObj C h.objs.size) (od := some emptyDict) X2 ⟨hx2, rfl, rfl, hd2⟩ EX.sa ?_
 refine osa_dictU (od := emptyDict) (dx := h.objs.size) (od' := dict1 w _ v) (es := _) (n := 1) X2 ⟨hx2, rfl, rfl, hd2⟩ rfl hd2 EX.plain EX.tk1 EX.hd (by rfl) rfl (by rw [dict1_eq]) (by rw [dict1_eq]; rfl) (by simp) (fun h' hd3 hk3 hz3 => ?_)
 show wpAny _ _ (pure Flow.next) _ _ _
 refine jP ⟨rfl, ?_⟩
 have hlt : @LT.lt Nat _ U.locals h_0.objs.size := hns.lt
 have hz3 : h'.objs.size = h_0.objs.size := hz3
 have hloc' : @Eq Nat U.locals h1.objs.size := hloc
 refine hq h' _ _ (fun b o e => hk3 b o (fun hb => ?_) (hk b o (k b o e))) (by lia) hd3 (hk3 _ _ (fun hb => ?_) hx2)
 ·have := ltz (a := b) e
  have hb : @Eq Nat b h.objs.size := hb
  lia
 ·have hb : @Eq Nat (h.objs.size + 1) h.objs.size := hb
  lia
end
end
section
open PySem.W PyProof.Rows
section
variable {M : Model} {name : Str} {params : Arguments} {scope : Scope} {c : Addr} {firstLine : Nat}
 {clos : List (Str × Addr)} {Q : VP}
noncomputable def CodeQ (h : Heap) (cv : Value) : Prop := ∃ c oc vs t, cv = .ref c /\ h.get? c = some oc /\ oc.cls = .type "code" /\ oc.data = .fields vs /\ vs[1]? = some (.str Q0 t)
theorem CodeQ.rec_ {cv : Value} (x : CodeQ h cv) : h.CodeRec cv Q0 := by obtain ⟨c, oc, vs, t, h1, h2, h3, h4, h5⟩ := x; exact ⟨c, oc, vs, t, h1, h2, h4, h5⟩
structure Nested (s : Shared) (name : Str) (params : Arguments) (body : List Stmt) (scope : Scope) (clos : List (Str × Addr)) (h' : Heap) (F : Addr) : Prop where
 off : OffW [] s.heap h'
 keep : ∀ b o, b ≠ 112 -> s.heap.get? b = some o -> h'.get? b = some o
 new : s.heap.objs.size <= F
 fn : ∃ doc pm cv ct, h'.get? F = some { cls := .type "function", data := .func (fnX name Q0 params body scope clos .none .none doc pm none cv ct) } /\ CodeQ h' cv
theorem nested_miss {ps : Array Value} (hcl : closureFor scope U = pure clos) (hge0 : U.globals = mainGlobals) (hg : s.heap.Ns mainGlobals mg) (hcode : U.code = .ref c) (C : CodeHd s.heap c 112) (hP : s.heap.get? 112 = some (tabObj ps)) (ht : TriplesOk ps.toList)
  (hnf : codeAmong P0 ps.toList = none) (hgP : mainGlobals ≠ 112) (hb : s.heap.BuiltinsAt mg 112)
  (h : ∀ h' F tk, Nested s name params body scope clos h' F -> Q (.ref F) { s with heap := h', toks := tk }) :
  wpAny M A (makeTail name Q0 params (.stmts body) scope U .none .none none P0 firstLine) Q E s := by
 obtain ⟨bm, ob, hbm, hne0, _, hneP, hbo, hcls, hdict, hdata⟩ := hb
 have fin : ∀ (s' : Shared) (h' : Heap) (tk : Tok) (c' : Addr) (doc pm ctv : Value), (∀ b o, s.heap.get? b = some o -> s'.heap.get? b = some o) -> s.heap.objs.size <= s'.heap.objs.size -> Heap.ExtBut 112 s'.heap h' -> s'.heap.objs.size <= c' -> c' < h'.objs.size -> h'.CodeRec (.ref c') Q0 ->
   h'.get? 112 = some (tabObj (ps ++ #[rawInt P0.line, rawInt P0.col, .ref c'])) -> (∃ P', h'.TableAt c' P' #[]) -> Q (.ref h'.objs.size) { s with heap := h'.push (fnMade name Q0 params body scope clos doc pm c' ctv), toks := tk } := by
  intro s' h' tk c' doc pm ctv k0 sz0 hx hge hlt hrec htb hco
  refine h _ _ tk ⟨⟨fun zz => ?_, fun b o e => ?_⟩, fun b o hb e => Heap.get?_push_of_some _ (hx b o hb (k0 b o e)), Nat.le_trans sz0 (Nat.le_trans hge (Nat.le_of_lt hlt)), doc, pm, .ref c', ctv, Heap.get?_push_size _ rfl, ?_⟩
  ·refine ⟨_, Heap.get?_push_of_some _ htb, by rw [Array.toList_append]; exact TriplesOk_snoc _ _ _ _ ht, fun cv e => ?_⟩
   have e' : codeAmong P0 (ps ++ #[rawInt P0.line, rawInt P0.col, .ref c']).toList = some (.ref c') := by rw [Array.toList_append]; exact codeAmong_snoc _ ht hnf
   rw [e'] at e
   cases e
   obtain ⟨P', ⟨o, vs, e1, e2, e3, e4⟩, _⟩ := hco
   obtain ⟨c2, oc, vs', t, q1, q2, q3, q4⟩ := hrec
   cases q1
   exact ⟨c', oc, vs', t, rfl, Heap.get?_push_of_some _ q2, by rw [e1] at q2; cases q2; exact e2, q3, q4⟩
  ·by_cases hb : b = 112
   ·rw [hb] at e ⊢
    rw [hP] at e; cases e
    exact ⟨_, Heap.get?_push_of_some _ htb, fun zz => .inr (.inr ⟨_, _, rfl, rfl, fun t => by rw [Array.toList_append]; exact TriplesOk_snoc _ _ _ _ t⟩)⟩
   ·exact ⟨o, Heap.get?_push_of_some _ (hx b o hb (k0 b o e)), fun zz => .refl o⟩
  ·obtain ⟨P', ⟨o, vs, e1, e2, e3, e4⟩, _⟩ := hco
   obtain ⟨c2, oc, vs', t, q1, q2, q3, q4⟩ := hrec
   cases q1
   exact ⟨c', oc, vs', t, rfl, Heap.get?_push_of_some _ q2, by rw [e1] at q2; cases q2; exact e2, q3, q4⟩
 unfold makeTail
 rw [hcl, hge0]
 refine jB (jP ?_)
 cases clos with
 | nil =>
  simp only [List.isEmpty_nil, if_true]
  refine jB (jP ?_)
  refine jB (wpAny_functionCodeX hcode (C.code hP ht) (C.tab hP) hnf fun c' h' tk hx hge hlt zz hrec htb hco => ?_)
  have hg' := hg.extBut hx hgP
  refine jB (wpAny_builtinsFor hg' hbm hne0 (hx _ _ hneP hbo) hcls hdict hdata ?_)
  refine jB (wpAny_nsGet hg' ?_)
  have hco' : ∃ P', h'.TableAt c' P' #[] := let ⟨P', _, _, x⟩ := hco; ⟨P', x⟩
  cases hdoc : docOf body with
  | none => exact jB (jP (wpAny_newObj_type (fin s h' tk c' .none _ .none (fun zz zz e => e) (Nat.le_refl _) hx hge hlt hrec htb.2 hco') (by size_fits)))
  | some t => exact jB (wpAny_mkText (wpAny_newObj_type (fin s h' _ c' _ _ .none (fun zz zz e => e) (Nat.le_refl _) hx hge hlt hrec htb.2 hco') (by size_fits)))
 | cons q r =>
  simp only [List.isEmpty_cons, Bool.false_eq_true, if_false]
  refine jB (wpAny_newTextTuple ?_)
  refine jB (wpAny_functionCodeX hcode ((C.keeps fun b o e => Heap.get?_push_of_some _ e).code (Heap.get?_push_of_some _ hP) ht) ((C.keeps fun b o e => Heap.get?_push_of_some _ e).tab (Heap.get?_push_of_some _ hP)) hnf fun c' h' tk hx hge hlt zz hrec htb hco => ?_)
  have hg' := (hg.push _).extBut hx hgP
  refine jB (wpAny_builtinsFor hg' hbm hne0 (hx _ _ hneP (Heap.get?_push_of_some _ hbo)) hcls hdict hdata ?_)
  refine jB (wpAny_nsGet hg' ?_)
  have hco' : ∃ P', h'.TableAt c' P' #[] := let ⟨P', _, _, x⟩ := hco; ⟨P', x⟩
  cases hdoc : docOf body with
  | none => exact jB (jP (wpAny_newObj_type (fin _ h' tk c' .none _ _ (fun zz zz e => Heap.get?_push_of_some _ e) (by rw [Heap.size_push]; lia) hx hge hlt hrec htb.2 hco') (by size_fits)))
  | some t => exact jB (wpAny_mkText (wpAny_newObj_type (fin _ h' _ c' _ _ _ (fun zz zz e => Heap.get?_push_of_some _ e) (by rw [Heap.size_push]; lia) hx hge hlt hrec htb.2 hco') (by size_fits)))
theorem nested (hcl : closureFor scope U = pure clos) (hge0 : U.globals = mainGlobals) (hg : s.heap.Ns mainGlobals mg) (hcode : U.code = .ref c) (C : CodeHd s.heap c 112) (tb : Tab1 s.heap) (hgP : mainGlobals ≠ 112) (hb : s.heap.BuiltinsAt mg 112)
  (h : ∀ h' F tk, Nested s name params body scope clos h' F -> Q (.ref F) { s with heap := h', toks := tk }) :
  wpAny M A (makeFunction name Q0 params (.stmts body) scope U [] [] [] P0 firstLine) Q E s := by
 obtain ⟨ps, hP, ht, hc⟩ := tb
 cases hnf : codeAmong P0 ps.toList with
 | none =>
  rw [makeFunction_eq]
  simp only [List.zip_nil_right, List.filterMap_nil, List.isEmpty_nil, if_true, pure_bind]
  exact nested_miss hcl hge0 hg hcode C hP ht hnf hgP hb h
 | some cv =>
  obtain ⟨c', oc, vs, t, rfl, h2, h3, h4, h5⟩ := hc cv hnf
  refine makeFunction_hit hcl hge0 hg hcode C hP ht hnf hb fun ctv doc h' tk hk hsz => ?_
  have k2 : ∀ b o, s.heap.get? b = some o -> (h'.push { cls := .type "function", data := .func (fnX name Q0 params body scope clos .none .none doc ((mg "__name__").getD .none) none (.ref c') ctv) }).get? b = some o := fun b o e => Heap.get?_push_of_some _ (hk b o e)
  exact h _ _ tk ⟨(show Ext s.heap _ from k2).offW, fun b o zz e => k2 b o e, hsz, doc, _, _, ctv, Heap.get?_push_size _ rfl, ⟨c', oc, vs, t, rfl, k2 _ _ h2, h3, h4, h5⟩⟩
end
end
section
open PySem.W
noncomputable abbrev closT (cO cA : Addr) : List (Str × Addr) := [(N "octets", cO), (N "at", cA)]
structure Tape (w : World) (h : Heap) (Cc T dx F cA cO L : Addr) (oct : Array UInt8) : Prop where
 inst : h.get? T = some (instObj Cc dx)
 dict : ∃ tkv v tkr, h.get? dx = some (dict2 w tkv v tkr (.ref F))
 fn : ∃ doc pm cv ct, h.get? F = some { cls := .type "function", data := .func (fnX (fnName nestSt) Q0 (fnParams nestSt) (fnBody nestSt) (fnScope nestSt) (closT cO cA) .none .none doc pm none cv ct) } /\ CodeQ h cv
 cellA : h.IsCell cA (some (.ref L))
 cellO : ∃ t, h.IsCell cO (some (.bytes oct t))
structure TapeCx (ba : Heap) (mg : SV) (K : Frag) (Cc fI a31 c31 : Addr) : Prop where
 X : K.In ba
 EX : ExK K Cc fI
 cls : mg (N "_Example") = some (.ref Cc)
 init : FnQ ba fI initSt (N "_Example.__init__")
 fn : ∃ o pm doc, ba.get? a31 = some o /\ o.data = .func (docDef (fnName (stmtAt 31)) (fnParams (stmtAt 31)) (fnBody (stmtAt 31)) (fnScope (stmtAt 31)) pm (.ref c31) doc) /\ ba.CodeRec (.ref c31) (fnName (stmtAt 31))
 hd : CodeHd ba c31 112
 out : ba.get? 112 = none
 blt : ∀ h, Ext ba h -> h.BuiltinsAt mg 112
section
variable {K : Frag} {Cc fI a31 c31 L : Addr}
theorem IsCell.keep {c : Addr} {v : Option Value} (x : h.IsCell c v) (e : ∀ o, h.get? c = some o -> h'.get? c = some o) : h'.IsCell c v := let ⟨o, ho, r⟩ := x; ⟨o, e _ ho, r⟩
theorem stream_body (CX : Cx ba mg mb) (TC : TapeCx ba mg K Cc fI a31 c31) (G : EnvG (fnScope (stmtAt 31)) U) (hcode : U.code = .ref c31) (hq : U.qual = fnName (stmtAt 31) ++ ".<locals>.") {oct : Array UInt8}
  (S : St ba X U [(N "octets", .bytes oct), (N "at", .raw (.ref L))] [] s.heap) (Ar : Arr A (X ++ own U []) s.heap) (Rm : Room true 2 A) {Q : VP}
  (hQ : ∀ h' tk T dx F cA cO, OffW (own U []) s.heap h' -> Ext ba h' -> Tape w h' Cc T dx F cA cO L oct -> (∀ a ∈ [T, dx, F], s.heap.get? a = .none) -> (∀ a ∈ [cA, cO], a ∈ U.cells.map (·.2)) -> Q (.ref T) { s with heap := h', toks := tk }) :
  wpAny (model pg w) A (execs (fnBody (stmtAt 31)) U) (fun f s' => Q (match f with | .ret v => v | _ => .none) s') E s := by
 conv in (execs _ _) => arg 1; whnf
 obtain ⟨cO, hcO⟩ := Option.isSome_iff_exists.1 (G.cel (N "octets") (.inl (by kernel_rfl)))
 obtain ⟨cA, hcA⟩ := Option.isSome_iff_exists.1 (G.cel (N "at") (.inl (by kernel_rfl)))
 have kO : U.kindOf (N "octets") = some .cell := by rw [Env.kindOf, G.scope]; decide +kernel
 have kA : U.kindOf (N "at") = some .cell := by rw [Env.kindOf, G.scope]; decide +kernel
 have mO : cO ∈ U.cells.map (·.2) := jM.2 ⟨_, mem_of_lookup hcO, rfl⟩
 have mA : cA ∈ U.cells.map (·.2) := jM.2 ⟨_, mem_of_lookup hcA, rfl⟩
 have cellO : ∃ t, s.heap.IsCell cO (some (.bytes oct t)) := by
  obtain ⟨v, hv, av⟩ := S.var (N "octets") _ rfl
  obtain ⟨t, rfl⟩ := av.bytes_
  rcases hv with ⟨k, _⟩ | ⟨_, c, hc, hcell⟩
  ·rw [kO] at k; cases k
  ·rw [hcO] at hc; cases hc; exact ⟨t, hcell⟩
 have cellA : s.heap.IsCell cA (some (.ref L)) := by
  obtain ⟨v, hv, av⟩ := S.var (N "at") _ rfl
  obtain rfl := av.raw_
  rcases hv with ⟨k, _⟩ | ⟨_, c, hc, hcell⟩
  ·rw [kA] at k; cases k
  ·rw [hcA] at hc; cases hc; exact hcell
 refine wpAny_execs_cons (wpAny_Assign_Name ?_ (by rfl))
 refine PyProof.Rows.Call_ ((Ev.glob (pg := pg) (w := w) (q := true) (k := 2) (x := N "_Example") CX.L (by kernel_rfl) TC.cls (by kernel_rfl) U s X [] G S).bindR Rm fun g t e => ?_) rfl
 refine callWith_of (by rfl) (keeps_K TC.EX.keep) (args_eval (q := true) (k := 2) (args1 (fun U => rfl)) (EvL.cons (Ev.var (x := N "octets") look_here (by kernel_rfl)) EvL.nil (fun U => rfl)) G (S.ext e) Rm fun vs g' t' e' as => ⟨TC.X.keeps (S.keep.trans (e.trans e')), ?_⟩)
 obtain ⟨v, rfl, av⟩ := as.one_
 obtain ⟨tv, rfl⟩ := av.bytes_
 have e12 : Ext s.heap g' := e.trans e'
 have bg' : Ext ba g' := S.keep.trans e12
 refine wpAny_call (make_tape TC.EX (TC.X.keeps bg') (TC.init.keeps bg') (CX.L.nolimit.keeps bg') Rm.depth fun h2 tk2 tkv k2 sz2 hd2 hT2 => ?_)
 generalize hdx : g'.objs.size = dx at *
 have e02 : Ext s.heap h2 := e12.trans k2
 have ndx : g'.get? dx = none := none_of_le (Nat.le_of_eq hdx)
 have nT : g'.get? (dx + 1) = none := none_of_le (by lia)
 have ndx0 := none_of_ext e12 ndx
 have nT0 := none_of_ext e12 nT
 have S2 := S.addB e02 ndx0 ⟨_, hd2⟩
 have notOwn : ∀ b, s.heap.get? b = none -> b ∉ own U [] := fun b hb hm => by obtain ⟨o, x⟩ := S.allLive b (jA.2 (.inr hm)); rw [hb] at x; cases x
 have hdxX : dx ∉ X := fun hm => by obtain ⟨o, x⟩ := S.live dx hm; rw [ndx0] at x; cases x
 have live112 : ∃ o, s.heap.get? 112 = some o := let ⟨ps, hp, _⟩ := Ar.tab; ⟨_, hp⟩
 have ne112 : ∀ b, s.heap.get? b = none -> b ≠ 112 := fun b hb q => by obtain ⟨o, x⟩ := live112; rw [q] at hb; rw [hb] at x; cases x
 show wpAny _ _ (storeName U _ (.ref (dx + 1))) _ _ _
 refine S2.store G (x := N "tape") (d := .raw (.ref (dx + 1))) (by kernel_rfl) (.raw _) fun h3 tk3 S3 off3 off3' => ?_
 have tab3 : Tab1 h3 := (Ar.tab.ext e02).move fun b o eb kd => off3 b o (fun hm => notTab_own S2 hm eb kd) eb
 refine wpAny_execs_cons (nestDef_K rfl rfl rfl ?_)
 have hQn : qualnameIn U (N "_law_read") (N "_law_read") = Q0 := by
  unfold qualnameIn
  rw [if_neg (by rw [Env.kindOf, G.scope]; decide +kernel), hq]
  decide +kernel
 show wpAny _ _ (makeFunction (N "_law_read") (qualnameIn U (N "_law_read") (N "_law_read")) _ _ _ _ _ _ _ _ _) _ _ _
 rw [hQn]
 have hcl : closureFor (fnScope nestSt) U = pure (closT cO cA) := by
  rw [closureFor_eq (fun p hp hf => ?_)]
  ·show pure [(N "octets", (U.cells.lookup (N "octets")).getD 0), (N "at", (U.cells.lookup (N "at")).getD 0)] = _
   rw [hcO, hcA]; rfl
  ·have : p.1 = N "octets" \/ p.1 = N "at" := by
    have key : ∀ p ∈ (fnScope nestSt).names, p.2 = .free -> p.1 = N "octets" \/ p.1 = N "at" := by decide +kernel
    exact key p hp hf
   rcases this with h | h <;> rw [h]
   ·rw [hcO]; rfl
   ·rw [hcA]; rfl
 have hgP : mainGlobals ≠ 112 := fun q => by
  obtain ⟨o, es, ep, eo, _⟩ := CX.L.g
  rw [q, TC.out] at eo; cases eo
 refine nested (mg := mg) (clos := closT cO cA) hcl G.globals (CX.L.g.keeps S3.keep) hcode (TC.hd.keeps S3.keep) tab3 hgP (TC.blt _ S3.keep) fun h4 F tk4 N4 => ?_
 dsimp only at N4 ⊢
 have kp4 : Ext ba h4 := fun b o eo => N4.keep b o (fun q => by rw [q, TC.out] at eo; cases eo) (S3.keep b o eo)
 have S4 : St ba (dx :: X) U [(N "tape", .raw (.ref (dx + 1))), (N "octets", .bytes oct), (N "at", .raw (.ref L))] [] h4 := by
  have := St.weak (Z := []) (N := []) (B := dx :: X) S3 N4.off kp4 (fun z hz => nomatch hz)
  exact this
 refine S4.store G (x := N "_law_read") (d := .raw (.ref F)) (by kernel_rfl) (.raw _) fun h5 tk5 S5 off5 off5' => ?_
 refine wpAny_execs_cons (plainObj_wpAny_Assign_Attribute ?_ (by rfl))
 refine (Ev.var (pg := pg) (w := w) (q := true) (k := 2) (x := N "_law_read") look_here (by kernel_rfl) U _ _ [] G S5).bind Rm fun v6 h6 tk6 e6 a6 => ?_
 obtain rfl := a6.raw_
 refine (Ev.var (pg := pg) (w := w) (q := true) (k := 2) (x := N "tape") (look_there (by kernel_rfl) look_here) (by kernel_rfl) U _ _ [] G (S5.ext e6)).bind Rm fun v7 h7 tk7 e7 a7 => ?_
 obtain rfl := a7.raw_
 have S7 := (S5.ext e6).ext e7
 have toF : ∀ b o, b ∉ own U [] -> b ≠ 112 -> h2.get? b = some o -> h7.get? b = some o := fun b o h1 hne eo => e7 _ _ (e6 _ _ (off5 b o h1 (N4.keep b o hne (off3 b o h1 eo))))
 have hT7 := toF _ _ (notOwn _ nT0) (ne112 _ nT0) hT2
 have hd7 := toF _ _ (notOwn _ ndx0) (ne112 _ ndx0) hd2
 have K7 := TC.X.keeps S7.keep
 have I7 : InstAt h7 (dx + 1) (instObj Cc dx) Cc (some (dict1 w tkv (.bytes oct tv))) := ⟨hT7, rfl, rfl, hd7⟩
 refine set_plain (ox := instObj Cc dx) (od := some (dict1 w tkv (.bytes oct tv))) K7 I7 TC.EX.sa ?_
 refine osa_dictU (od := dict1 w tkv (.bytes oct tv)) (dx := dx) (od' := dict2 w tkv (.bytes oct tv) _ (.ref F)) (es := _) (n := 2) K7 I7 rfl hd7 TC.EX.plain TC.EX.tk2 TC.EX.hd (by rw [dict1_look]; rfl) rfl (by rw [dict2_eq]) (by rw [dict2_eq]; rfl) (by simp) (fun h8 hd8 hk8 hz8 => ?_)
 dsimp only at hk8
 have o8 : Off [dx] h7 h8 := fun b o hb eo => hk8 b o (fun q => hb (by rw [q]; simp)) eo
 have S8 : St ba X U [(N "_law_read", .raw (.ref F)), (N "tape", .raw (.ref (dx + 1))), (N "octets", .bytes oct), (N "at", .raw (.ref L))] [] h8 := S7.offOut o8 hdxX
 refine wpAny_execs_cons (wpAny_Return_some ((Ev.var (pg := pg) (w := w) (q := true) (k := 2) (x := N "tape") (look_there (by kernel_rfl) look_here) (by kernel_rfl) U _ _ [] G S8).bind Rm fun v9 h9 tk9 e9 a9 => ?_))
 obtain rfl := a9.raw_
 have hFs : s.heap.get? F = none := by
  cases q : s.heap.get? F with
  | none => rfl
  | some o =>
   have hF := N4.new
   have : ∃ o', h3.get? F = some o' := by
    by_cases hm : F ∈ own U []
    ·exact S3.allLive F (jA.2 (.inr hm))
    ·exact ⟨o, off3 F o hm (e02 _ _ q)⟩
   obtain ⟨o', x⟩ := this
   exact absurd (Heap.lt_size x) (Nat.not_lt.2 hF)
 have toE : ∀ b o, b ∉ own U [] -> b ≠ dx -> h4.get? b = some o -> h9.get? b = some o := fun b o h1 hne eo => e9 _ _ (hk8 b o hne (e7 _ _ (e6 _ _ (off5 b o h1 eo))))
 have slT : slot U (N "tape") = U.locals := by rw [slot, if_pos (by rw [Env.kindOf, G.scope]; decide +kernel)]
 have slF : slot U (N "_law_read") = U.locals := by rw [slot, if_pos (by rw [Env.kindOf, G.scope]; decide +kernel)]
 have toC : ∀ b o, b ∈ U.cells.map (·.2) -> s.heap.get? b = some o -> h9.get? b = some o := fun b o hb eo => by
  obtain ⟨pr, hp, rfl⟩ := jM.1 hb
  have hl : pr.2 ≠ U.locals := S.ok.off pr hp
  have hd : pr.2 ≠ dx := fun q => by rw [q, ndx0] at eo; cases eo
  have h112 : pr.2 ≠ 112 := fun q => by
   obtain ⟨ps, hp', _⟩ := Ar.tab
   rcases kind_own S (mem_own.2 (.inr (.inl hb))) eo with ⟨es, ep, d⟩ | ⟨v, d⟩ | ⟨vs, n, d⟩ <;> rw [q, hp'] at eo <;> cases eo <;> cases d
  refine e9 _ _ (hk8 _ _ hd (e7 _ _ (e6 _ _ (off5' _ _ (fun hm => ?_) (N4.keep _ _ h112 (off3' _ _ (fun hm => ?_) (e02 _ _ eo)))))))
  ·rw [slF] at hm; exact hl (jS.1 hm)
  ·rw [slT] at hm; exact hl (jS.1 hm)
 have o8w : OffW [dx] h7 h8 := o8.offW (fun b hb ob eo => by rw [jS.1 hb]; exact ⟨_, hd8⟩) fun b hb ob eo kd => by
  rw [jS.1 hb, hd7, dict1_eq] at eo; cases eo
  obtain ⟨⟨_, k⟩, _⟩ := kd; cases k
 have w3 : OffW (own U []) h2 h3 := off3.offW (fun b hb ob eo => S3.allLive b (jA.2 (.inr hb))) fun b hb ob eo => notTab_own S2 hb eo
 have w5 : OffW (own U []) h4 h5 := off5.offW (fun b hb ob eo => S5.allLive b (jA.2 (.inr hb))) fun b hb ob eo => notTab_own S4 hb eo
 have w7 : OffW (own U []) s.heap h7 := (((e02.offW.trans w3).trans (N4.off.mono fun x hx => nomatch hx)).trans w5).trans (e6.trans e7).offW
 have w9 : OffW (own U []) s.heap h9 := (w7.then o8w fun y hy => .inr (by rw [jS.1 hy]; exact ndx0)).trans e9.offW
 have hdT : dx + 1 ≠ dx := Nat.succ_ne_self dx
 have hFdx : F ≠ dx := fun q => by
  have hl : ∃ o, h3.get? dx = some o := S3.live dx jC
  obtain ⟨o, x⟩ := hl
  rw [<- q] at x
  exact absurd (Heap.lt_size x) (Nat.not_lt.2 N4.new)
 obtain ⟨doc, pm, cv, ct, hF4, hcr⟩ := N4.fn
 have hcr9 : CodeQ h9 cv := by
  obtain ⟨cc, oc, vs, t, q1, q2, qc, q3, q4⟩ := hcr
  refine ⟨cc, oc, vs, t, q1, toE cc oc (fun hm => ?_) (fun q => ?_) q2, qc, q3, q4⟩
  ·rcases kind_own S4 hm q2 with ⟨es, ep, d⟩ | ⟨v, d⟩ | ⟨vs', n, d⟩
   ·rw [q3] at d; cases d
   ·rw [q3] at d; cases d
   ·rw [d] at q3; cases q3
  ·have hd4 : h4.get? dx = some (dict1 w tkv (.bytes oct tv)) := N4.keep _ _ (ne112 _ ndx0) (off3 _ _ (notOwn _ ndx0) hd2)
   rw [q, hd4, dict1_eq] at q2; cases q2; cases q3
 refine hQ h9 _ (dx + 1) dx F cA cO w9 (S8.keep.trans e9) ⟨e9 _ _ (hk8 _ _ hdT hT7), ⟨_, _, _, e9 _ _ hd8⟩, ⟨doc, pm, cv, ct, toE F _ (notOwn F hFs) hFdx hF4, hcr9⟩, IsCell.keep cellA fun o eo => toC cA o mA eo, ?_⟩ (fun a ha => ?_) fun a ha => ?_
 ·obtain ⟨t, hc⟩ := cellO
  exact ⟨t, IsCell.keep hc fun o eo => toC cO o mO eo⟩
 ·simp only [List.mem_cons, List.not_mem_nil, or_false] at ha
  rcases ha with rfl | rfl | rfl
  ·exact nT0
  ·exact ndx0
  ·exact hFs
 ·simp only [List.mem_cons, List.not_mem_nil, or_false] at ha
  rcases ha with rfl | rfl
  ·exact mA
  ·exact mO
end
end
section
section
theorem EvN.lit {es : List Expr} (h : EvL pg w ba q k sc Γ pos es ds) (hsz : ds.length <= sizeLine) : EvN pg w ba q k sc Γ (.List es pos) ds := by
 intro U s B M A Q E G S Rm hQ
 refine PyProof.Rows.List_ (h U s B M A _ E G S Rm fun vs g t e as => ?_)
 refine wpAny_newList ?_ (by rw [as.length]; exact hsz)
 exact hQ _ vs.toArray 0 _ _ (e.trans (Ext.push _ _)) (none_of_ext e (fresh_none _)) (Heap.get?_push_size _ rfl) ((as.more fun y hy => (jK.1 hy).elim (fun e => .inr (e ▸ fresh_none _)) .inl).ext (Ext.push _ _))
theorem Gl.keeps {base' : Heap} (x : Gl ba mg mb) (e : Ext ba base') : Gl base' mg mb := ⟨x.g.keeps e, x.b.keeps e, x.nolimit.keeps e⟩
theorem Cx.keeps {base' : Heap} (x : Cx ba mg mb) (e : Ext ba base') : Cx base' mg mb := ⟨x.L.keeps e, x.bt⟩
theorem FnG.keeps {base' : Heap} {st : Stmt} (x : FnG ba mg st a) (e : Ext ba base') : FnG base' mg st a :=
 ⟨x.name, by cases x.fn with | mk o pm code doc h1 h2 h3 => exact ⟨o, pm, code, doc, e _ _ h1, h2, h3.keeps e⟩⟩
theorem ThenW.onBase {base' : Heap} {Q : Flow -> Shared -> Prop} (T : ThenW ba B U M s R Q) (e : Ext ba base') (S' : ∀ Γ' M' h', St base' B U Γ' M' h' -> St ba B U Γ' M' h') : ThenW base' B U M s R Q :=
 fun f o h' tk Γ' M' hf S off gr r => T f o h' tk Γ' M' hf (S' _ _ _ S) off gr r
theorem St.onBase {base' : Heap} (S : St base' B U Γ M h) (e : Ext ba base') : St ba B U Γ M h :=
 ⟨e.trans S.keep, S.ok, S.var, S.muts, S.nod, S.dis, S.bdis, S.live, fun a ha => none_of_ext e (S.out a ha)⟩
theorem ThenE.onBase {base' : Heap} (T : ThenE ba B U M s c RE E) (e : Ext ba base') : ThenE base' B U M s c RE E :=
 fun x X t d Z h' tk Γ' M' hx ha S o g r => T x X t d Z h' tk Γ' M' hx ha (S.onBase e) o g r
noncomputable def baseOf (h : Heap) (B : List Addr) (U : Env) (M : Mut) : Heap := W.hideAll h (112 :: (B ++ own U M))
theorem baseOf_ext (S : St ba B U Γ M h) (b112 : ba.get? 112 = none) : Ext ba (baseOf h B U M) := fun b o eo => W.hideAll_get _ (S.keep b o eo) fun hm => by
 rcases jK.1 hm with q | hm
 ·rw [q, b112] at eo; cases eo
 ·have := S.out b hm; rw [eo] at this; cases this
theorem St.rebase (S : St ba B U Γ M h) : St (baseOf h B U M) B U Γ M h :=
 ⟨fun b o e => W.of_hideAll _ e, S.ok, S.var, S.muts, S.nod, S.dis, S.bdis, S.live, fun a ha => W.hideAll_none _ (jT _ ha)⟩
theorem Ef.rebase {Q : Flow -> Shared -> Prop} (b112 : ba.get? 112 = none) (G : EnvG sc U) (S : St ba B U Γ M s.heap) (Rm : Room q k A) (Ar : Arr A (B ++ Mine.own U M) s.heap) (H : Here A U) (T : ThenW ba B U M s R Q) (TE : ThenE ba B U M s c RE E)
  (r : ∀ base', Ext ba base' -> base'.get? 112 = none -> (∀ b o, s.heap.get? b = some o -> b ≠ 112 -> b ∉ B ++ Mine.own U M -> base'.get? b = some o) -> Ef pg w base' q c k sc Γ M ss R RE) : wpAny (model pg w) A (execs ss U) Q E s := by
 have e := baseOf_ext S b112
 refine r (baseOf s.heap B U M) e (W.hideAll_none _ jC) (fun b o eo h1 h2 => W.hideAll_get _ eo fun hm => (jK.1 hm).elim h1 h2) U s B A Q E G S.rebase Rm Ar H (T.onBase e fun zz zz zz S => S.onBase e) (TE.onBase e)
theorem Arr.addM {vs : Array Value} (Ar : Arr A (B ++ own U M) h) (e : Ext h h') (hl : ∀ y ∈ B ++ own U M, ∃ o, h.get? y = some o) (ha : h'.get? a = some (listO vs n)) : Arr A (B ++ own U ((a, ds) :: M)) h' := by
 have up : ∀ y ∈ B ++ own U M, y ∈ B ++ own U ((a, ds) :: M) := fun y hy => own_cons.2 (.inr hy)
 refine ⟨?_, ?_, Ar.tab.ext e, fun hh y hy o' e' k => ?_⟩
 ·obtain ⟨l, hl, hf⟩ := Ar.frames
  refine ⟨l, hl, fun en hen => ?_⟩
  obtain ⟨hk, L, o, es, ep, h1, h2, h3, h4⟩ := hf en hen
  exact ⟨hk, L, o, es, ep, h1, up L h2, e _ _ h3, h4⟩
 ·exact Ar.handled.imp id fun h => by obtain ⟨x, oe, vs, T, h1, h2, h3, h4, h5, h6⟩ := h; exact ⟨x, oe, vs, T, h1, e _ _ h2, h3, h4, h5, up _ h6⟩
 ·rcases own_cons.1 hy with rfl | hy
  ·rw [ha] at e'; cases e'; exact notTab_list _ _ ⟨k.1, .inr k.2⟩
  ·obtain ⟨o, x⟩ := hl y hy
   have := e _ _ x; rw [e'] at this; cases this
   exact Ar.nc hh y hy o' x k
theorem Ef.stream {K : W.Frag} {Cc fI a31 c31 : Addr} (CX : Cx ba mg mb) (TC : TapeCx ba mg K Cc fI a31 c31) (h31 : FnG ba mg (stmtAt 31) a31) {p cpos spos : Pos} {e1 : Expr} {es2 : List Expr} {pos2 : Pos} {oct : Array UInt8}
  (he1 : Ev pg w ba true 3 sc Γ e1 (.bytes oct)) (he2 : EvL pg w ba true 3 sc Γ pos2 es2 [.int 0]) (hx : storable sc x = true) (hn : sc.names.lookup (N "_law_stream") = some .globalImplicit)
  (r : ∀ base' L T dx F cA cO, Ext ba base' -> base'.get? 112 = none -> Tape w base' Cc T dx F cA cO L oct -> Ef pg w base' true c 3 sc ((x, .raw (.ref T)) :: Γ) ((L, [.int 0]) :: M) ss R RE)
  (hb : autoParam (∀ U, backTo cpos (starEach [e1, .List es2 pos2] U) = [(false, eval e1 U), (false, eval (.List es2 pos2) U)]) tA)
  (he : autoParam (∀ U, eval (.Call (.Name (N "_law_stream") p) [e1, .List es2 pos2] [] cpos) U = (do callWith cpos (<- eval (.Name (N "_law_stream") p) U) [] (backTo cpos (starEach [e1, .List es2 pos2] U)) (backToKw cpos (keywordEach [] U)))) tA)
  (hs : autoParam (∀ U, swapsWith (.Call (.Name (N "_law_stream") p) [e1, .List es2 pos2] [] cpos) (some (.Name x px)) spos.line U = pure false) tA) :
  Ef pg w ba true c 3 sc Γ M (.Assign [.Name x px] (.Call (.Name (N "_law_stream") p) [e1, .List es2 pos2] [] cpos) spos :: ss) R RE := by
 intro U s B A Q E G S Rm Ar H TT TE
 obtain ⟨o, pm, doc, ho, hdat, hcd⟩ := TC.fn
 refine wpAny_execs_cons (wpAny_Assign_Name ?_ (hs U))
 refine PyProof.Rows.Call_ ((Ev.glob (pg := pg) (w := w) (q := true) (k := 3) (x := N "_law_stream") CX.L hn h31.name (by kernel_rfl) U s B M G S).bindR Rm fun g t e => ?_) (he U)
 refine callWith_function (o := o) (fd := docDef (fnName (stmtAt 31)) (fnParams (stmtAt 31)) (fnBody (stmtAt 31)) (fnScope (stmtAt 31)) pm (.ref c31) doc) ?_
 rw [hb U]
 refine evalArgs_plain (spliced_cons ((he1 U _ B M G (S.ext e)).bind Rm fun v1 g1 t1 e1' a1 => spliced_cons ((EvN.lit he2 (sizeOk (by simp))) U _ B M A _ E G ((S.ext e).ext e1') Rm fun L vs n g2 t2 e2 hnL hL as => spliced_nil ?_)))
 obtain ⟨t1', rfl⟩ := a1.bytes_
 have S1 := (S.ext e).ext e1'
 have S2 := S1.newM e2 hnL hL as
 have e03 : Ext s.heap g2 := (e.trans e1').trans e2
 refine ⟨⟨S2.keep _ _ ho, hdat⟩, ?_⟩
 have Ar2 : Arr A (B ++ Mine.own U ((L, [.int 0]) :: M)) g2 := Ar.addM e03 S.allLive hL
 refine enter CX.L ho hdat hcd (ns := [N "octets", N "at"]) (ds := [.bytes oct, .raw (.ref L)]) (M := []) (by kernel_rfl) (by rfl) Rm S2.toOk (by rw [List.map_nil, List.append_nil]; exact Ar2) ⟨fun p hp => (nomatch hp), List.nodup_nil, fun a ha => (nomatch ha), fun a ha => (nomatch ha)⟩ (.cons (.bytes _ _) (.cons (.raw _) .nil)) ?_
 intro U' h1 tk1 G' hcode hq S' keep1 H' Ar' Rm' ofOwn
 refine stream_body (pg := pg) (w := w) (Q := fun v s' => wpAny (model pg w) A (storeName U x v) (fun zz s' => wpAny (model pg w) A (execs ss U) Q E s') E s') (s := ({ s with heap := h1, toks := tk1 } : Shared)) CX TC G' hcode hq S' Ar' Rm' fun h' tk T dx F cA cO ow kp tape fr cells => ?_
 dsimp only at ow fr ⊢
 have nOwn' : ∀ y ∈ Mine.own U' [], g2.get? y = none := fun y hy => (ofOwn y hy).elim (fun h => nomatch h) id
 have w2 : OffW [] g2 h' := keep1.offW.then ow fun y hy => .inr (nOwn' y hy)
 have S3 : St ba B U Γ ((L, [.int 0]) :: M) h' := by
  have := St.weak (Z := []) (N := []) (B := B) S2 w2 kp (fun z hz => nomatch hz)
  exact this
 have Ar3 := Ar2.step S2 S3 (w2.mono fun y hy => nomatch hy)
 refine S3.store G (x := x) (d := .raw (.ref T)) hx (.raw _) fun h4 tk4 S4 off4 zz => ?_
 have wOwn4 : OffW (Mine.own U ((L, [.int 0]) :: M)) h' h4 := off4.offW (fun b hb ob eo => S4.allLive b (jA.2 (.inr hb))) fun b hb ob eo => notTab_own S3 hb eo
 have Ar4 := Ar3.step S3 S4 wOwn4
 have apart : ∀ b, g2.get? b = none -> b ∉ B ++ Mine.own U ((L, [.int 0]) :: M) := fun b hb hm => by obtain ⟨o, y⟩ := S2.allLive b hm; rw [hb] at y; cases y
 have fr2 : ∀ b ∈ [T, dx, F, cA, cO], g2.get? b = none := fun b hb => by
  simp only [List.mem_cons, List.not_mem_nil, or_false] at hb
  have c1 : ∀ b ∈ [T, dx, F], g2.get? b = none := fun b hb => none_of_ext keep1 (fr b hb)
  have c2 : ∀ b ∈ [cA, cO], g2.get? b = none := fun b hb => nOwn' b (mem_own.2 (.inr (.inl (cells b hb))))
  rcases hb with rfl | rfl | rfl | rfl | rfl
  ·exact c1 _ (by simp)
  ·exact c1 _ (by simp)
  ·exact c1 _ (by simp)
  ·exact c2 _ (by simp)
  ·exact c2 _ (by simp)
 have to4 : ∀ b o, b ∉ B ++ Mine.own U ((L, [.int 0]) :: M) -> h'.get? b = some o -> h4.get? b = some o := fun b o hb eo => off4 b o (fun hm => hb (jA.2 (.inr hm))) eo
 have live112 : ∃ o, g2.get? 112 = some o := let ⟨ps, hp, _⟩ := Ar2.tab; ⟨_, hp⟩
 have ne112 : ∀ b, g2.get? b = none -> b ≠ 112 := fun b hb q => by obtain ⟨o, y⟩ := live112; rw [q] at hb; rw [hb] at y; cases y
 obtain ⟨doc', pm', cv, ct, hF, hcq⟩ := tape.fn
 have eM : Grow s.heap (Mine.own U M) (Mine.own U ((L, [.int 0]) :: M)) := fun y hy => by
  rcases mem_own.1 hy with h | h | h
  ·exact .inl (mem_own.2 (.inl h))
  ·exact .inl (mem_own.2 (.inr (.inl h)))
  ·rw [List.map_cons] at h
   rcases jK.1 h with h | h
   ·exact .inr (by rw [h]; exact none_of_ext (e.trans e1') hnL)
   ·exact .inl (mem_own.2 (.inr (.inr h)))
 have wAll : OffW (Mine.own U M) s.heap h4 := ((e03.offW.trans (w2.mono fun y hy => nomatch hy)).then wOwn4 eM)
 have cc : ∃ c oc vs t, cv = .ref c /\ h4.get? c = some oc /\ oc.cls = .type "code" /\ oc.data = .fields vs /\ vs[1]? = some (.str Q0 t) /\ c ≠ 112 /\ c ∉ B ++ Mine.own U ((L, [.int 0]) :: M) := by
  obtain ⟨c, oc, vs, t, q1, q2, q3, q4, q5⟩ := hcq
  have hcn : c ∉ B ++ Mine.own U ((L, [.int 0]) :: M) := fun hm => Ar3.nc (Rm.hd rfl) c hm oc q2 ⟨⟨vs, q4⟩, q3⟩
  refine ⟨c, oc, vs, t, q1, to4 _ _ hcn q2, q3, q4, q5, fun q => ?_, hcn⟩
  obtain ⟨ps, hp, _⟩ := Ar3.tab
  rw [q, hp] at q2; cases q2; cases q3
 refine Ef.rebase (s := ({ s with heap := h4, toks := tk4 } : Shared)) TC.out G S4 Rm Ar4 H (TT.step (tk := tk4) wAll eM) (TE.step (tk := tk4) wAll eM) fun base' eb b112 up => ?_
 have inB : ∀ b o, b ∈ [T, dx, F, cA, cO] -> h'.get? b = some o -> base'.get? b = some o := fun b o hb eo => up b o (to4 b o (apart b (fr2 b hb)) eo) (ne112 b (fr2 b hb)) (apart b (fr2 b hb))
 refine r base' L T dx F cA cO eb b112 ⟨inB _ _ (by simp) tape.inst, ?_, ⟨doc', pm', cv, ct, inB _ _ (by simp) hF, ?_⟩, IsCell.keep tape.cellA fun o eo => inB _ _ (by simp) eo, ?_⟩
 ·obtain ⟨tkv, v, tkr, hd⟩ := tape.dict
  exact ⟨tkv, v, tkr, inB _ _ (by simp) hd⟩
 ·obtain ⟨c, oc, vs, t, q1, q2, q3, q4, q5, q6, q7⟩ := cc
  exact ⟨c, oc, vs, t, q1, up c oc q2 q6 q7, q3, q4, q5⟩
 ·obtain ⟨t, hc⟩ := tape.cellO
  exact ⟨t, IsCell.keep hc fun o eo => inB _ _ (by simp) eo⟩
end
end
section
open PySem.W Builtin
noncomputable abbrev eB (l : List UInt8) : D := .bytes l.toArray
section
theorem typ_bytes {b : Array UInt8} (s : Shared) (X : List Addr) (v : Value) (a : At X s.heap v (.bytes b)) : ∃ T id, s.TypeIs v T /\ typeLookup (.type T) "__getitem__" = pure (some (.builtin id)) := by
 obtain ⟨t, rfl⟩ := a.bytes_
 exact ⟨"bytes", _, typeIs_bytes _ _ _, FB.slot_bytes_getitem.lookup⟩
theorem picked_run (l : List UInt8) {a b : Nat} (ha : a <= l.length) (hab : a <= b) : W.KBy.picked l.toArray (some a) (some b) = ((l.drop a).take (b - a)).toArray := by
 rw [W.KBc.picked_eq]
 have e1 : clipAt l.toArray.size (a : Int) = min a l.toArray.size := clipAt_nat _ _
 have e2 : clipAt l.toArray.size (b : Int) = min b l.toArray.size := clipAt_nat _ _
 show ((l.drop (clipAt l.toArray.size (a : Int))).take (clipAt l.toArray.size (b : Int) - clipAt l.toArray.size (a : Int))).toArray = _
 rw [e1, e2, List.size_toArray, Nat.min_eq_left ha]
 congr 1
 by_cases hb : b <= l.length
 ·rw [Nat.min_eq_left hb]
 ·rw [Nat.min_eq_right (by lia), List.take_of_length_le (by simp), List.take_of_length_le (by simp; lia)]
theorem item_bytesRun {l : List UInt8} {a b : Nat} (ha : a <= l.length) (hab : a <= b) (hsz : l.length <= 100000) : Item pg w ba q k (eB l) (.slice (some a) (some b) .none) (eB ((l.drop a).take (b - a))) := ⟨typ_bytes, by
 intro s X v_1 v_2 o a_1 a_2 A Q E R hQ
 obtain ⟨t, rfl⟩ := a_1.bytes_
 obtain ⟨r, vl, vu, vst, rfl, hs, p1, p2, p3⟩ := a_2.slice_
 cases p3
 refine getItem_meets (typeIs_bytes _ _ _) (by decide) FB.slot_bytes_getitem FB.entry_bytes_getitem (FB.args_bytes_getitem_2 _ _) (W.KBc.meets_slice2 l.toArray t _ p1 p2) ⟨hs, ?_, fun t' k => ?_⟩
 ·refine Nat.le_trans (W.KBc.size_picked_le _ _ _) ?_
  rw [List.size_toArray]; exact sizeOk hsz
 ·rw [picked_run l ha hab]
  exact hQ _ s.heap _ (Ext.refl _) (.bytes _ _)⟩
theorem item_bytesAt {l : List UInt8} {x : UInt8} (hx : l[i]? = some x) (hsz : l.length <= 100000) : Item pg w ba q k (eB l) (.int i) (.int x.toNat) := ⟨typ_bytes, by
 intro s X v_1 v_2 o a_1 a_2 A Q E R hQ
 obtain ⟨t, rfl⟩ := a_1.bytes_
 obtain ⟨ti, rfl⟩ := a_2.int_
 obtain ⟨hi, hv⟩ := List.getElem?_eq_some_iff.1 hx
 have hr : Bytes.fitsIndex (i : Int) = true := by
  have h1 : (i : Int) < 100000 := by lia
  simp only [Bytes.fitsIndex, Bool.and_eq_true, decide_eq_true_eq]
  constructor <;> lia
 have key : ∀ (f : Int) (hf : f = (i : Int)), wpAny (model pg w) A (getItem (.bytes l.toArray t) (.int f ti)) Q E s := fun f hf => by
  have hr' : Bytes.fitsIndex f = true := by rw [hf]; exact hr
  refine getItem_gives (typeIs_bytes s _ t) (by decide) FB.slot_bytes_getitem FB.entry_bytes_getitem (FB.args_bytes_getitem_2 _ _) (gives_bytes_getitem _ f t ti x hr' ?_) ?_
  ·have h1 : ¬ (f < 0) := by lia
   have h2 : f.toNat = i := by lia
   have e : seqIndex? f l.toArray.size = some i := by
    have h3 : f < (l.length : Int) := by lia
    have h4 : 0 <= f := by lia
    simp [seqIndex?, h1, h2, h3, h4]
   rw [e]; simp [hx]
  ·exact hQ _ s.heap _ (Ext.refl _) (.int _ _)
 exact key _ rfl⟩
end
end
section
open PySem.W
section
theorem setItem_listU {l : Addr} {items : Array Value} {k : Int} {t : Tok} {Q : Unit -> Shared -> Prop} (hl : s.heap.IsList l items)
  (h0 : 0 <= k) (hfit : k < 2 ^ 63) (hn : k < items.size)
  (hQ : Q () { s with heap := s.heap.update l (Obj.mapSeq (·.setIfInBounds k.toNat v)) }) :
  wpAny (model pg w) A (setItem (.ref l) (.int k t) v) Q E s := by
 obtain ⟨o, ho, hc, ne, hd⟩ := id hl
 unfold setItem
 try with_reducible refine wpAny_holding ?_
 first | refine jB (jP ?_) | skip
 refine jB (wpAny_sequenceKey hl.typeIs (by decide) ?_)
 refine jB (wpAny_callSpecial?_slot (name := Str.ofString "__setitem__") hl.typeIs slot_list_setitem
  (wpAny_call_entry slot_list_setitem hl.typeIs entry_list_setitem ?_ (args_list_setitem _ _ _)))
 show wpAny _ _ (Builtin.List.listSubscript? (.int k t) >>= _) _ _ s
 refine jB (wpAny_listSubscript_int (fitsIndex_of h0 hfit) ?_)
 clear hfit
 obtain ⟨j, rfl⟩ := Int.eq_ofNat_of_zero_le h0
 have hj : j < items.size := by lia
 have hx' : items[j]? = some items[j] := Array.getElem?_eq_getElem hj
 show wpAny _ _ ((seqItemAt l j >>= fun r => pure (r.map (j, ·))) >>= _) _ _ s
 refine jB (jB (wpAny_seqItemAt ho hd (jP ?_)))
 rw [hx']
 show wpAny _ _ (setSeqItemAt l j v >>= _) _ _ s
 refine jB (wpAny_setSeqItemAt ho hd ?_)
 first
  | exact jB (jP (jP ⟨.none, rfl, jP hQ⟩))
  | exact jP ⟨.none, rfl, jP hQ⟩
end
section
variable {Cc T dx F cA cO L : Addr}
theorem Gl.hide (g : Gl ba mg mb) (hz : ∀ z ∈ Z, ∀ o, ba.get? z = some o -> ∀ es ep, o.data ≠ .dict es ep) : Gl (hideAll ba Z) mg mb := by
 have ns : ∀ {a m}, ba.Ns a m -> (hideAll ba Z).Ns a m := fun ⟨o, es, ep, e, hd, r⟩ => ⟨o, es, ep, hideAll_get _ e fun hm => hz _ hm o e es ep hd, hd, r⟩
 exact ⟨ns g.g, ns g.b, let ⟨mc, a, r⟩ := g.nolimit; ⟨mc, ns a, r⟩⟩
theorem evRun {Q : VP} (G : EnvG sc U) (S : St ba B U Γ M s.heap) (R : Room q k A) (h : Ev pg w ba q k sc Γ e d)
  (hQ : ∀ v h' tk, Ext s.heap h' -> At (B ++ own U M) h' v d -> Q v { s with heap := h', toks := tk }) : wpAny (model pg w) A (eval e U) Q E s := (h U s B M G S).bind R hQ
theorem ats_int {i : Int} (a : Ats X h vs [.int i]) : ∃ t, vs = [.int i t] := by
 obtain ⟨v, rfl, av⟩ := a.one_
 obtain ⟨t, rfl⟩ := av.int_
 exact ⟨t, rfl⟩
theorem read_fun (CX : Cx ba mg mb) {oct : List UInt8} (tape : Tape w ba Cc T dx F cA cO L oct.toArray) {p : Nat} (hp : p <= oct.length) (hsz : oct.length <= 100000) :
  FunX pg w ba 1 (fun vs => PySem.call (.ref F) vs) [.int n] [(L, [.int p])] (fun d M' => d = eB ((oct.drop p).take n) /\ M' = [(L, [.int (p + ((oct.drop p).take n).length : Nat)])]) (fun zz zz zz => False) := by
 intro s X vs A Q E Rm ok Ar mok as hQ hE
 obtain ⟨v, rfl, av⟩ := as.one_
 obtain ⟨tn, rfl⟩ := av.int_
 obtain ⟨doc, pm, cv, ct, hF, hcq⟩ := tape.fn
 have kp := ok.keep
 refine wpAny_call (codeAny_call_def (fd := fnX (fnName nestSt) Q0 (fnParams nestSt) (fnBody nestSt) (fnScope nestSt) (closT cO cA) .none .none doc pm none cv ct) (body := fnBody nestSt) (binds := [(N "count", .int n tn)])
  (by have := Rm.depth; lia) (kp _ _ hF) rfl (CX.L.nolimit.keeps kp) (hcq.rec_.keeps kp) rfl (BindsTo.of_eq rfl) (show ∀ x ∈ (fnScope nestSt).names, x.2 ≠ .cell by decide +kernel) (fun x hx => by
   have hx : x = (N "count", .int n tn) := by simpa using hx
   rw [hx]; exact (by kernel_rfl : (fnScope nestSt).names.lookup (N "count") = some .local)) (fun h_0 hns hk => ?_))
 conv in (execs _ _) => arg 1; whnf
 generalize henv : callEnv _ _ _ = U at *
 have hloc : U.locals = s.heap.objs.size := by rw [<- henv]; rfl
 have hsc : U.scope = fnScope nestSt := by rw [<- henv]; rfl
 have hcells : U.cells = closT cO cA := by rw [<- henv]; rfl
 rw [<- hloc] at hns
 have G : EnvG (fnScope nestSt) U := ⟨hsc, by kernel_rfl, by rw [<- henv]; rfl, by rw [<- henv]; rfl, fun x hx => by
  have key : ∀ p ∈ (fnScope nestSt).names, (p.2 = .cell \/ p.2 = .free) -> p.1 = N "octets" \/ p.1 = N "at" := by decide +kernel
  have : x = N "octets" \/ x = N "at" := by
   rcases hx with hx | hx
   ·exact key _ (mem_of_lookup hx) (.inl rfl)
   ·exact key _ (mem_of_lookup hx) (.inr rfl)
  rw [hcells]
  rcases this with rfl | rfl <;> rfl⟩
 obtain ⟨tO, oO, hoO, hdO⟩ := tape.cellO
 obtain ⟨oA, hoA, hdA⟩ := tape.cellA
 have hOA : cO ≠ cA := fun q => by rw [q, hoA] at hoO; cases hoO; rw [hdA] at hdO; cases hdO
 have CX2 : Cx (hideAll ba [cO, cA]) mg mb := ⟨CX.L.hide (fun z hz o e es ep d => by
  simp only [List.mem_cons, List.not_mem_nil, or_false] at hz
  rcases hz with rfl | rfl
  ·rw [hoO] at e; cases e; rw [hdO] at d; cases d
  ·rw [hoA] at e; cases e; rw [hdA] at d; cases d), CX.bt⟩
 generalize hb2 : hideAll ba [cO, cA] = base2 at *
 have e2 : Ext base2 ba := fun b o e => by rw [<- hb2] at e; exact of_hideAll _ e
 have loc0 : s.heap.get? U.locals = none := by rw [hloc]; exact fresh_none _
 have lO : s.heap.get? cO = some oO := kp _ _ hoO
 have lA : s.heap.get? cA = some oA := kp _ _ hoA
 obtain ⟨ws, m, hL, as0⟩ := (mok.lat (L, [.int p]) jC).at_
 obtain ⟨tp, hws⟩ := ats_int as0
 have hLO : L ≠ cO := fun q => by rw [q, lO] at hL; cases hL; cases hdO
 have hLA : L ≠ cA := fun q => by rw [q, lA] at hL; cases hL; cases hdA
 have hLl : L ≠ U.locals := fun q => by rw [q, loc0] at hL; cases hL
 have hOl : cO ≠ U.locals := fun q => by rw [q, loc0] at lO; cases lO
 have hAl : cA ≠ U.locals := fun q => by rw [q, loc0] at lA; cases lA
 have hLbase : ba.get? L = none := mok.out L (by simp)
 have S : St base2 X U [(N "count", .int n), (N "octets", eB oct), (N "at", .raw (.ref L))] [(L, [.int p])] h_0 := by
  have ownMem : ∀ a, a ∈ own U [(L, [D.int p])] -> a = U.locals \/ a = cO \/ a = cA \/ a = L := fun a ha => by
   rcases mem_own.1 ha with h | h | h
   ·exact .inl h
   ·rw [hcells] at h; simp at h; rcases h with h | h
    ·exact .inr (.inl h)
    ·exact .inr (.inr (.inl h))
   ·simp at h; exact .inr (.inr (.inr h))
  refine ⟨(e2.trans kp).trans hk, ⟨⟨_, hns⟩, fun pr hp => ?_, ?_, fun pr hp => ?_⟩, fun x d hx => ?_, fun pr hp => ?_, ?_, fun a ha => ?_, fun a ha hm => ?_, fun a ha => ?_, fun a ha => ?_⟩
  ·rw [hcells] at hp; simp at hp
   rcases hp with rfl | rfl
   ·exact ⟨_, oO, hk _ _ lO, hdO⟩
   ·exact ⟨_, oA, hk _ _ lA, hdA⟩
  ·rw [hcells]; simp; exact hOA
  ·rw [hcells] at hp; simp at hp
   rcases hp with rfl | rfl
   ·exact hOl
   ·exact hAl
  ·rw [List.lookup_cons] at hx
   cases hx1 : x == N "count" with
   | true =>
    rw [hx1] at hx; cases hx
    rw [beq_iff_eq.1 hx1]
    exact ⟨.int n tn, .inl ⟨by rw [Env.kindOf, hsc]; decide +kernel, _, hns, rfl⟩, .int _ _⟩
   | false =>
    rw [hx1] at hx
    simp only [List.lookup_cons] at hx
    cases hx2 : x == N "octets" with
    | true =>
     rw [hx2] at hx; cases hx
     rw [beq_iff_eq.1 hx2]
     exact ⟨.bytes oct.toArray tO, .inr ⟨.inr (by rw [Env.kindOf, hsc]; decide +kernel), cO, by rw [hcells]; rfl, oO, hk _ _ lO, hdO⟩, .bytes _ _⟩
    | false =>
     rw [hx2] at hx
     simp only [List.lookup_cons] at hx
     cases hx3 : x == N "at" with
     | true =>
      rw [hx3] at hx; cases hx
      rw [beq_iff_eq.1 hx3]
      exact ⟨.ref L, .inr ⟨.inr (by rw [Env.kindOf, hsc]; decide +kernel), cA, by rw [hcells]; rfl, oA, hk _ _ lA, hdA⟩, .raw _⟩
     | false => rw [hx3] at hx; cases hx
  ·rw [jS.1 hp]
   exact ⟨ws, m, hk _ _ hL, by rw [hws]; exact .cons (.int _ _) .nil⟩
  ·simp
  ·simp at ha
   rw [ha, hcells]
   exact ⟨hLl, by simp; exact ⟨hLO, hLA⟩⟩
  ·obtain ⟨o, x⟩ := ok.live a ha
   rcases ownMem a hm with h | h | h | h
   ·rw [h, loc0] at x; cases x
   ·have := ok.out a ha; rw [h, hoO] at this; cases this
   ·have := ok.out a ha; rw [h, hoA] at this; cases this
   ·exact mok.dis L (by simp) (h ▸ ha)
  ·obtain ⟨o, x⟩ := ok.live a ha
   exact ⟨o, hk _ _ x⟩
  ·rcases jA.1 ha with h | h
   ·exact none_of_ext e2 (ok.out a h)
   ·rcases ownMem a h with h | h | h | h
    ·rw [h]; exact none_of_ext e2 (none_of_ext kp loc0)
    ·rw [h, <- hb2]; exact hideAll_none _ (by simp)
    ·rw [h, <- hb2]; exact hideAll_none _ (by simp)
    ·rw [h]; exact none_of_ext e2 hLbase
 have Rm1 : Room true 0 (A.deeper U) := Rm.deeper U
 refine wpAny_execs_cons (wpAny_Assign_Name ?_ (by rfl))
 have Sf := S.freeze (x := N "at") rfl
 have hmin : p + n <= p + n := Nat.le_refl _
 refine evRun (d := eB ((oct.drop p).take (p + n - p))) G Sf Rm1 (Ev.sub (d_1 := eB oct) (d_2 := .slice (some (p : Int)) (some ((p + n : Nat) : Int)) none) (Ev.var (look_there (by kernel_rfl) (look_there (by kernel_rfl) look_here)) (by kernel_rfl)) (Ev.slice (EvO.some (Ev.item (ds := [.int p]) (i := 0) (Ev.var look_here (by kernel_rfl)) Ev.int rfl (by simp)))
   (EvO.some (Ev.natAdd (x := p) (y := n) (Ev.item (ds := [.int p]) (i := 0) (Ev.var look_here (by kernel_rfl)) Ev.int rfl (by simp)) (Ev.var (look_there (by kernel_rfl) look_here) (by kernel_rfl)))) EvO.none) (item_bytesRun hp (by lia) hsz)) fun v g1 t1 e1 a1 => ?_
 obtain ⟨tb, rfl⟩ := a1.bytes_
 have epn : p + n - p = n := by lia
 rw [epn] at *
 generalize hpc : (oct.drop p).take n = pc at *
 have zpc : pc.length <= 100000 := by rw [<- hpc, List.length_take, List.length_drop]; lia
 have S1 := S.ext e1
 refine S1.store G (x := N "piece") (d := eB pc) (by kernel_rfl) (.bytes _ _) fun h2 tk2 S2 off2 off2' => ?_
 refine wpAny_execs_cons (wpAny_AugAssign_SubscriptAny ?_)
 refine evRun G S2 Rm1 (Ev.var (x := N "at") (d := .raw (.ref L)) (look_there (by kernel_rfl) (look_there (by kernel_rfl) (look_there (by kernel_rfl) look_here))) (by kernel_rfl)) fun v g3 t3 e3 a3 => ?_
 obtain rfl := a3.raw_
 refine evRun (d := .int 0) G (S2.ext e3) Rm1 Ev.int fun v g4 t4 e4 a4 => ?_
 obtain ⟨t0, rfl⟩ := a4.int_
 have S4 := (S2.ext e3).ext e4
 obtain ⟨ws4, m4, hL4, as4⟩ := (S4.muts (L, [.int p]) jC).at_
 obtain ⟨tp4, hws4⟩ := ats_int as4
 have hws4' : ws4 = #[.int p tp4] := by rw [<- Array.toArray_toList (xs := ws4), hws4]
 refine wpAny_getItem_list (items := ws4) (x := .int p tp4) ⟨_, hL4, rfl, _, rfl⟩ (by lia) (by decide) (by rw [hws4']; rfl) ?_
 refine evRun (d := .int (pc.length : Int)) G S4 Rm1 (Ev.callB (Ev.bn (v := .builtin "len") CX2) (EvL.cons (Ev.var (x := N "piece") look_here (by kernel_rfl)) EvL.nil (fun U => rfl)) (len_b (b := pc.toArray) (by rw [List.size_toArray]; exact sizeOk zpc)) (args1 fun U => rfl)) fun v g5 t5 e5 a5 => ?_
 obtain ⟨t6, he6⟩ := a5.int_
 rw [he6]
 refine wpAny_iadd_int ?_
 have hL5 : g5.get? L = some (listO ws4 m4) := e5 _ _ hL4
 refine setItem_listU (items := ws4) ⟨_, hL5, rfl, _, rfl⟩ (by lia) (by decide) (by rw [hws4']; simp) ?_
 dsimp only
 have hlen : (p : Int) + (pc.length : Int) = ((p + pc.length : Nat) : Int) := by lia
 rw [hlen]
 generalize hnew : (Value.int ((p + pc.length : Nat) : Int) t5) = new at *
 have hup := Heap.get?_update_self (Obj.mapSeq fun xs => xs.setIfInBounds (0 : Int).toNat new) hL5 rfl
 have oU : Off [L] g5 (g5.update L (Obj.mapSeq fun xs => xs.setIfInBounds (0 : Int).toNat new)) := same_off (Heap.SameBut.update ..)
 have S5 := S4.ext e5
 have hws5 : (ws4.setIfInBounds (0 : Int).toNat new).toList = [new] := by rw [hws4']; rfl
 have S6 := S5.setM (ds' := [.int ((p + pc.length : Nat) : Int)]) (vs := ws4.setIfInBounds (0 : Int).toNat new) (n := if (ws4.setIfInBounds (0 : Int).toNat new).size == ws4.size then m4 else m4 + 1) oU hup (by rw [hws5, <- hnew]; exact .cons (.int _ _) .nil)
 generalize hg6 : g5.update L (Obj.mapSeq fun xs => xs.setIfInBounds (0 : Int).toNat new) = g6 at *
 refine wpAny_execs_cons (wpAny_Return_some (evRun G S6 Rm1 (Ev.var (x := N "piece") (d := eB pc) look_here (by kernel_rfl)) fun v g7 t7 e7 a7 => ?_))
 obtain ⟨tz, rfl⟩ := a7.bytes_
 have slP : slot U (N "piece") = U.locals := by rw [slot, if_pos (by rw [Env.kindOf, hsc]; decide +kernel)]
 rw [slP] at off2'
 have hL7 := e7 _ _ hup
 refine hQ _ (eB pc) g7 _ [(L, [.int ((p + pc.length : Nat) : Int)])] ⟨rfl, rfl⟩ rfl (.bytes _ _) ⟨fun pr hp => ?_, by simp, fun a ha => mok.dis a ha, fun a ha => mok.out a ha⟩ ?_ fun b o e => ?_
 ·rw [jS.1 hp]
  exact ⟨_, _, hL7, by rw [hws5, <- hnew]; exact .cons (.int _ _) .nil⟩
 ·have w1 : OffW [L] s.heap g1 := (show Ext s.heap g1 from fun b o e => e1 _ _ (hk b o e)).offW
  have w2 : OffW [U.locals] g1 h2 := off2'.offW (fun b hb ob e => by rw [jS.1 hb]; exact S2.allLive _ (jA.2 (.inr (mem_own.2 (.inl rfl))))) fun b hb ob e => notTab_own S1 (by rw [jS.1 hb]; exact mem_own.2 (.inl rfl)) e
  have w6 : OffW [L] g5 g6 := oU.offW (fun b hb ob e => by rw [jS.1 hb]; exact ⟨_, hup⟩) fun b hb ob e => by rw [jS.1 hb, hL5] at e; cases e; exact notTab_list _ _
  exact (((w1.then w2 fun y hy => .inr (by rw [jS.1 hy]; exact loc0)).trans ((e3.trans e4).trans e5).offW).trans w6).trans e7.offW
 ·have hbl : b ≠ U.locals := fun q => by have := kp _ _ e; rw [q, loc0] at this; cases this
  have hbL : b ≠ L := fun q => by rw [q, hLbase] at e; cases e
  exact e7 _ _ (oU _ _ (fun hm => hbL (jS.1 hm)) (e5 _ _ (e4 _ _ (e3 _ _ (off2' _ _ (fun hm => hbl (jS.1 hm)) (e1 _ _ (hk _ _ (kp _ _ e))))))))
end
end
section
open PySem.W
section
variable {K : Frag} {Cc fI T dx F : Addr}
theorem getMethod_tape (X : K.In s.heap) (EX : ExK K Cc fI) {od : Obj} (I : InstAt s.heap T (instObj Cc dx) Cc (some od)) (hl : lookIn (N "read") od = some (some (.ref F))) {pl : Sem Bool} {Q : Value × List Value -> Shared -> Prop}
  (h : ∀ tk, Q (.ref F, []) { s with toks := tk }) : wpAny (model pg w) A (getMethod (.ref T) (N "read") pl) Q E s := by
 obtain ⟨cd, hc, hd⟩ := any_some EX.hd
 have hf : findObj K Cc (some od) (N "read") = some (.value (.ref F)) := by
  unfold findObj
  rw [hc, Option.bind_some, EX.rd, Option.bind_some]
  have ho : W.ownOf cd (some od) (N "read") = some (some (.ref F)) := by unfold W.ownOf; rw [if_pos hd]; exact hl
  simp only [Option.bind_some, ho]
 have use : wpAny (model pg w) A (getAttr (.ref T) (N "read")) (fun v s' => Q (v, []) s') E s := get_value X I EX.ga hf rfl (h _)
 have t1 : Looks (model pg w) s.heap (specialOf (.ref T) "__getattribute__") (some (.builtin "object.__getattribute__")) := I.type.andThen (looks_findIn X EX.ga)
 have t2 : Looks (model pg w) s.heap (specialOf (.ref T) "__getattr__") none := I.type.andThen (looks_findIn X EX.gx)
 have t3 : Looks (model pg w) s.heap (specialOf (.ref T) (N "read")) none := I.type.andThen (looks_findIn X EX.rd)
 unfold getMethod
 refine jB (t1.here ?_)
 dsimp only
 rw [if_neg (by decide +kernel)]
 refine jB (t2.here ?_)
 simp only [Option.isSome_none, Bool.false_eq_true, if_false]
 refine jB (t3.here ?_)
 exact jB (wpAny_mono use (fun v s' h' => jP h') fun zz zz x => x)
theorem Call_tape {o e : PySem.Expr} {name : Str} {apos : Pos} {Q : VP}
  (hbase : attributeBase o name U (eval o U) = eval o U) (hline : (apos.endLine == pos.line) = true) (htrees : backTo pos (starEach [e] U) = [(false, eval e U)])
  (h : wpAny (model pg w) A (eval o U) (fun ov s_1 => ∀ pl, wpAny (model pg w) A (getMethod ov name pl) (fun r s_2 => wpAny (model pg w) A (callWith pos r.1 r.2 [(false, eval e U)] []) Q E s_2) E s_1) E s) :
  wpAny (model pg w) A (eval (.Call (.Attribute o name apos) [e] [] pos) U) Q E s := by
 rw [arm_eval_Call, hbase]
 refine jB (wpAny_mono h (fun ov s_1 h_1 => ?_) fun zz zz e => e)
 refine jB (wpAny_standAt ?_)
 rw [htrees]
 have hform : methodCallForm ([e].length + ([] : List Keyword).length) [(false, eval e U)] (backToKw pos (keywordEach [] U)) = true := rfl
 have hpos : methodCallPos true o U apos pos = pure pos := by unfold methodCallPos; simp [hline]
 unfold methodCall
 rw [hform]
 refine jB (wpAny_holding ?_)
 unfold calleeOf
 simp only [if_true]
 refine wpAny_mono (h_1 _) (fun r s_2 h_2 => ?_) fun zz zz x => x
 exact jB (wpAny_of_eq hpos h_2)
end
section
variable {K : W.Frag} {Cc fI a31 c31 T dx F cA cO L : Addr}
theorem EvX.read (CX : Cx ba mg mb) (X : K.In ba) (EX : ExK K Cc fI) {oct : List UInt8} (tape : Tape w ba Cc T dx F cA cO L oct.toArray) {p : Nat} (hp : p <= oct.length) (hsz : oct.length <= 100000) {apos : Pos} {e : PySem.Expr} (hk : 1 <= k)
  (hx : Γ.lookup x = some (.raw (.ref T))) (hn : (x == ("__debug__" : Str) || x == ("__classdict__" : Str)) = false) (he : Ev pg w ba true k sc Γ e (.int n))
  {M_1 : Mut} (hM : M = (L, [.int p]) :: M_1) {RX : D -> Mut -> Prop} {RXE : String -> D -> Mut -> Prop} (hr : RX (eB ((oct.drop p).take n)) ((L, [.int ((p + ((oct.drop p).take n).length : Nat) : Int)]) :: M_1))
  (hbase : autoParam (∀ U, attributeBase (.Name x px) (N "read") U (eval (.Name x px) U) = eval (.Name x px) U) tA) (hline : autoParam ((apos.endLine == pos.line) = true) tA)
  (htrees : autoParam (∀ U, backTo pos (starEach [e] U) = [(false, eval e U)]) tA) : EvX pg w ba true c k sc Γ M (.Call (.Attribute (.Name x px) (N "read") apos) [e] [] pos) RX RXE := by
 subst hM
 intro U s B A Q E G S Rm Ar hQ TE
 obtain ⟨doc, pm, cv, ct, hF, hcq⟩ := tape.fn
 obtain ⟨tkv, v0, tkr, hd⟩ := tape.dict
 refine Call_tape (hbase U) hline (htrees U) (evRun G S Rm (Ev.var hx hn) fun v g1 t1 e1 a1 => ?_)
 obtain rfl := a1.raw_
 intro pl
 have kp1 := (S.ext e1).keep
 refine getMethod_tape (s := ({ s with heap := g1, toks := t1 } : Shared)) (X.keeps kp1) EX (od := dict2 w tkv v0 tkr (.ref F)) (dx := dx) (F := F) ⟨kp1 _ _ tape.inst, rfl, rfl, kp1 _ _ hd⟩ (dict2_look ..) fun tk2 => ?_
 dsimp only
 refine callWith_function (o := { cls := .type "function", data := .func (fnX (fnName nestSt) Q0 (fnParams nestSt) (fnBody nestSt) (fnScope nestSt) (closT cO cA) .none .none doc pm none cv ct) }) (fd := fnX (fnName nestSt) Q0 (fnParams nestSt) (fnBody nestSt) (fnScope nestSt) (closT cO cA) .none .none doc pm none cv ct) ?_
 refine evalArgs_plain (spliced_cons (evRun (s := ({ s with heap := g1, toks := tk2 } : Shared)) G (S.ext e1) Rm he fun v g2 t2 e2 a2 => spliced_nil ?_))
 have S2 := (S.ext e1).ext e2
 refine ⟨⟨S2.keep _ _ hF, rfl⟩, ?_⟩
 have oAll : OffW (((L, [D.int p]) :: M_1).map (·.1)) s.heap g2 := (e1.trans e2).offW
 have Ar2 : Arr A (B ++ own U ([(L, [.int p])] ++ M_1)) g2 := Ar.step S S2 (offW_own oAll)
 have S2' : St ba B U Γ ([(L, [.int p])] ++ M_1) g2 := S2
 refine (read_fun CX tape hp hsz (n := n)) _ (handX B U M_1) _ A _ _ (Rm.mono hk) S2'.handOk (Ar2.mono (fun y hy => handX_iff.2 hy) fun y hy => handX_iff.1 hy) S2'.handM (.cons (a2.sub fun y hy => handX_iff.1 hy) .nil) (fun v d h' tk M0' hR hm' av mo o3 kp => ?_) fun x Xc tv d Z h' tk M0' hR => hR.elim
 obtain ⟨rfl, rfl⟩ := hR
 have S3 : St ba B U Γ ([(L, [.int ((p + ((oct.drop p).take n).length : Nat) : Int)])] ++ M_1) h' := by
  have := S2'.handBack (Z := []) hm' (by simpa using mo) o3 kp (fun z hz => nomatch hz)
  simpa using this
 refine hQ v _ h' tk ([(L, [.int ((p + ((oct.drop p).take n).length : Nat) : Int)])] ++ M_1) rfl (av.sub fun y hy => ?_) S3 (oAll.trans (o3.mono fun y hy => by
  have hy : y = L := by simpa using hy
  rw [hy]; simp)) hr
 exact handX_iff.2 hy
end
end
section
open PyProof.Rows
section
variable {K : W.Frag} {Cc fI T dx F cA cO L : Addr}
theorem Ef1.raise {cls newId initId : String} (Fc : ExcCallFacts cls newId initId) (Gc : ExcRaiseFacts cls) {np cpos : Pos} (hx : ∀ {Γ}, Ev pg w ba true k sc Γ (.Name x np) (.raw (.type cls))) (he : Ev pg w ba true k sc Γ e d) (hr : RE cls (.tuple [d]) Γ M)
  (htrees : autoParam (∀ U, backTo cpos (starEach [e] U) = [(false, eval e U)]) tA) : Ef1 pg w ba true c k sc Γ M (.Raise (some (.Call (.Name x np) [e] [] cpos)) none pos) R RE := by
 intro U s B A Q E G S Rm Ar H TT TE
 refine wpAny_Raise_call Fc Gc (Rm.hd rfl) (args_plain (args1 htrees) U) (evRun G S Rm hx fun v g t e1 a => ?_)
 obtain rfl := a.raw_
 refine ⟨rfl, args_eval (args1 htrees) (EvL.cons he EvL.nil (fun U => htrees U)) G (S.ext e1) Rm fun vs g' t' e2 as => ⟨rfl, ?_, fun h' ex mk => ?_⟩⟩
 ·rw [as.length]; exact sizeOk (by simp)
 ·have S2 := (S.ext e1).ext e2
  obtain ⟨t0, he0, htn, ht⟩ := mk.there
  have hte : t0 ≠ ex := fun q => by rw [q, he0] at ht; cases ht
  exact ThenE.fire (q := true) (fun zz => rfl) (s := ({ s with heap := g', toks := t' } : Shared)) (TE.step (tk := t') (e1.trans e2).offW (Grow.refl _ _)) S2 ⟨mk.keeps, mk.new, t0, _, he0, fun zz => rfl, htn, ht, hte⟩ as hr
noncomputable abbrev tapeM (L : Addr) (p : Nat) : Mut := [(L, [.int (p : Int)])]
noncomputable abbrev uintWords : Str := N "not enough data in stream to read uint1"
theorem posOk_4 : posOk (stmtAt 4) [N "f"] := posOk1 fun zz zz zz zz => rfl
theorem uint_body (CX : Cx ba mg mb) (X : K.In ba) (EX : ExK K Cc fI) {oct : List UInt8} (tape : Tape w ba Cc T dx F cA cO L oct.toArray) {p : Nat} (hp : p <= oct.length) (hsz : oct.length <= 100000) :
  Ef pg w ba true true 1 (fnScope (stmtAt 4)) [(N "f", .raw (.ref T))] (tapeM L p) (fnBody (stmtAt 4))
   (fun o zz M' => ∃ (d : D) (M_1 : Mut), o = .ret d /\ M_1.Sublist M' /\ M_1.map (·.1) = (tapeM L p).map (·.1) /\ (∃ x, oct[p]? = some x /\ d = eN x.toNat /\ M_1 = tapeM L (p + 1)))
   (fun X d zz M' => ∃ M_1 : Mut, M_1.Sublist M' /\ M_1.map (·.1) = (tapeM L p).map (·.1) /\ (X = "ValueError" /\ oct[p]? = none /\ d = .tuple [.str uintWords] /\ M_1 = tapeM L p)) := by
 conv => arg 10; whnf
 have hl : ((oct.drop p).take 1).length <= 1 := by rw [List.length_take]; lia
 refine Ef.seq (P := fun Γ' M' => Γ' = [(N "data", eB ((oct.drop p).take 1)), (N "f", .raw (.ref T))] /\ M' = tapeM L (p + ((oct.drop p).take 1).length))
  (Ef1.assign (RX := fun d M' => d = eB ((oct.drop p).take 1) /\ M' = tapeM L (p + ((oct.drop p).take 1).length)) (RXE := fun zz zz zz => False)
   (EvX.read CX X EX tape hp hsz (n := 1) (by lia) look_here (by kernel_rfl) (Ev.nat (n := 1) rfl) (M_1 := []) rfl ⟨rfl, rfl⟩) (by kernel_rfl) (fun d M' h => ⟨rfl, by rw [h.1], h.2⟩) (fun zz zz zz h => h.elim)) fun Γ' M' ⟨e1, e2⟩ => ?_
 subst e1 e2
 cases hx : oct[p]? with
 | some x =>
  have e1 : (oct.drop p).take 1 = [x] := by
   obtain ⟨hlt, hv⟩ := List.getElem?_eq_some_iff.1 hx
   rw [List.drop_eq_getElem_cons hlt, hv]; rfl
  rw [e1]
  refine Ef.cons (R1 := fun o Γ' M' => o = .ret (eN x.toNat) /\ M' = tapeM L (p + 1)) (RE1 := fun zz zz zz zz => False) (Ef1.lift (R0 := fun o Γ' M' => o = .ret (eN x.toNat) /\ M' = tapeM L (p + 1)) (Ex1.ife (p := true) (Tr.val (d := eB [x]) (Ev.var look_here (by kernel_rfl)) (truth_bytes (by simp; exact sizeOk (by lia)))) (fun zz => ?_) (fun h => by cases h)) (fun o Γ' M' h => ⟨h, fun a ha => by rw [h.2]; exact ha⟩)) (fun o Γ' M' ⟨h1, h2⟩ => by subst h1 h2; exact ⟨_, _, rfl, List.Sublist.refl _, rfl, x, rfl, rfl, rfl⟩) (fun zz zz zz zz h => h.elim)
  exact Ex.ret (d := eN x.toNat) (Ev.sub (d_1 := eB [x]) (d_2 := .int (0 : Nat)) (Ev.var look_here (by kernel_rfl)) (Ev.nat rfl) (item_bytesAt (i := 0) rfl (by simp))) ⟨rfl, rfl⟩
 | none =>
  have e1 : (oct.drop p).take 1 = [] := by
   rw [List.drop_eq_nil_of_le (List.getElem?_eq_none_iff.1 hx)]; rfl
  rw [e1]
  refine Ef.stm (P := fun Γ' M' => Sub [(N "data", eB []), (N "f", .raw (.ref T))] Γ' /\ M' = tapeM L p) (Ex1.ife (p := false) (Tr.val (d := eB []) (Ev.var look_here (by kernel_rfl)) (truth_bytes (by simp [sizeLine_eq]))) (fun h => by cases h) (fun zz => Ex.nil ⟨rfl, fun x d h => h, rfl⟩)) (fun Γ' M' h a ha => by rw [h.2]; exact ha) fun Γ' M' ⟨h1, h2⟩ => ?_
  subst h2
  exact Ef.one (Ef1.raise PySem.F.excCall_ValueError PySem.F.excRaise_ValueError (fun {Γ} => Ev.bn (v := .type "ValueError") CX) (d := .str uintWords) Ev.str ⟨_, List.Sublist.refl _, rfl, rfl, rfl, rfl, rfl⟩)
end
end
section
open PyProof.Rows
section
variable {K : W.Frag} {Cc fI T dx F cA cO L : Addr}
theorem Tr.as {b b' : Bool} (h : b = b') (t : Tr pg w ba q k sc Γ e b) : Tr pg w ba q k sc Γ e b' := h ▸ t
theorem Ex1.assert {t : Expr} (ht : Tr pg w ba q k sc Γ t true) (hr : R .next Γ M) : Ex1 pg w ba q k sc Γ M (.Assert t none pos) R := by
 intro U s B A Q E G S Rm T
 refine wpAny_Assert_holds (ht U s B M A _ E G S Rm fun h' tk e => ⟨rfl, ?_⟩)
 exact T .next .next h' tk Γ M trivial (S.ext e) e.off (Grow.refl _ _) hr
theorem uint_fun (CX : Cx ba mg mb) (X : K.In ba) (EX : ExK K Cc fI) {a4 : Addr} (h4 : FnG ba mg (stmtAt 4) a4) {oct : List UInt8} (tape : Tape w ba Cc T dx F cA cO L oct.toArray) {p : Nat} (hp : p <= oct.length) (hsz : oct.length <= 100000) :
  FunX pg w ba 2 (fun vs => PySem.call (.ref a4) vs) [.raw (.ref T)] (tapeM L p) (fun d M' => ∃ x, oct[p]? = some x /\ d = eN x.toNat /\ M' = tapeM L (p + 1)) (fun X d M' => X = "ValueError" /\ oct[p]? = none /\ d = .tuple [.str uintWords] /\ M' = tapeM L p) :=
 fnX_of_body CX h4 (by kernel_rfl) posOk_4 rfl (uint_body CX X EX tape hp hsz)
theorem posOk_5 : posOk (stmtAt 5) [N "f"] := posOk1 fun zz zz zz zz => rfl
theorem bytes_body (CX : Cx ba mg mb) (X : K.In ba) (EX : ExK K Cc fI) {a4 : Addr} (h4 : FnG ba mg (stmtAt 4) a4) {oct : List UInt8} (tape : Tape w ba Cc T dx F cA cO L oct.toArray) {p : Nat} (hp : p <= oct.length) (hsz : oct.length <= 100000) (hfit : ∀ x, oct[p]? = some x -> p + 1 + x.toNat <= oct.length) :
  Ef pg w ba true true 2 (fnScope (stmtAt 5)) [(N "f", .raw (.ref T))] (tapeM L p) (fnBody (stmtAt 5))
   (fun o zz M' => ∃ (d : D) (M_1 : Mut), o = .ret d /\ M_1.Sublist M' /\ M_1.map (·.1) = (tapeM L p).map (·.1) /\ (∃ x, oct[p]? = some x /\ d = eB ((oct.drop (p + 1)).take x.toNat) /\ M_1 = tapeM L (p + 1 + x.toNat)))
   (fun X d zz M' => ∃ M_1 : Mut, M_1.Sublist M' /\ M_1.map (·.1) = (tapeM L p).map (·.1) /\ (X = "ValueError" /\ oct[p]? = none /\ d = .tuple [.str uintWords] /\ M_1 = tapeM L p)) := by
 conv => arg 10; whnf
 refine Ef.cons (R1 := fun o Γ' M' => o = .next /\ ∃ x, oct[p]? = some x /\ Γ' = [(N "n", eN x.toNat), (N "f", .raw (.ref T))] /\ M' = tapeM L (p + 1)) (RE1 := fun X d Γ' M' => X = "ValueError" /\ oct[p]? = none /\ d = .tuple [.str uintWords] /\ M' = tapeM L p)
  (Ef1.assign (RX := fun d M' => ∃ x, oct[p]? = some x /\ d = eN x.toNat /\ M' = tapeM L (p + 1)) (RXE := fun X d M' => X = "ValueError" /\ oct[p]? = none /\ d = .tuple [.str uintWords] /\ M' = tapeM L p)
   (EvX.callG CX h4 (uint_fun CX X EX h4 tape hp hsz) (M_1 := []) (EvL.cons (by walk_at "v") EvL.nil) (by simp) (fun d M' ⟨x, h1, h2, h3⟩ => ⟨x, h1, h2, by rw [h3]; rfl⟩) (fun X d M' ⟨h0, h1, h2, h3⟩ => ⟨h0, h1, h2, by rw [h3]; rfl⟩) (args1 fun U => rfl))
   (by kernel_rfl) (fun d M' ⟨x, h1, h2, h3⟩ => ⟨rfl, x, h1, by rw [h2], h3⟩) (fun X d M' h => h)) ?_ (fun X d Γ' M' ⟨h0, h1, h2, h3⟩ => ⟨M', List.Sublist.refl _, by rw [h3], h0, h1, h2, h3⟩)
 rintro o Γ' M' ⟨rfl, x, hx, rfl, rfl⟩
 have hf := hfit x hx
 have hl : ((oct.drop (p + 1)).take x.toNat).length = x.toNat := by rw [List.length_take, List.length_drop]; lia
 refine Ef.stm (P := fun Γ' M' => Γ' = [(N "n", eN x.toNat), (N "f", .raw (.ref T))] /\ M' = tapeM L (p + 1)) (Ex1.assert ?_ ⟨rfl, rfl, rfl⟩) (fun Γ' M' h a ha => by rw [h.2]; exact ha) fun Γ' M' ⟨h1, h2⟩ => ?_
 ·exact Tr.as (b := decide ((0 : Int) <= (x.toNat : Int))) (decide_eq_true (by lia)) (Tr.cmp (d_1 := eN x.toNat) (d_2 := .int 0) (by walk_at "v") Ev.int ge_ii rfl)
 subst h1 h2
 refine Ef.seq (P := fun Γ' M' => Γ' = [(N "data", eB ((oct.drop (p + 1)).take x.toNat)), (N "n", eN x.toNat), (N "f", .raw (.ref T))] /\ M' = tapeM L (p + 1 + x.toNat))
  (Ef1.assign (RX := fun d M' => d = eB ((oct.drop (p + 1)).take x.toNat) /\ M' = tapeM L (p + 1 + x.toNat)) (RXE := fun zz zz zz => False)
   (EvX.read CX X EX tape (p := p + 1) (n := x.toNat) (by lia) hsz (by lia) (by walk_at "v") (by kernel_rfl) (by walk_at "v") (M_1 := []) rfl ⟨rfl, by rw [hl]⟩) (by kernel_rfl) (fun d M' h => ⟨rfl, by rw [h.1], h.2⟩) (fun zz zz zz h => h.elim)) fun Γ' M' ⟨e1, e2⟩ => ?_
 subst e1 e2
 generalize hpc : (oct.drop (p + 1)).take x.toNat = pc at *
 refine Ef.cons (R1 := fun o Γ' M' => o = .ret (eB pc) /\ M' = tapeM L (p + 1 + x.toNat)) (RE1 := fun zz zz zz zz => False) (Ef1.lift (R0 := fun o Γ' M' => o = .ret (eB pc) /\ M' = tapeM L (p + 1 + x.toNat)) (Ex1.ife (p := true) ?_ (fun zz => Ex.ret (d := eB pc) (by walk_at "v") ⟨rfl, rfl⟩) (fun h => by cases h)) (fun o Γ' M' h => ⟨h, fun a ha => by rw [h.2]; exact ha⟩))
  (fun o Γ' M' ⟨h1, h2⟩ => by subst h1 h2; exact ⟨_, _, rfl, List.Sublist.refl _, rfl, x, hx, by rw [hpc], rfl⟩) (fun zz zz zz zz h => h.elim)
 exact Tr.as (b := decide (pc.length = x.toNat)) (decide_eq_true hl) (Tr.natEq (Ev.callB (Ev.bn (v := .builtin "len") CX) (EvL.cons (by walk_at "v") EvL.nil) (len_b (b := pc.toArray) (by rw [List.size_toArray]; exact sizeOk (by lia))) (args1 fun U => rfl)) (by walk_at "v"))
theorem bytes_fun (CX : Cx ba mg mb) (X : K.In ba) (EX : ExK K Cc fI) {a4 a5 : Addr} (h4 : FnG ba mg (stmtAt 4) a4) (h5 : FnG ba mg (stmtAt 5) a5) {oct : List UInt8} (tape : Tape w ba Cc T dx F cA cO L oct.toArray) {p : Nat} (hp : p <= oct.length) (hsz : oct.length <= 100000) (hfit : ∀ x, oct[p]? = some x -> p + 1 + x.toNat <= oct.length) :
  FunX pg w ba 3 (fun vs => PySem.call (.ref a5) vs) [.raw (.ref T)] (tapeM L p) (fun d M' => ∃ x, oct[p]? = some x /\ d = eB ((oct.drop (p + 1)).take x.toNat) /\ M' = tapeM L (p + 1 + x.toNat)) (fun X d M' => X = "ValueError" /\ oct[p]? = none /\ d = .tuple [.str uintWords] /\ M' = tapeM L p) :=
 fnX_of_body CX h5 (by kernel_rfl) posOk_5 rfl (bytes_body CX X EX h4 tape hp hsz hfit)
end
end
section
open PySem.W PyProof.Rows
noncomputable def octs (ns : List Nat) : List UInt8 := ns.map fun n => n.toUInt8
theorem octs_length (ns : List Nat) : (octs ns).length = ns.length := by simp [octs]
section
theorem ints_of {ns : List Nat} (as : Ats X h vs (ns.map eN)) : IntsAre vs (ns.map fun n : Nat => (n : Int)) := by
 induction ns generalizing vs with
 | nil => rw [as.nil_]; exact .nil
 | cons n ns ih =>
  obtain ⟨v, ws, rfl, a, r⟩ := as.cons_
  obtain ⟨t, rfl⟩ := a.int_
  exact .cons _ t (ih r)
theorem byteArr_octs (ns : List Nat) : byteArr (ns.map fun n : Nat => (n : Int)) = (octs ns).toArray := by
 unfold byteArr octs
 rw [List.map_map]; rfl
theorem bytes_l {ns : List Nat} (hr : ∀ n ∈ ns, n < 256) (hz : ns.length <= 100000) : FunN pg w ba true k (fun vs => PySem.call (.type "bytes") vs) [eL ns] (eB (octs ns)) := by
 intro s X vs o as A Q E Rm hQ
 obtain ⟨v, rfl, a⟩ := as.one_
 obtain ⟨l, ws, n, rfl, _, e, as'⟩ := a.list_
 have hz' : ws.toList.length = ns.length := by have := as'.length; simpa using this
 refine call_bytes_ints (vs := ws.toList) (ns := ns.map fun n : Nat => (n : Int)) (by rw [Array.toArray_toList]; exact isList_of e) (ints_of as') (fun n hn => ?_) (by rw [hz']; exact sizeOk hz) (Rm.hd rfl) fun h' t kk hk => ?_
 ·obtain ⟨m, hm, rfl⟩ := jM.1 hn
  have := hr m hm; lia
 ·rw [byteArr_octs]
  exact hQ _ h' kk hk (.bytes _ _)
theorem isinstance_b {b : Array UInt8} : FunN pg w ba q k (fun vs => PySem.call (.builtin "isinstance") vs) [.bytes b, .raw (.type "bytes")] (.bool true) := by
 intro s X vs o as A Q E Rm hQ
 obtain ⟨v, u, rfl, a1, a2⟩ := as.two_
 obtain ⟨t, rfl⟩ := a1.bytes_
 obtain rfl := a2.raw_
 exact call_isinstance_yes (typeIs_bytes s b t) (by kernel_rfl) F.bm_sub (hQ _ s.heap s.toks (Ext.refl _) (.bool _))
end
end
section
open PySem.W
noncomputable def OctAt (b : Array UInt8) (i : Nat) (v : Value) : Prop := ∃ c u, b[i]? = some c /\ v = .int (c.toNat : Int) u
section
theorem extend_bytes {R : Result -> Shared -> Prop} (hh : A.handled = none) (x : Array UInt8) (t : Tok) (S : Addr) (res : Value) (c0 : Nat) (hS : s.heap.get? S = some { cls := .type "list", data := .seq #[] c0 })
  (hR : ∀ h' tk acc' c', (∀ b o, b ≠ S -> s.heap.get? b = some o -> h'.get? b = some o) -> h'.get? S = some { cls := .type "list", dict := none, data := .seq acc' c', slots := #[] } ->
   ItemsOf (OctAt x) acc' x.size -> R (.ok (.ret res)) { s with heap := h', toks := tk }) (hn : autoParam (x.size <= sizeLine) tA) :
  wpAny (model pg w) A.in1 (Builtin.List.listExtendWith (.ref S) (.bytes x t) res)
   (fun fin s' => match fin with | .done f => R (.ok f) s' | .again c' => c'.quiet = true /\ codeAny (model pg w) A c' R s') (fun e s' => R (.error e) s') s := by
 have hSI : S ≠ s.heap.objs.size := Nat.ne_of_lt (Heap.lt_size hS)
 have hSf : S ∉ [s.heap.objs.size] := fun hm => hSI (jS.1 hm)
 unfold Builtin.List.listExtendWith
 refine jB (wpAny_typeOf (T := "bytes") (v := .bytes x t) rfl ?_)
 have h1 : Builtin.List.listSameRef (.ref S) (.bytes x t) = false := rfl
 have h2 : (Value.type "bytes" == Value.type "list") = false := by decide
 have h3 : (Value.type "bytes" == Value.type "tuple") = false := by decide
 simp only [h1, h2, h3, Bool.or_false, Bool.false_eq_true, if_false]
 refine jB (KBw.pyIter_bytes ?_)
 refine jB (wpAny_holding ?_)
 unfold Builtin.List.listLengthHint
 refine jB (wpAny_specialOf (T := "bytes") (v := .bytes x t) rfl FB.slot_bytes_len.lookup ?_)
 wp_delta
 refine jB (wpAny_isInstance (T := "bytes") (v := .bytes x t) (b := true) rfl (by rw [isSubtype_type]; kernel_rfl) ?_)
 show wpAny _ _ (typeOf (Value.bytes x t) >>= _) _ _ _
 refine jB (wpAny_typeOf (T := "bytes") (v := .bytes x t) rfl ?_)
 refine jP ?_
 rw [if_neg (by decide)]
 refine jP ⟨plainId_quiet F.plain_extend_loop _, codeAny_extend_loopS (KBw.walks (A := A.in1) hh s.heap.objs.size x t).toS hn _ hSf _ x.size 0 _ _ _ rfl (Nat.zero_le _) ⟨_, Heap.get?_push_size _ rfl, rfl, rfl⟩ (Heap.get?_push_of_some _ hS) (ItemsOf.nil _) fun s' acc' c' hm hS' hacc => ?_⟩
 rw [Moved.eq_with hm]
 refine hR s'.heap s'.toks acc' c' (fun b ob hb e => hm.heap b ob (fun hmem => ?_) (Heap.get?_push_of_some _ e)) hS' hacc
 rcases jK.1 hmem with e' | hmem
 ·exact hb e'
 ·exact absurd (Heap.lt_size e) (by rw [jS.1 hmem]; exact Nat.lt_irrefl _)
theorem list_init_bytes {R : Result -> Shared -> Prop} (hh : A.handled = none) (x : Array UInt8) (t : Tok) (S : Addr) (hS : s.heap.get? S = some { cls := .type "list", data := .seq #[] })
  (hR : ∀ h' tk acc' c', (∀ b o, b ≠ S -> s.heap.get? b = some o -> h'.get? b = some o) -> h'.get? S = some { cls := .type "list", dict := none, data := .seq acc' c', slots := #[] } ->
   ItemsOf (OctAt x) acc' x.size -> R (.ok (.ret .none)) { s with heap := h', toks := tk }) (hn : autoParam (x.size <= sizeLine) tA) :
  wpAny (model pg w) A.in1 (Builtin.«list.__init__» ⟨[.ref S, .bytes x t], []⟩)
   (fun fin s' => match fin with | .done f => R (.ok f) s' | .again c' => c'.quiet = true /\ codeAny (model pg w) A c' R s') (fun e s' => R (.error e) s') s := by
 show wpAny _ _ (do let old <- Builtin.List.listItems (.ref S); Builtin.List.listUpdate (.ref S) (fun zz => #[]); letGo old.toList.reverse; Builtin.List.listExtendWith (.ref S) (.bytes x t) .none) _ _ s
 refine jB ?_
 unfold Builtin.List.listItems
 refine jB (wpAny_seqItems hS rfl (jP ?_))
 show wpAny _ _ (updateSeq S (fun zz => #[]) >>= fun zz => letGo (#[] : Array Value).toList.reverse >>= fun zz => Builtin.List.listExtendWith (.ref S) (.bytes x t) .none) _ _ s
 refine jB (wpAny_updateSeq hS rfl ?_)
 have hS2 := Heap.get?_update_self (Obj.mapSeq (fun zz => (#[] : Array Value))) hS rfl
 have oth : ∀ b o, b ≠ S -> s.heap.get? b = some o -> (s.heap.update S (Obj.mapSeq (fun zz => (#[] : Array Value)))).get? b = some o :=
  fun b o hb e => (Heap.get?_update_other _ _ (Ne.symm hb)).trans e
 refine jB (wpAny_letGo ?_)
 refine extend_bytes (hn := hn) hh x t S .none _ hS2 fun h' tk acc' c' hk hS' hacc => ?_
 exact hR h' tk acc' c' (fun b o hb e => hk b o hb (oth b o hb e)) hS' hacc
theorem call_list_bytes {Q : VP} (hh : A.handled = none) (x : Array UInt8) (t : Tok)
  (hQ : ∀ h' tk acc' c', (∀ b o, s.heap.get? b = some o -> h'.get? b = some o) ->
   h'.get? s.heap.objs.size = some { cls := .type "list", dict := none, data := .seq acc' c', slots := #[] } -> ItemsOf (OctAt x) acc' x.size -> Q (.ref s.heap.objs.size) { s with heap := h', toks := tk }) (hn : autoParam (x.size <= sizeLine) tA) :
  wpAny (model pg w) A (call (.type "list") [.bytes x t]) Q E s := by
 refine callType_codes (Q₁ := fun obj s_1 => obj = .ref s.heap.objs.size /\ s_1 = { s with heap := s.heap.push { cls := .type "list", data := .seq #[] } }) F.called_list (F.typeCall_list_1 _) F.entry_list_init
  (code_list_new _ ⟨rfl, rfl⟩) fun obj s_1 h_1 => ?_
 obtain ⟨rfl, rfl⟩ := h_1
 have hS : (s.heap.push { cls := .type "list", data := .seq #[] }).get? s.heap.objs.size = some { cls := .type "list", data := .seq #[] } := Heap.get?_push_size _ rfl
 refine ⟨⟨_, hS, rfl⟩, F.args_list_init_2 _ _, list_init_bytes (A := A.in1) (hn := hn) hh x t _ hS fun h' tk acc' c' hk hS' hacc => ?_⟩
 exact ⟨rfl, hQ h' tk acc' c' (fun b o e => hk b o (Nat.ne_of_lt (Heap.lt_size e)) (Heap.get?_push_of_some _ e)) hS' hacc⟩
end
section
theorem ats_octs {l : List UInt8} {acc : Array Value} (a : ItemsOf (OctAt l.toArray) acc l.toArray.size) : Ats X h acc.toList ((l.map UInt8.toNat).map eN) := by
 obtain ⟨hz, hv⟩ := a
 have go : ∀ (l : List UInt8) (vs : List Value), vs.length = l.length -> (∀ (j : Nat) (v : Value), vs[j]? = some v -> ∃ (c : UInt8) (u : Tok), l[j]? = some c /\ v = Value.int (c.toNat : Int) u) -> Ats X h vs ((l.map UInt8.toNat).map eN) := by
  intro l
  induction l with
  | nil => intro vs hl _; cases vs with
   | nil => exact .nil
   | cons v vs => cases hl
  | cons c l ih =>
   intro vs hl hv
   cases vs with
   | nil => cases hl
   | cons v vs =>
    obtain ⟨c', u, h1, rfl⟩ := hv 0 v rfl
    have h1 : c = c' := by simpa using h1
    subst h1
    exact .cons (.int _ _) (ih vs (by simpa using hl) fun j v hj => by simpa using hv (j + 1) v (by simpa using hj))
 exact go l acc.toList (by simpa using hz) fun j v hj => by
  obtain ⟨c, u, h1, h2⟩ := hv j v (by simpa using hj)
  exact ⟨c, u, by simpa using h1, h2⟩
theorem list_b {l : List UInt8} (hz : l.length <= 100000) : FunN pg w ba true k (fun vs => PySem.call (.type "list") vs) [eB l] (eL (l.map UInt8.toNat)) := by
 intro s X vs o as A Q E Rm hQ
 obtain ⟨v, rfl, a⟩ := as.one_
 obtain ⟨t, rfl⟩ := a.bytes_
 refine call_list_bytes (Rm.hd rfl) l.toArray t (fun h' tk acc' c' hk hl hi => ?_) (by rw [List.size_toArray]; exact sizeOk hz)
 exact hQ _ h' tk hk (At.list o.fresh hl (ats_octs hi))
end
end
section
section
theorem St.nameGoes {MM : Model} (S : St ba B U Γ M s.heap) (G : EnvG sc U) {n : Str} (hx : sc.names.lookup n = some .local) (hΓ : Γ.lookup n = none) {Q : Unit -> Shared -> Prop}
  (hQ : ∀ h' tk, St ba B U Γ M h' -> Off (own U M) s.heap h' -> Q () { s with heap := h', toks := tk }) : wpAny MM A (do bindName U n .none; unbindBehindTheSuite U n pos) Q E s := by
 have hk : U.scope.kind = .function := by rw [G.scope]; exact G.kind
 have hl : U.kindOf n = some .local := by rw [Env.kindOf, G.scope]; exact hx
 obtain ⟨m, hn⟩ := S.ok.ns
 refine wpAny_nameGoes_keeps hl hn (by rw [hk]; rfl) fun h' v hn' hs => ?_
 have off : Off (own U M) s.heap h' := (same_off hs).mono fun y hy => by rw [jS.1 hy]; exact mem_own_locals _ _
 have offX : Off (B ++ own U M) s.heap h' := off.mono fun y hy => jA.2 (.inr hy)
 refine hQ h' _ ⟨fun b o e => hs.extBut b o (fun e' => ?_) (S.keep b o e), ⟨⟨_, hn'⟩, fun p hp => ?_, S.ok.apart, S.ok.off⟩, fun y e hl => ?_, fun p hp => ?_, S.nod, S.dis, S.bdis, fun b hb => ?_, S.out⟩ off
 ·have := S.out b (jA.2 (.inr (e' ▸ mem_own_locals _ _))); rw [this] at e; cases e
 ·obtain ⟨ov, c⟩ := S.ok.cell p hp
  exact ⟨ov, c.sameBut hs (S.ok.off p hp)⟩
 ·obtain ⟨u, hu, au⟩ := S.var y e hl
  have hyn : y ≠ n := fun q => by rw [q, hΓ] at hl; cases hl
  refine ⟨u, ?_, au.off offX⟩
  rcases hu with ⟨hk', m', hm', e⟩ | ⟨hk', c, hc, hcell⟩
  ·exact .inl ⟨hk', _, hn', by rw [if_neg hyn, ns_unique hn hm']; exact e⟩
  ·exact .inr ⟨hk', c, hc, hcell.sameBut hs (S.ok.off _ (mem_of_lookup hc))⟩
 ·obtain ⟨vs, m', g, r⟩ := (S.muts p hp).at_
  exact ⟨vs, m', hs.extBut _ _ (fun e' => (S.dis _ (jM.2 ⟨p, hp, rfl⟩)).1 e') g, r.off offX⟩
 ·obtain ⟨o, e⟩ := S.live b hb
  exact ⟨o, hs.extBut _ _ (fun e' => S.bdis b hb (e' ▸ mem_own_locals _ _)) e⟩
end
end
section
section
theorem Ef1.tryArgs {T : String} {c_1 : Bool} (C : ExcCls T) (FX : ExcAttrFacts T) {t : Expr} {n y : Str} {py pn pa ps hpos : Pos} {R1 : Out -> Gam -> Mut -> Prop} {RE1 : String -> D -> Gam -> Mut -> Prop} (hb : Ef pg w ba q c_1 k sc Γ M body R1 RE1)
  (hn : ∀ o Γ' M', R1 o Γ' M' -> R o Γ' M') (ht : ∀ Γ', Ev pg w ba false k sc Γ' t (.raw (.type T))) (hln : sc.names.lookup n = some .local) (hy : storable sc y = true) (hny : (n == y) = false) (hnd : (n == ("__debug__" : Str) || n == ("__classdict__" : Str)) = false)
  (he : ∀ X d Γ' M', RE1 X d Γ' M' -> X = T /\ (∃ ds, d = .tuple ds) /\ Γ'.lookup n = none /\ R .next ((y, d) :: Γ') M')
  (hs : autoParam (∀ U, swapsWith (.Attribute (.Name n pn) (N "args") pa) (some (.Name y py)) ps.line U = pure false) tA) :
  Ef1 pg w ba q c k sc Γ M (.Try body [.ExceptHandler (some t) (some n) [.Assign [.Name y py] (.Attribute (.Name n pn) (N "args") pa) ps] hpos] [] [] pos) R RE := by
 intro U s B A Q E G S Rm Ar H TT TE
 refine wpAny_Try_except (hb U s B A _ _ G S Rm Ar H (fun f o h' tk Γ' M' hf S' off gr r => ?_) fun x X tv d Z h' tk Γ' M' hx ha S' o g r => ?_)
 ·have := TT f o h' tk Γ' M' hf S' off gr (hn _ _ _ r)
  cases f <;> first | exact this | exact wpAny_execs_nil this
 obtain ⟨rfl, ⟨ds, rfl⟩, hΓn, hR⟩ := he X d Γ' M' r
 have Ar' : Arr A (B ++ own U M') h' := Ar.step S S'.dropZ o
 refine note_exn H Ar' S' hx (fun b hb => o.live hb) fun h1 Z1 hx1 S1 o1 z1 z2 => ?_
 refine flight_exn S1 hx1 (by intro q; cases q) .none (.inl rfl) fun h2 hx2 S2 o2 => ?_
 have o12 : OffW (own U M) s.heap h2 := (o.then o1 fun y hy => .inr (hx.fresh y hy)).then o2 fun y hy => .inr (hx1.fresh y hy)
 obtain ⟨⟨e, oe, vs, rfl, he0, heZ, heg, hc, hd, h0t, hcl, htb⟩, hfr⟩ := id hx2
 have ha2 : At (Z1 ++ B ++ own U M') h2 tv (.tuple ds) := (ha.note o1 z2).note o2 fun z hz => .inl hz
 refine wpAny_handleBy_builtin_as (X := X) (T := X) (b := true) C.exc C.nt C.self ?_
 refine (ht Γ' U ({ s with heap := h2, toks := tk } : Shared) (Z1 ++ B) M' G S2).bind Rm.mark fun v h3 tk3 e3 a3 => ?_
 obtain rfl := a3.raw_
 refine ⟨rfl, ⟨oe, e3 _ _ heg, hc⟩, ?_⟩
 rw [if_pos rfl]
 have hx3 : Exn (some false) s.heap h3 U.frame Z1 (.ref e) X tv c_1 := by
  refine ⟨⟨e, oe, vs, rfl, he0, heZ, e3 _ _ heg, hc, hd, h0t, hcl, ?_⟩, hfr⟩
  rcases htb with ⟨q, _⟩ | ⟨T, oT, ts, f0, hTZ, i1, i2, i3, i4, i5⟩
  ·cases q
  ·exact .inr ⟨T, oT, ts, f0, hTZ, i1, i2, i3, e3 _ _ i4, i5⟩
 refine flight_exn (S2.ext e3) hx3 (by intro q; cases q) .none (.inl rfl) fun h4 hx4 S4 o4 => ?_
 have ha4 : At (Z1 ++ B ++ own U M') h4 tv (.tuple ds) := (ha2.ext e3).note o4 fun z hz => .inl hz
 have o14 : OffW (own U M) s.heap h4 := (o12.trans e3.offW).then o4 fun y hy => .inr (hfr y hy)
 obtain ⟨l, ws, m, rfl, hlX, hl4, as4⟩ := ha4.tuple_
 obtain ⟨⟨e', oe', vs', hee, he0', heZ', heg4, hc4, hd4, h0t4, hcl4, htb4⟩, hfr4⟩ := id hx4
 cases hee
 refine S4.store G (x := n) (d := .raw (.ref e)) (by rw [storable, hln]; rfl) (.raw _) fun h5 tk5 S5 off5 zz => ?_
 have he5 : h5.get? e = some oe' := off5 _ _ (fun hm => S4.bdis e (jA.2 (.inl heZ')) hm) heg4
 refine wpAny_execs_cons (wpAny_Assign_Name ?_ (hs U))
 refine PyProof.Rows.Attribute_name ?_
 refine (Ev.var (pg := pg) (w := w) (ba := ba) (q := false) (k := k) (sc := sc) (x := n) look_here hnd U ({ s with heap := h5, toks := tk5 } : Shared) (Z1 ++ B) M' G S5).bind Rm.mark fun v h6 tk6 e6 a6 => ?_
 obtain rfl := a6.raw_
 refine args_attr FX (e6 _ _ he5) hc4 hd4 h0t4 ?_
 have S6 := S5.ext e6
 have ha6 : At (Z1 ++ B ++ own U M') h6 (.ref l) (.tuple ds) := ((At.tuple hlX hl4 as4).off (off5.mono fun y hy => jA.2 (.inr hy))).ext e6
 refine St.store (s := ({ s with heap := h6, toks := tk6 + 1 } : Shared)) S6 G (x := y) (d := .tuple ds) hy ha6 fun h7 tk7 S7 off7 zz => ?_
 refine wpAny_execs_nil ?_
 have S7' : St ba (Z1 ++ B) U ((y, .tuple ds) :: Γ') M' h7 := S7.sub fun x d hx => by
  rw [List.lookup_cons] at hx ⊢
  cases hxy : x == y with
  | true => rw [hxy] at hx; exact hx
  | false =>
   rw [hxy] at hx
   show ((n, _) :: Γ').lookup x = some d
   rw [List.lookup_cons]
   cases hxn : x == n with
   | true => rw [beq_iff_eq.1 hxn, hΓn] at hx; cases hx
   | false => exact hx
 refine St.nameGoes (s := ({ s with heap := h7, toks := tk7 } : Shared)) S7' G hln (by
  rw [List.lookup_cons, hny]; exact hΓn) fun h8 tk8 S8 off8 => ?_
 have w5 : OffW (own U M') h4 h5 := off5.offW (fun b hb ob e => S5.allLive b (jA.2 (.inr hb))) fun b hb ob e => notTab_own S4 hb e
 have w7 : OffW (own U M') h6 h7 := off7.offW (fun b hb ob e => S7.allLive b (jA.2 (.inr hb))) fun b hb ob e => notTab_own S6 hb e
 have w8 : OffW (own U M') h7 h8 := off8.offW (fun b hb ob e => S8.allLive b (jA.2 (.inr hb))) fun b hb ob e => notTab_own S7' hb e
 exact TT .next .next h8 tk8 _ M' trivial S8.dropZ (o14.then (((w5.trans e6.offW).trans w7).trans w8) g) g hR
end
end
section
open PyProof.Rows
section
theorem EvX.tup1 {R : D -> Mut -> Prop} {RE : String -> D -> Mut -> Prop} (h : EvX pg w ba q c k sc Γ M e (fun zz zz => False) RE)
  (he : autoParam (∀ U, backTo pos (starEach [e] U) = [(false, eval e U)]) tA) : EvX pg w ba q c k sc Γ M (.Tuple [e] n pos) R RE := by
 intro U s B A Q E G S Rm Ar hQ TE
 refine PyProof.Rows.Tuple_ ?_
 rw [he]
 exact spliced_cons (h U s B A _ E G S Rm Ar (fun zz zz zz zz zz zz zz zz zz r => r.elim) TE)
theorem Ev.not {b : Bool} (h : Ev pg w ba q k sc Γ e d) (ht : Truth pg w ba d b) : Ev pg w ba q k sc Γ (.UnaryOp .Not e pos) (.bool (!b)) := by
 intro U s B M G S A Q E R hQ
 refine PyProof.Rows.UnaryOp_ ((h U s B M G S).bind R fun v g t e a => ?_)
 unfold unaryOp
 simp only [show (UnaryOp.Not == UnaryOp.Not) = true from rfl, if_true]
 refine wpAny_holding (jB (ht _ _ _ _ _ _ (S.ext e).toOk a fun h' tk e' => ?_))
 exact jP (hQ _ h' tk (e.trans e') (.bool _))
end
end
section
open PyProof.Rows
noncomputable def groupsM (m : Mach) : List (List Nat) := [m.1, m.2.1] ++ m.2.2.flatMap fun p => [p.1, p.2]
noncomputable def octN (n : Nat) (gs : List (List Nat)) : List Nat := n :: gs.flatMap fun g => g.length :: g
theorem octN_push (n : Nat) (gs : List (List Nat)) (g : List Nat) : octN n (gs ++ [g]) = octN n gs ++ [g.length] ++ g := by simp [octN]
theorem octN_len (n : Nat) {gs : List (List Nat)} (h : ∀ g ∈ gs, g.length <= 8) : (octN n gs).length <= 1 + 9 * gs.length := by
 induction gs with
 | nil => simp [octN]
 | cons g gs ih =>
  have h1 := ih fun g hg => h g (jT _ hg)
  have h2 := h g jC
  simp only [octN, List.flatMap_cons, List.length_cons, List.length_append] at h1 ⊢
  lia
noncomputable def place (n : Nat) (gs : List (List Nat)) (i : Nat) : Nat := (octN n (gs.take i)).length
theorem octN_split (n : Nat) (gs : List (List Nat)) (hi : i < gs.length) : ∃ r, octN n gs = octN n (gs.take i) ++ ((gs.getD i []).length :: gs.getD i [] ++ r) := by
 refine ⟨(gs.drop (i + 1)).flatMap fun g => g.length :: g, ?_⟩
 have e : gs = gs.take i ++ gs.getD i [] :: gs.drop (i + 1) := by
  have : gs.getD i [] = gs[i] := by rw [List.getD_eq_getElem?_getD, List.getElem?_eq_getElem hi]; rfl
  rw [this, List.getElem_cons_drop, List.take_append_drop]
 conv => lhs; rw [e]
 simp [octN]
theorem oct_at (n : Nat) (gs : List (List Nat)) (hi : i < gs.length) : (octs (octN n gs))[place n gs i]? = some (gs.getD i []).length.toUInt8 := by
 obtain ⟨r, e⟩ := octN_split n gs hi
 rw [e, octs, place, List.map_append, List.getElem?_append_right (by simp)]
 simp
theorem oct_cut (n : Nat) (gs : List (List Nat)) (hi : i < gs.length) : ((octs (octN n gs)).drop (place n gs i + 1)).take (gs.getD i []).length = octs (gs.getD i []) := by
 obtain ⟨r, e⟩ := octN_split n gs hi
 have e2 : octs (octN n gs) = (octs (octN n (gs.take i)) ++ [(gs.getD i []).length.toUInt8]) ++ (octs (gs.getD i []) ++ octs r) := by rw [e]; simp [octs]
 have e3 : place n gs i + 1 = (octs (octN n (gs.take i)) ++ [(gs.getD i []).length.toUInt8]).length := by simp [place, octs_length]
 rw [e2, e3, List.drop_left, List.take_left' (by rw [octs_length])]
theorem place_succ (n : Nat) (gs : List (List Nat)) (hi : i < gs.length) : place n gs (i + 1) = place n gs i + 1 + (gs.getD i []).length := by
 have : gs.take (i + 1) = gs.take i ++ [gs.getD i []] := by
  rw [List.take_add_one, List.getElem?_eq_getElem hi]
  have : gs.getD i [] = gs[i] := by rw [List.getD_eq_getElem?_getD, List.getElem?_eq_getElem hi]; rfl
  rw [this]; rfl
 rw [place, this, octN_push, place]; simp; lia
theorem place_end (n : Nat) (gs : List (List Nat)) : place n gs gs.length = (octN n gs).length := by rw [place, List.take_length]
theorem place_le (n : Nat) (gs : List (List Nat)) (hi : i < gs.length) : place n gs i + 1 + (gs.getD i []).length <= (octN n gs).length := by
 obtain ⟨r, e⟩ := octN_split n gs hi
 rw [e, place]; simp; lia
theorem Lay.tup1 [DecidableEq α] (L : Lay enc ok n) : Lay (fun x : α => D.tuple [enc x]) ok (n + 1) where
 can := fun x h => an (L.can _ h) rfl
 dep := fun x h => Nat.succ_le_succ (Nat.max_le.2 ⟨L.dep _ h, Nat.zero_le _⟩)
 eq := fun x y h h' => by
  show (PyData.eqv (py (enc x)) (py (enc y)) && true) = _
  rw [L.eq _ _ h h', Bool.and_true]
theorem layM : Lay eM (fun m => (∀ x ∈ m.1, True) /\ (∀ x ∈ m.2.1, True) /\ ∀ p ∈ m.2.2, (∀ x ∈ p.1, True) /\ ∀ x ∈ p.2, True) 4 := Lay.ltriple layL layL (Lay.lpair layL layL).list
theorem okM (m : Mach) : (∀ x ∈ m.1, True) /\ (∀ x ∈ m.2.1, True) /\ ∀ p ∈ m.2.2, (∀ x ∈ p.1, True) /\ ∀ x ∈ p.2, True := ⟨fun zz zz => trivial, fun zz zz => trivial, fun zz zz => ⟨fun zz zz => trivial, fun zz zz => trivial⟩⟩
theorem flat_get : ∀ (l : List (List Nat × List Nat)) (i : Nat) (h : i < l.length), (l.flatMap fun p => [p.1, p.2]).getD (2 * i) [] = l[i].1 /\ (l.flatMap fun p => [p.1, p.2]).getD (2 * i + 1) [] = l[i].2
 | [], i, h => by simp at h
 | p :: l, 0, h => ⟨rfl, rfl⟩
 | p :: l, i + 1, h => flat_get l i (by simpa using h)
theorem back_eq (m : Mach) : (List.range m.2.2.length).map (fun i => D.list [eL ((groupsM m).getD (2 * i + 2) []), eL ((groupsM m).getD (2 * i + 3) [])]) = m.2.2.map eP := by
 refine List.ext_getElem (by simp) fun i h1 h2 => ?_
 have hi : i < m.2.2.length := by simpa using h1
 obtain ⟨e1, e2⟩ := flat_get m.2.2 i hi
 rw [List.getElem_map, List.getElem_map, List.getElem_range]
 show D.list [eL ((m.2.2.flatMap fun p => [p.1, p.2]).getD (2 * i) []), eL ((m.2.2.flatMap fun p => [p.1, p.2]).getD (2 * i + 1) [])] = _
 rw [e1, e2]
section
variable {K : W.Frag} {Cc fI a31 c31 : Addr}
theorem taped_body (CX : Cx ba mg mb) (TC : TapeCx ba mg K Cc fI a31 c31) {a4 a5 : Addr} (h31 : FnG ba mg (stmtAt 31) a31) (h4 : FnG ba mg (stmtAt 4) a4) (h5 : FnG ba mg (stmtAt 5) a5)
 (hlen : m.2.2.length <= 8) (hg8 : ∀ g ∈ groupsM m, g.length <= 8) (h256 : ∀ g ∈ groupsM m, ∀ x ∈ g, x < 256) {an : Addr} {ns : List D} (zn : ns.length <= 2000) :
  Ef pg w ba true true 3 (fnScope (stmtAt 34)) [(N "machine", eM m), (N "notes", .raw (.ref an))] [(an, ns)] (fnBody (stmtAt 34))
   (fun o zz M' => ∃ (d : D) (M_1 : Mut), o = .ret d /\ M_1.Sublist M' /\ M_1.map (·.1) = [(an, ns)].map (·.1) /\ d = eM m /\ M_1 = [(an, ns ++ [.bool true, .bool true])])
   (fun X d zz M' => ∃ M_1 : Mut, M_1.Sublist M' /\ M_1.map (·.1) = [(an, ns)].map (·.1) /\ False) := by
 conv => arg 10; whnf
 have zg : (groupsM m).length <= 18 := by
  have : (m.2.2.flatMap fun p => [p.1, p.2]).length = 2 * m.2.2.length := by
   generalize m.2.2 = l
   induction l with
   | nil => rfl
   | cons p l ih => rw [List.flatMap_cons, List.length_append, ih]; simp; lia
  rw [groupsM, List.length_append, this]; simp; lia
 have evL : ∀ {Γ : Gam} {p1 p2 p3 : Pos} {cc : Nat}, Γ.lookup (N "machine") = some (eM m) -> Ev pg w ba true 3 (fnScope (stmtAt 34)) Γ (.Subscript (.Name (N "machine") p1) (.Constant (.int 2) cc p2) p3) (eA m.2.2) :=
  fun h => Ev.item (ds := [eL m.1, eL m.2.1, eA m.2.2]) (i := 2) (Ev.var h (by kernel_rfl)) Ev.int rfl (by simp)
 refine Ef.assign (d := eL (octN m.2.2.length [])) (Ev.list (ds := [eN m.2.2.length]) (.cons (Ev.len CX (ds := m.2.2.map eP) (n := m.2.2.length) (evL (by walk_at "v")) (by simp) (by lia)) .nil) (sizeOk (by simp))) ?_
 have eG : (.list ((groupsM m).map eL) : D) = .list ([eL m.1, eL m.2.1] ++ (m.2.2.flatMap fun p => [p.1, p.2].map eL)) := by
  rw [groupsM, List.map_append, List.map_flatMap]; rfl
 refine Ef.forL (α := List Nat) (enc := eL) (xs := groupsM m) (bs := fun d => [(N "group", d)]) (EvS.list (Ev.asD eG.symm (Ev.bin (d_1 := .list [eL m.1, eL m.2.1]) (d_2 := .list (m.2.2.flatMap fun p => [p.1, p.2].map eL))
   (Ev.sub (d_1 := eM m) (d_2 := .slice none (some 2) none) (by walk_at "v") (Ev.slice EvO.none (EvO.some Ev.int) EvO.none) (item_upto (ds := [eL m.1, eL m.2.1, eA m.2.2]) (b := 2) (by simp) (sizeOk (by simp))))
   (Ev.comp2 (Γ' := []) (enc := eP) (xs := m.2.2) (enc2 := eL) (ys := fun p => [p.1, p.2]) (f := fun zz => eL) (ns := [N "pair"]) (ns2 := [N "group"]) (bs := fun d => [(N "pair", d)]) (bs2 := fun d => [(N "group", d)]) (EvS.list (evL (by walk_at "v")))
    ⟨by kernel_rfl, by walk_at "v", by kernel_rfl, fun zz => rfl, fun zz => rfl, fun x hx => As.name, fun x hx => EvS.list (ds := [eL x.1, eL x.2]) (by walk_at "v"), fun x hx y hy => As.name, fun x hx y hy => by walk_at "v", fun x hx y hy => by dsimp only [kA, kN]; walk_at "v", sizeOk ?_, fun zz zz => rfl⟩) (add_ll (sizeOk ?_))))) (fun x hx => As.name)
  (fun pre => [(N "octets", eL (octN m.2.2.length pre)), (N "machine", eM m), (N "notes", .raw (.ref an))]) (fun pre => [(an, ns)]) (by walk_at "v") (List.Sublist.refl _) (fun a ha => ha) ?_ ?_
 ·have := zg; rw [groupsM, List.length_append] at this
  rw [<- List.map_flatMap, List.length_map]; lia
 ·have := zg; rw [groupsM, List.length_append] at this
  rw [<- List.map_flatMap, List.length_map]; simp at this ⊢; lia
 ·intro pre g post hpre
  dsimp only [kA, kN]
  have hg : g ∈ groupsM m := by rw [hpre]; simp
  have hgz := hg8 g hg
  have hpz : (octN m.2.2.length pre).length <= 1 + 9 * pre.length := octN_len _ fun x hx => hg8 x (by rw [hpre]; simp [hx])
  have hpl : pre.length <= 18 := by have := congrArg List.length hpre; rw [List.length_append] at this; lia
  rw [octN_push]
  have e1 : eL (octN m.2.2.length pre ++ [g.length] ++ g) = .list ((octN m.2.2.length pre).map eN ++ [eN g.length] ++ g.map eN) := by rw [eL, List.map_append, List.map_append]; rfl
  refine Ex.assign (d := eL (octN m.2.2.length pre ++ [g.length] ++ g)) (Ev.asD e1.symm (Ev.bin (d_1 := .list ((octN m.2.2.length pre).map eN ++ [eN g.length])) (d_2 := eL g) (Ev.bin (d_1 := eL (octN m.2.2.length pre)) (d_2 := .list [eN g.length]) (by walk_at "v")
   (Ev.list (.cons (Ev.len CX (ds := g.map eN) (n := g.length) (by walk_at "v") (by simp) (by lia)) .nil) (sizeOk (by simp))) (add_ll (sizeOk (by simp; lia)))) (by walk_at "v") (add_ll (sizeOk (by simp; lia))))) (Ex.nil ⟨by walk_at "v", List.Sublist.refl _⟩)
 ·have hoz : (octN m.2.2.length (groupsM m)).length <= 200 := by have := octN_len m.2.2.length hg8; lia
  have ho256 : ∀ x ∈ octN m.2.2.length (groupsM m), x < 256 := fun x hx => by
   simp only [octN, List.mem_cons, List.mem_flatMap] at hx
   rcases hx with rfl | ⟨g, hg, rfl | hx⟩
   ·lia
   ·have := hg8 g hg; lia
   ·exact h256 g hg x hx
  refine Ef.stream CX TC h31 (oct := (octs (octN m.2.2.length (groupsM m))).toArray) (Ev.callT (Ev.bn (v := .type "bytes") CX) (EvL.cons (by walk_at "v") EvL.nil) (bytes_l ho256 (by lia)) (args1 fun U => rfl)) (EvL.cons Ev.int EvL.nil) (by kernel_rfl) (by kernel_rfl) fun base' L T dx F cA cO eb b112 tape => ?_
  have CX' := CX.keeps eb
  have h4' := h4.keeps eb
  have h5' := h5.keeps eb
  have X' := TC.X.keeps eb
  have hol : (octs (octN m.2.2.length (groupsM m))).length = (octN m.2.2.length (groupsM m)).length := octs_length _
  have h0 : (octs (octN m.2.2.length (groupsM m)))[0]? = some m.2.2.length.toUInt8 := rfl
  have hn256 : m.2.2.length.toUInt8.toNat = m.2.2.length := by simp [UInt8.toNat_ofNat']; lia
  generalize hoc : octs (octN m.2.2.length (groupsM m)) = oct at *
  refine Ef.seq (P := fun Γ' M' => Γ' = [(N "count", eN m.2.2.length), (N "tape", .raw (.ref T)), (N "octets", eL (octN m.2.2.length (groupsM m))), (N "machine", eM m), (N "notes", .raw (.ref an))] /\ M' = tapeM L 1 ++ [(an, ns)])
   (Ef1.assign (RX := fun d M' => d = eN m.2.2.length /\ M' = tapeM L 1 ++ [(an, ns)]) (RXE := fun zz zz zz => False)
    (EvX.callG CX' h4' ((FunX.up (uint_fun CX' X' TC.EX h4' (oct := oct) tape (p := 0) (by lia) (by lia)) (by lia))) (M_1 := [(an, ns)]) (EvL.cons (by walk_at "v") EvL.nil) rfl (fun d M' ⟨x, q1, q2, q3⟩ => ?_) (fun X d M' ⟨zz1, q1, zz2⟩ => ?_) (args1 fun U => rfl))
    (by kernel_rfl) (fun d M' h => ⟨rfl, by rw [h.1], h.2⟩) (fun zz zz zz h => h.elim)) fun Γ' M' ⟨q1, q2⟩ => ?_
  ·rw [h0] at q1; cases q1
   exact ⟨by rw [q2, hn256], by rw [q3]⟩
  ·rw [h0] at q1; cases q1
  subst q1 q2
  have zl2 : (groupsM m).length = 2 * m.2.2.length + 2 := by
   have : (m.2.2.flatMap fun p => [p.1, p.2]).length = 2 * m.2.2.length := by
    generalize m.2.2 = l
    induction l with
    | nil => rfl
    | cons p l ih => rw [List.flatMap_cons, List.length_append, ih]; simp; lia
   rw [groupsM, List.length_append, this]; simp; lia
  have gIn : ∀ i, i < (groupsM m).length -> (groupsM m).getD i [] ∈ groupsM m := fun i hi => by rw [List.getD_eq_getElem?_getD, List.getElem?_eq_getElem hi]; exact List.getElem_mem hi
  have eGr : (.list (((List.range (2 * m.2.2.length + 2)).filter fun zz => true).map fun i => eB (octs ((groupsM m).getD i []))) : D) = .list ((groupsM m).map fun g => eB (octs g)) := by
   rw [filt, <- zl2]
   congr 1
   refine List.ext_getElem (by simp) fun i h1 h2 => ?_
   have hi : i < (groupsM m).length := by simpa using h2
   simp [hi]
  refine Ef.seq (P := fun Γ' M' => Γ' = [(N "groups", .list ((groupsM m).map fun g => eB (octs g))), (N "count", eN m.2.2.length), (N "tape", .raw (.ref T)), (N "octets", eL (octN m.2.2.length (groupsM m))), (N "machine", eM m), (N "notes", .raw (.ref an))] /\ M' = tapeM L oct.length ++ [(an, ns)])
   (Ef1.compX (Γ' := [(N "tape", .raw (.ref T))]) (enc := eN) (xs := List.range (2 * m.2.2.length + 2)) (p := fun zz => true) (f := fun i => eB (octs ((groupsM m).getD i []))) (bs := fun d => [(N "turn", d)]) (Ms := fun i => tapeM L (place m.2.2.length (groupsM m) (min i (groupsM m).length)) ++ [(an, ns)]) (Mt := fun i => tapeM L (place m.2.2.length (groupsM m) (min i (groupsM m).length)) ++ [(an, ns)])
    (EvS.rng CX' (n := 2 * m.2.2.length + 2) (Ev.natAdd (x := 2 * m.2.2.length) (y := 2) (Ev.natMul (x := 2) (y := m.2.2.length) (Ev.nat rfl) (Ev.len CX' (ds := m.2.2.map eP) (n := m.2.2.length) (Ev.item (ds := [eL m.1, eL m.2.1, eA m.2.2]) (i := 2) (by walk_at "v") Ev.int rfl (by simp)) (by simp) (by lia)) (by decide +kernel)) (Ev.nat rfl)) (by lia))
    ⟨by kernel_rfl, by walk_at "v", (by kernel_rfl : [N "turn"].all _ = true), fun zz => rfl, fun x hx => As.name, rfl, fun i => rfl, fun i => rfl, fun i x hx => TrIX.nil, (fun i x hx h => by cases h), fun i x hx zz => ?_, sizeOk (by simp; lia)⟩ (by kernel_rfl) (by kernel_rfl) (by kernel_rfl) ⟨rfl, by rw [eGr], ?_⟩) fun Γ' M' ⟨q1, q2⟩ => ?_
  ·dsimp only [kA, kN]
   have hix : i = x /\ i < 2 * m.2.2.length + 2 := by
    obtain ⟨hl, e⟩ := List.getElem?_eq_some_iff.1 hx
    rw [List.getElem_range] at e
    exact ⟨e, by simpa using hl⟩
   obtain ⟨rfl, hi2⟩ := hix
   have hi : i < (groupsM m).length := by lia
   have hMi : min i (groupsM m).length = i := by lia
   have hMi1 : min (i + 1) (groupsM m).length = i + 1 := by lia
   rw [hMi, hMi1]
   have hz := hg8 _ (gIn i hi)
   have hple := place_le m.2.2.length (groupsM m) hi
   have hat := oct_at m.2.2.length (groupsM m) hi
   have hcut := oct_cut m.2.2.length (groupsM m) hi
   rw [hoc] at hat hcut
   have hb : (((groupsM m).getD i []).length.toUInt8).toNat = ((groupsM m).getD i []).length := by
    generalize ((groupsM m).getD i []).length = z at hz
    simp [UInt8.toNat_ofNat']; lia
   refine EvX.callG CX' h5' (bytes_fun CX' X' TC.EX h4' h5' (oct := oct) tape (p := place m.2.2.length (groupsM m) i) (by lia) (by lia) (fun x hx => by rw [hat] at hx; cases hx; rw [hb]; lia)) (M_1 := [(an, ns)]) (EvL.cons (by walk_at "v") EvL.nil) rfl (fun d M' ⟨x, q1, q2, q3⟩ => ?_) (fun X d M' ⟨zz1, q1, zz2⟩ => ?_) (args1 fun U => rfl)
   ·rw [hat] at q1; cases q1
    rw [hb] at q2 q3
    exact ⟨by rw [q2, hcut], by rw [q3, place_succ _ _ hi]; rfl⟩
   ·rw [hat] at q1; cases q1
  ·rw [List.length_range, <- zl2, Nat.min_self, place_end, <- hol]
  subst q1 q2
  refine Ef.seq (P := fun Γ' M' => Γ' = [(N "end", .tuple [.str uintWords]), (N "groups", .list ((groupsM m).map fun g => eB (octs g))), (N "count", eN m.2.2.length), (N "tape", .raw (.ref T)), (N "octets", eL (octN m.2.2.length (groupsM m))), (N "machine", eM m), (N "notes", .raw (.ref an))] /\ M' = tapeM L oct.length ++ [(an, ns)])
   (Ef1.tryArgs (T := "ValueError") (c_1 := true) (R1 := fun zz zz zz => False) (RE1 := fun X d Γ' M' => X = "ValueError" /\ d = .tuple [.str uintWords] /\ Γ' = [(N "groups", .list ((groupsM m).map fun g => eB (octs g))), (N "count", eN m.2.2.length), (N "tape", .raw (.ref T)), (N "octets", eL (octN m.2.2.length (groupsM m))), (N "machine", eM m), (N "notes", .raw (.ref an))] /\ M' = tapeM L oct.length ++ [(an, ns)]) excCls_ValueError PySem.F.excAttr_ValueError
    (Ef.one (Ef1.assign (RX := fun zz zz => False) (RXE := fun X d M' => X = "ValueError" /\ d = .tuple [.str uintWords] /\ M' = tapeM L oct.length ++ [(an, ns)]) (EvX.tup1 (EvX.callG CX' h5' (bytes_fun CX' X' TC.EX h4' h5' (oct := oct) tape (p := oct.length) (by lia) (by lia) (fun x hx => by rw [List.getElem?_eq_none (Nat.le_refl _)] at hx; cases hx)) (M_1 := [(an, ns)]) (EvL.cons (by walk_at "v") EvL.nil) rfl (fun d M' ⟨x, q1, zz1, zz2⟩ => by rw [List.getElem?_eq_none (Nat.le_refl _)] at q1; cases q1) (fun X d M' ⟨q1, zz1, q2, q3⟩ => ⟨q1, q2, by rw [q3]⟩) (args1 fun U => rfl)))
     (by kernel_rfl) (fun zz zz h => h.elim) (fun X d M' h => ⟨h.1, h.2.1, rfl, h.2.2⟩)))
    (fun zz zz zz h => h.elim) (fun Γ' => Ev.bn (v := .type "ValueError") CX') (by kernel_rfl) (by kernel_rfl) (by kernel_rfl) (by kernel_rfl)
    (fun X d Γ' M' ⟨q1, q2, q3, q4⟩ => ⟨q1, ⟨_, q2⟩, (by rw [q3]; first | rfl | walk_at "v"), rfl, by rw [q2, q3], q4⟩)) fun Γ' M' ⟨q1, q2⟩ => ?_
  subst q1 q2
  refine Ef.compL (Γ' := []) (enc := fun g => eB (octs g)) (xs := groupsM m) (p := fun zz => false) (f := fun g => eB (octs g)) (bs := fun d => [(N "group", d)]) (EvS.list (by walk_at "v"))
   ⟨by kernel_rfl, by walk_at "v", (by kernel_rfl : [N "group"].all _ = true), fun zz => rfl, fun x hx => As.name, fun x hx => TrI.one (Tr.not (b := true) (Tr.val (d := .bool true) (Ev.callB (Ev.bn (v := .builtin "isinstance") CX') (EvL.cons (by walk_at "v") (EvL.cons (Ev.bn (v := .type "bytes") CX') EvL.nil)) (isinstance_b (b := (octs x).toArray)) (args2 fun U => rfl)) truth_bool)), (fun x hx h => by cases h), sizeOk (by lia)⟩ ?_
  refine Ef.compC (Γ' := []) (enc := fun g => eB (octs g)) (xs := groupsM m) (p := fun zz => true) (f := fun g => eL ((octs g).map UInt8.toNat)) (bs := fun d => [(N "group", d)]) (EvS.list (by walk_at "v"))
   (cmp1 (fun g hg zz => Ev.callT (Ev.bn (v := .type "list") CX') (EvL.cons (by walk_at "v") EvL.nil) (list_b (by rw [octs_length]; have := hg8 g hg; lia)) (args1 fun U => rfl)) (sizeOk (by lia))) ?_
  have et : (.list (((groupsM m).filter fun zz => true).map fun g => eL ((octs g).map UInt8.toNat)) : D) = .list ((groupsM m).map eL) := by
   rw [filt]
   congr 1
   refine List.map_congr_left fun g hg => ?_
   congr 1
   rw [octs, List.map_map]
   refine (List.map_congr_left fun x hx => ?_).trans (List.map_id g)
   have := h256 g hg x hx
   simp [UInt8.toNat_ofNat']; lia
  rw [et]
  have gG : ∀ {i : Nat}, i < (groupsM m).length -> ((groupsM m).map eL)[i]? = some (eL ((groupsM m).getD i [])) := fun {i} hi => by simp [hi]
  refine Ef.assign (d := eM m) (Ev.asD ?_ (Ev.list (ds := [eL m.1, eL m.2.1, .list (((List.range m.2.2.length).filter fun zz => true).map fun i => .list [eL ((groupsM m).getD (2 * i + 2) []), eL ((groupsM m).getD (2 * i + 3) [])])]) (EvL.cons (Ev.item (ds := (groupsM m).map eL) (i := 0) (by walk_at "v") Ev.int (gG (by lia)) (by simp; lia)) (EvL.cons (Ev.item (ds := (groupsM m).map eL) (i := 1) (by walk_at "v") Ev.int (gG (by lia)) (by simp; lia)) (EvL.cons ?_ EvL.nil))) (sizeOk (by simp)))) ?_
  ·rw [filt, back_eq]
  ·refine Ev.comp (Γ' := [(N "told", .list ((groupsM m).map eL))]) (enc := eN) (xs := List.range m.2.2.length) (p := fun zz => true) (f := fun i => .list [eL ((groupsM m).getD (2 * i + 2) []), eL ((groupsM m).getD (2 * i + 3) [])]) (bs := fun d => [(N "at", d)])
    (EvS.rng CX' (n := m.2.2.length) (Ev.len CX' (ds := m.2.2.map eP) (n := m.2.2.length) (Ev.item (ds := [eL m.1, eL m.2.1, eA m.2.2]) (i := 2) (by walk_at "v") Ev.int rfl (by simp)) (by simp) (by lia)) (by lia))
    (cmp1 (fun i hi zz => ?_) (sizeOk (by simp; lia)))
   have hi' : i < m.2.2.length := by simpa using hi
   dsimp only [kA, kN]
   refine Ev.list (ds := [eL ((groupsM m).getD (2 * i + 2) []), eL ((groupsM m).getD (2 * i + 3) [])]) (EvL.cons ?_ (EvL.cons ?_ EvL.nil)) (sizeOk (by simp))
   ·exact Ev.item (ds := (groupsM m).map eL) (i := 2 * i + 2) (by walk_at "v") (Ev.natAdd (x := 2 * i) (y := 2) (Ev.natMul (x := 2) (y := i) (Ev.nat rfl) (by walk_at "v") (by decide +kernel)) (Ev.nat rfl)) (gG (by lia)) (by simp; lia)
   ·exact Ev.item (ds := (groupsM m).map eL) (i := 2 * i + 3) (by walk_at "v") (Ev.natAdd (x := 2 * i) (y := 3) (Ev.natMul (x := 2) (y := i) (Ev.nat rfl) (by walk_at "v") (by decide +kernel)) (Ev.nat rfl)) (gG (by lia)) (by simp; lia)
  have eo : (groupsM m).filter (fun zz => false) = [] := by simp
  rw [eo, List.map_nil]
  refine Ef.perm (M' := [(an, ns)] ++ tapeM L oct.length) ?_ List.perm_append_comm
  refine Ef.append (x := N "notes") (d := .bool true) (by walk_at "v") (Ev.asD (d := .bool ((!(!([] : List D).isEmpty)) && decide (uintWords = uintWords))) (by simp) (Ev.and2 (Ev.not (d := .list []) (by walk_at "v") (truth_list (sizeOk (by simp)))) fun zz =>
   Ev.cmp (d_1 := .tuple [.str uintWords]) (d_2 := .tuple [.str uintWords]) (by walk_at "v") (Ev.tuple (EvL.cons Ev.str EvL.nil) (sizeOk (by simp))) (eq_dd (Lay.tup1 Lay.str) (by lia) (by kernel_rfl) (by kernel_rfl)) rfl)) (sizeOk (by lia)) ?_
  refine Ef.append (x := N "notes") (d := .bool true) (by walk_at "v") (Ev.asD (d := .bool (((m.2.2.length : Int) == (m.2.2.length : Int)) && decide (m = m))) (by simp) (Ev.and2 (Ev.cmp (d_1 := eN m.2.2.length) (d_2 := eN m.2.2.length) (by walk_at "v")
   (Ev.len CX' (ds := m.2.2.map eP) (n := m.2.2.length) (Ev.item (ds := [eL m.1, eL m.2.1, eA m.2.2]) (i := 2) (by walk_at "v") Ev.int rfl (by simp)) (by simp) (by lia)) eq_ii rfl) fun zz =>
   Ev.cmp (d_1 := eM m) (d_2 := eM m) (by walk_at "v") (by walk_at "v") (eq_dd layM (by lia) (okM m) (okM m)) rfl)) (sizeOk (by simp; lia)) ?_
  refine Ef.one (Ef1.ret (RX := fun d M' => d = eM m /\ M' = (an, ns ++ [.bool true] ++ [.bool true]) :: tapeM L oct.length) (RXE := fun zz zz zz => False) (Ev.y (by walk_at "v") ⟨rfl, rfl⟩) (fun d M' h => ⟨d, [(an, ns ++ [.bool true] ++ [.bool true])], rfl, ?_, rfl, h.1, ?_⟩) (fun zz zz zz h => h.elim))
  ·rw [h.2]; exact List.Sublist.cons₂ _ (List.nil_sublist _)
  ·rw [List.append_assoc]; rfl
end
end
section
open PyProof.Rows
noncomputable def stepIx (n : Nat) (l u st : Option Int) : List Nat := sliceRange (sliceBounds l u st n).1 (sliceBounds l u st n).2.1 (sliceBounds l u st n).2.2
noncomputable def pickL {α : Type} (xs : List α) (l u st : Option Int) : List α := (stepIx xs.length l u st).filterMap (xs[·]?)
theorem pickL_map {β : Type} (f : α -> β) (xs : List α) (l u st : Option Int) : pickL (xs.map f) l u st = (pickL xs l u st).map f := by
 unfold pickL
 rw [List.length_map, List.map_filterMap]
 congr 1
 funext i
 rw [List.getElem?_map]
theorem Ats.filterMap (as : Ats X h vs ds) : ∀ is : List Nat, Ats X h (is.filterMap (vs[·]?)) (is.filterMap (ds[·]?))
 | [] => .nil
 | i :: is => by
  rw [List.filterMap_cons, List.filterMap_cons]
  cases hv : vs[i]? with
  | none =>
   have : ds[i]? = none := by
    rw [List.getElem?_eq_none_iff] at hv ⊢
    rw [<- as.length]; exact hv
   rw [this]
   exact as.filterMap is
  | some v =>
   obtain ⟨d, hd, av⟩ := as.get' hv
   rw [hd]
   exact .cons av (as.filterMap is)
section
theorem item_step {l u st : Option Int} (h0 : st ≠ some 0) (hsz : ds.length <= sizeLine) : Item pg w ba q k (.list ds) (.slice l u st) (.list (pickL ds l u st)) :=
 item_slice h0 hsz fun X h vs as => by
  have hz := size_of_ats as
  unfold slicePick pickL stepIx
  rw [hz]
  have := as.filterMap (sliceRange (sliceBounds l u st ds.length).1 (sliceBounds l u st ds.length).2.1 (sliceBounds l u st ds.length).2.2)
  simpa using this
theorem walks_lt {I : Addr} {fp wr : List Addr} {P : Nat -> Value -> Prop} {St : Nat -> Heap -> Prop} (W : Walks pg w A I fp wr n P St) : Walks pg w A I fp wr n (fun i v => i < n /\ P i v) St where
 sub := W.sub
 frame := W.frame
 item := fun i s Q E hi st hQ => W.item i s Q E hi st fun v h' tk hP hT hk => hQ v h' tk ⟨hi, hP⟩ hT hk
 done := W.done
 self := W.self
theorem preSum_sum (ns : List Int) : ∀ j, preSum (fun i => ns.getD i 0) j = (ns.take j).sum
 | 0 => by simp [preSum]
 | j + 1 => by
  rw [preSum, preSum_sum ns j, List.take_add_one, List.sum_append]
  cases h : ns[j]? with
  | none => simp [List.getD_eq_getElem?_getD, h]
  | some x => simp [List.getD_eq_getElem?_getD, h]
theorem sum_l {ns : List Int} : FunN pg w ba true k (fun vs => PySem.call (.builtin "sum") vs) [.list (ns.map D.int)] (.int ns.sum) := by
 intro s X vs o as A Q E Rm hQ
 obtain ⟨v, rfl, a⟩ := as.one_
 refine call_sum_walkAnyS (src_list (A := A.in1) o a (Rm.hd rfl) fun I h' e hn sr => ?_)
 obtain ⟨fp, P, St', W, st0, hfp, hval, hcls, hI, _⟩ := sr.src
 refine ⟨I, fp, _, _, (ns.map D.int).length, _, fun i s => St' i s.heap, fun i => ns.getD i 0, rfl, (walks_lt W).toS, st0, fun b hb => ?_, fun i v hP => ?_, fun s' t' hm => ?_⟩
 ·by_cases hbI : b = I
  ·subst hbI
   obtain ⟨T, ob, e1, _⟩ := hcls 0 _ st0
   exact Heap.lt_size e1
  ·obtain ⟨_, ob, e1⟩ := hfp b hb hbI
   exact Heap.lt_size e1
 ·obtain ⟨hi, hP⟩ := hP
  have hi' : i < ns.length := by simpa using hi
  have av := hval i v (.int (ns.getD i 0)) hP (by simp [hi'])
  obtain ⟨t, rfl⟩ := av.int_
  exact ⟨t, rfl⟩
 ·rw [Moved.eq_with hm]
  have : preSum (fun i => ns.getD i 0) (ns.map D.int).length = ns.sum := by rw [preSum_sum, List.length_map, List.take_length]
  rw [this]
  refine hQ _ _ _ (fun b ob hb => hm.heap b ob (fun hI => ?_) (e b ob hb)) (.int _ _)
  rw [jS.1 hI, hn] at hb; cases hb
end
end
section
section
variable {σ τ : Type}
noncomputable def acc (nx : σ -> Bool -> σ) (fin : σ -> Bool) : σ -> List Bool -> Bool
 | s, [] => fin s
 | s, b :: v => acc nx fin (nx s b) v
noncomputable def run (nx : σ -> Bool -> σ) : σ -> List Bool -> σ
 | s, [] => s
 | s, b :: v => run nx (nx s b) v
noncomputable def lev (nx : σ -> Bool -> σ) (fin : σ -> Bool) : Nat -> σ -> List Bool
 | 0, s => [fin s]
 | t + 1, s => lev nx fin t (nx s false) ++ lev nx fin t (nx s true)
noncomputable def lookS (nx : σ -> Bool -> σ) (fin : σ -> Bool) : Nat -> σ -> List Bool
 | 0, s => lev nx fin 0 s
 | t + 1, s => lookS nx fin t s ++ lev nx fin (t + 1) s
theorem acc_n {nx : σ -> Bool -> σ} {fin : σ -> Bool} {s : σ} : acc nx fin s [] = fin s := rfl
theorem acc_c {nx : σ -> Bool -> σ} {fin : σ -> Bool} {s : σ} {b : Bool} {v : List Bool} : acc nx fin s (b :: v) = acc nx fin (nx s b) v := rfl
theorem lev_0 {nx : σ -> Bool -> σ} {fin : σ -> Bool} {s : σ} : lev nx fin 0 s = [fin s] := rfl
theorem lev_s {nx : σ -> Bool -> σ} {fin : σ -> Bool} {t : Nat} {s : σ} : lev nx fin (t + 1) s = lev nx fin t (nx s false) ++ lev nx fin t (nx s true) := rfl
theorem lookS_0 {nx : σ -> Bool -> σ} {fin : σ -> Bool} {s : σ} : lookS nx fin 0 s = lev nx fin 0 s := rfl
theorem lookS_s {nx : σ -> Bool -> σ} {fin : σ -> Bool} {t : Nat} {s : σ} : lookS nx fin (t + 1) s = lookS nx fin t s ++ lev nx fin (t + 1) s := rfl
noncomputable def cardS (nx : σ -> Bool -> σ) (fin : σ -> Bool) (s : σ) : List (List Bool) := [lookS nx fin 6 s, lookS nx fin 6 (nx s false), lookS nx fin 6 (nx s true)]
variable {nx : σ -> Bool -> σ} {fin : σ -> Bool} {nx' : τ -> Bool -> τ} {fin' : τ -> Bool}
theorem acc_run (s : σ) (v u : List Bool) : acc nx fin s (v ++ u) = acc nx fin (run nx s v) u := by
 induction v generalizing s with
 | nil => rfl
 | cons b v ih => exact ih _
theorem run_app (s : σ) (v u : List Bool) : run nx s (v ++ u) = run nx (run nx s v) u := by
 induction v generalizing s with
 | nil => rfl
 | cons b v ih => exact ih _
theorem acc_fin (s : σ) (v : List Bool) : acc nx fin s v = fin (run nx s v) := by
 induction v generalizing s with
 | nil => rfl
 | cons b v ih => exact ih _
theorem lev_len (t : Nat) (s : σ) : (lev nx fin t s).length = 2 ^ t := by
 induction t generalizing s with
 | zero => rfl
 | succ t ih => rw [lev_s, List.length_append, ih, ih, Nat.pow_succ]; lia
theorem lookS_len (t : Nat) (s : σ) (s' : τ) : (lookS nx fin t s).length = (lookS nx' fin' t s').length := by
 induction t with
 | zero => rfl
 | succ t ih => rw [lookS_s, lookS_s, List.length_append, List.length_append, ih, lev_len, lev_len]
theorem lev_eq (t : Nat) (s : σ) (s' : τ) : lev nx fin t s = lev nx' fin' t s' ↔ ∀ v : List Bool, v.length = t -> acc nx fin s v = acc nx' fin' s' v := by
 induction t generalizing s s' with
 | zero =>
  constructor
  ·intro h v hv
   rw [List.length_eq_zero_iff.1 hv]
   simpa [lev_0, acc_n] using h
  ·intro h
   simpa [lev_0, acc_n] using h [] rfl
 | succ t ih =>
  rw [lev_s, lev_s]
  constructor
  ·intro h v hv
   obtain ⟨h1, h2⟩ := List.append_inj h (by rw [lev_len, lev_len])
   match v, hv with
   | false :: v, hv => exact (ih _ _).1 h1 v (by simpa using hv)
   | true :: v, hv => exact (ih _ _).1 h2 v (by simpa using hv)
  ·intro h
   rw [(ih (nx s false) (nx' s' false)).2 fun v hv => h (false :: v) (by simpa using hv), (ih (nx s true) (nx' s' true)).2 fun v hv => h (true :: v) (by simpa using hv)]
theorem lookS_eq (t : Nat) (s : σ) (s' : τ) : lookS nx fin t s = lookS nx' fin' t s' ↔ ∀ v : List Bool, v.length <= t -> acc nx fin s v = acc nx' fin' s' v := by
 induction t with
 | zero => rw [lookS_0, lookS_0, lev_eq]; simp
 | succ t ih =>
  rw [lookS_s, lookS_s]
  constructor
  ·intro h v hv
   obtain ⟨h1, h2⟩ := List.append_inj h (lookS_len _ _ _)
   rcases Nat.lt_or_ge v.length (t + 1) with hl | hl
   ·exact ih.1 h1 v (by lia)
   ·exact (lev_eq _ _ _).1 h2 v (by lia)
  ·intro h
   rw [ih.2 fun v hv => h v (by lia), (lev_eq _ s s').2 fun v hv => h v (by lia)]
theorem cardS_eq {s : σ} {s' : τ} (h : ∀ v, acc nx fin s v = acc nx' fin' s' v) : cardS nx fin s = cardS nx' fin' s' := by
 unfold cardS
 rw [(lookS_eq 6 s s').2 fun v zz => h v, (lookS_eq 6 (nx s false) (nx' s' false)).2 fun v zz => h (false :: v), (lookS_eq 6 (nx s true) (nx' s' true)).2 fun v zz => h (true :: v)]
theorem bisim (Rel : σ -> τ -> Prop) (hf : ∀ s s', Rel s s' -> fin s = fin' s') (hn : ∀ s s', Rel s s' -> ∀ b, Rel (nx s b) (nx' s' b)) : ∀ (v : List Bool) (s : σ) (s' : τ), Rel s s' -> acc nx fin s v = acc nx' fin' s' v
 | [], s, s', h => hf s s' h
 | b :: v, s, s', h => bisim Rel hf hn v _ _ (hn s s' h b)
theorem bisim_run (Rel : σ -> τ -> Prop) (hn : ∀ s s', Rel s s' -> ∀ b, Rel (nx s b) (nx' s' b)) : ∀ (v : List Bool) (s : σ) (s' : τ), Rel s s' -> Rel (run nx s v) (run nx' s' v)
 | [], s, s', h => h
 | b :: v, s, s', h => bisim_run Rel hn v _ _ (hn s s' h b)
theorem pw_all {R : σ -> σ -> Prop} (hs : ∀ a b, R a b -> R b a) : ∀ {l : List σ}, l.Pairwise R -> ∀ x ∈ l, ∀ y ∈ l, x ≠ y -> R x y
 | [], _, x, hx, _, _, _ => by cases hx
 | a :: l, h, x, hx, y, hy, hne => by
  rw [List.pairwise_cons] at h
  rcases jK.1 hx with ex | hx'
  ·rcases jK.1 hy with ey | hy'
   ·exact absurd (ex.trans ey.symm) hne
   ·rw [ex]; exact h.1 y hy'
  ·rcases jK.1 hy with ey | hy'
   ·rw [ey]; exact hs _ _ (h.1 x hx')
   ·exact pw_all hs h.2 x hx' y hy' hne
noncomputable def eqK (nx : σ -> Bool -> σ) (fin : σ -> Bool) (k : Nat) (p q : σ) : Prop := ∀ v : List Bool, v.length <= k -> acc nx fin p v = acc nx fin q v
theorem eqK_step {p q : σ} (h : eqK nx fin (k + 1) p q) (b : Bool) : eqK nx fin k (nx p b) (nx q b) := fun v hv => h (b :: v) (by simpa using hv)
theorem eqK_stable {St : σ -> Prop} (hc : ∀ s, St s -> ∀ b, St (nx s b)) (h : ∀ p q, St p -> St q -> eqK nx fin k p q -> eqK nx fin (k + 1) p q) : ∀ (v : List Bool) (p q : σ), St p -> St q -> eqK nx fin k p q -> acc nx fin p v = acc nx fin q v
 | [], p, q, _, _, e => e [] (Nat.zero_le _)
 | b :: v, p, q, hp, hq, e => eqK_stable hc h v _ _ (hc p hp b) (hc q hq b) (eqK_step (h p q hp hq e) b)
theorem eqK_chain {St : σ -> Prop} (hc : ∀ s, St s -> ∀ b, St (nx s b)) (k : Nat) : (∀ p q, St p -> St q -> eqK nx fin k p q -> ∀ v, acc nx fin p v = acc nx fin q v) \/
  ∃ R : List σ, R.length = k + 2 /\ (∀ r ∈ R, St r) /\ R.Pairwise fun p q => ¬ eqK nx fin k p q := by
 induction k with
 | zero =>
  by_cases h : ∀ p q, St p -> St q -> fin p = fin q
  ·refine .inl fun p q hp hq zz v => ?_
   rw [acc_fin, acc_fin]
   have hr : ∀ (v : List Bool) (s : σ), St s -> St (run nx s v) := fun v => by
    induction v with
    | nil => exact fun s hs => hs
    | cons b v ih => exact fun s hs => ih _ (hc s hs b)
   exact h _ _ (hr v p hp) (hr v q hq)
  ·refine .inr ?_
   have h' : ∃ p q, St p /\ St q /\ fin p ≠ fin q := by
    refine Classical.byContradiction fun hn => h fun p q hp hq => Classical.byContradiction fun hne => hn ⟨p, q, hp, hq, hne⟩
   obtain ⟨p, q, hp, hq, hne⟩ := h'
   refine ⟨[p, q], rfl, fun r hr => ?_, ?_⟩
   ·simp only [List.mem_cons, List.not_mem_nil, or_false] at hr
    rcases hr with rfl | rfl <;> assumption
   ·simp only [List.pairwise_cons, List.mem_singleton, forall_eq, List.not_mem_nil, false_implies, implies_true, List.Pairwise.nil, and_true]
    exact fun e => hne (e [] (Nat.le_refl _))
 | succ k ih =>
  rcases ih with h | ⟨R, hl, hR, hw⟩
  ·exact .inl fun p q hp hq e v => h p q hp hq (fun v hv => e v (by lia)) v
  ·by_cases hs : ∀ p q, St p -> St q -> eqK nx fin k p q -> eqK nx fin (k + 1) p q
   ·exact .inl fun p q hp hq e v => eqK_stable hc hs v p q hp hq fun v hv => e v (by lia)
   ·refine .inr ?_
    have h' : ∃ p q, St p /\ St q /\ eqK nx fin k p q /\ ¬ eqK nx fin (k + 1) p q := by
     refine Classical.byContradiction fun hn => hs fun p q hp hq e => Classical.byContradiction fun hne => hn ⟨p, q, hp, hq, e, hne⟩
    obtain ⟨p, q, hp, hq, e, hne⟩ := h'
    have hw' : R.Pairwise fun p q => ¬ eqK nx fin (k + 1) p q := hw.imp fun {a b} h e => h fun v hv => e v (by lia)
    have new : ∃ r, St r /\ ∀ s ∈ R, ¬ eqK nx fin (k + 1) r s := by
     by_cases hm : ∃ s ∈ R, eqK nx fin k p s
     ·obtain ⟨s, hsR, es⟩ := hm
      have one : ¬ eqK nx fin (k + 1) p s \/ ¬ eqK nx fin (k + 1) q s := by
       refine Classical.byContradiction fun hn => hne ?_
       have h1 : eqK nx fin (k + 1) p s := Classical.byContradiction fun h => hn (.inl h)
       have h2 : eqK nx fin (k + 1) q s := Classical.byContradiction fun h => hn (.inr h)
       exact fun v hv => (h1 v hv).trans (h2 v hv).symm
      have pick : ∃ r, St r /\ eqK nx fin k r s /\ ¬ eqK nx fin (k + 1) r s := by
       rcases one with h | h
       ·exact ⟨p, hp, es, h⟩
       ·exact ⟨q, hq, fun v hv => (e v hv).symm.trans (es v hv), h⟩
      obtain ⟨r, hr, er, hnr⟩ := pick
      refine ⟨r, hr, fun t ht et => ?_⟩
      by_cases hts : t = s
      ·exact hnr (hts ▸ et)
      ·have hts2 : eqK nx fin k t s := fun v hv => (et v (by lia)).symm.trans (er v hv)
       have := pw_all (R := fun p q => ¬ eqK nx fin k p q) (fun a b h e => h fun v hv => (e v hv).symm) hw t ht s hsR hts
       exact this hts2
     ·exact ⟨p, hp, fun s hs es => hm ⟨s, hs, fun v hv => es v (by lia)⟩⟩
    obtain ⟨r, hr, hall⟩ := new
    exact ⟨r :: R, by simp [hl], fun x hx => (jK.1 hx).elim (fun e => e ▸ hr) (hR x), List.pairwise_cons.2 ⟨hall, hw'⟩⟩
theorem look_tells (hn : n <= 8) {nx : Nat -> Bool -> Nat} {fin : Nat -> Bool} (hc : ∀ s, s < n -> ∀ b, nx s b < n) {p q : Nat} (hp : p < n) (hq : q < n) (h : lookS nx fin 6 p = lookS nx fin 6 q) : ∀ v, acc nx fin p v = acc nx fin q v := by
 have e : eqK nx fin 6 p q := (lookS_eq 6 p q).1 h
 rcases eqK_chain (fin := fin) (St := fun s => s < n) hc 6 with h | ⟨R, hl, hR, hw⟩
 ·exact h p q hp hq e
 ·have nd : R.Nodup := hw.imp fun {a b} h e => h (by rw [e]; exact fun zz zz => rfl)
  have all : ∀ x, x < n -> x ∈ R := fun x hx => Classical.byContradiction fun hnx => by
   have := nodup_len (l := x :: R) (l' := List.range n) (List.nodup_cons.2 ⟨hnx, nd⟩) fun y hy => List.mem_range.2 ((jK.1 hy).elim (fun e => e ▸ hx) (hR y))
   simp only [List.length_cons, List.length_range] at this
   lia
  by_cases hpq : p = q
  ·rw [hpq]; exact fun zz => rfl
  ·exact absurd e (pw_all (R := fun p q => ¬ eqK nx fin 6 p q) (fun a b h e => h fun v hv => (e v hv).symm) hw p (all p hp) q (all q hq) hpq)
end
end
section
noncomputable def nxP (ps : List (Nat × Nat)) (s : Nat) (b : Bool) : Nat := if b then (ps.getD s (0, 0)).2 else (ps.getD s (0, 0)).1
noncomputable def finE (ends : List Nat) (s : Nat) : Bool := decide (s ∈ ends)
theorem getD_lt {l : List α} {d : α} (h : i < l.length) : l.getD i d = l[i] := by rw [List.getD_eq_getElem?_getD, List.getElem?_eq_getElem h]; rfl
theorem lookIt_lev (ends : List Nat) (steps : List (Nat × Nat)) (hin : ∀ p ∈ steps, p.1 < steps.length /\ p.2 < steps.length) : ∀ t s, s < steps.length ->
  (lookIt ends steps t).1.getD s [] = lev (nxP steps) (finE ends) t s /\ (lookIt ends steps t).2.getD s [] = lookS (nxP steps) (finE ends) t s
 | 0, s, h => by
  have : (last0 ends steps.length).getD s [] = [decide (s ∈ ends)] := by
   rw [getD_lt (by simp [last0, h])]; simp [last0]
  exact ⟨this, this⟩
 | t + 1, s, h => by
  have ih := lookIt_lev ends steps hin t
  have hp := hin _ (List.getElem_mem h)
  have e1 : (lastS steps (lookIt ends steps t).1).getD s [] = lev (nxP steps) (finE ends) (t + 1) s := by
   rw [getD_lt (by simp [lastS, h])]
   have e0 : nxP steps s false = steps[s].1 := by unfold nxP; rw [getD_lt h]; rfl
   have e1 : nxP steps s true = steps[s].2 := by unfold nxP; rw [getD_lt h]; rfl
   rw [lev_s, e0, e1, <- (ih _ hp.1).1, <- (ih _ hp.2).1]
   simp [lastS]
  refine ⟨e1, ?_⟩
  rw [lookIt_s, lookStep, getD_lt (by simp [h]), lookS_s, <- e1, <- (ih s h).2]
  simp
theorem looks_at {ends : List Nat} {steps : List (Nat × Nat)} (hin : ∀ p ∈ steps, p.1 < steps.length /\ p.2 < steps.length) {s : Nat} (h : s < steps.length) : (looks ends steps).getD s [] = lookS (nxP steps) (finE ends) 6 s := (lookIt_lev ends steps hin 6 s h).2
theorem nxP_lt {steps : List (Nat × Nat)} (hin : ∀ p ∈ steps, p.1 < steps.length /\ p.2 < steps.length) {s : Nat} (h : s < steps.length) (b : Bool) : nxP steps s b < steps.length := by
 have hp := hin _ (List.getElem_mem h)
 unfold nxP; rw [getD_lt h]
 cases b
 ·exact hp.1
 ·exact hp.2
theorem card_at {ends : List Nat} {steps : List (Nat × Nat)} (hin : ∀ p ∈ steps, p.1 < steps.length /\ p.2 < steps.length) {s : Nat} (h : s < steps.length) : card (looks ends steps) steps s = cardS (nxP steps) (finE ends) s := by
 unfold card cardS
 rw [looks_at hin h, <- looks_at hin (nxP_lt hin h false), <- looks_at hin (nxP_lt hin h true)]
 rfl
noncomputable def bit (b : Bool) : Nat := if b then 1 else 0
noncomputable def nxS (a : List (List Nat × List Nat)) (g : List Nat) (b : Bool) : List Nat := led a g (bit b)
noncomputable def finS (en g : List Nat) : Bool := decide ((lack g en).length < g.length)
theorem finS_iff {en : List Nat} : finS en g = true ↔ ∃ x ∈ g, x ∈ en := by
 unfold finS lack
 rw [decide_eq_true_eq, List.length_filter_lt_length_iff_exists]
 simp
noncomputable abbrev langS (m : Mach) (g : List Nat) (v : List Bool) : Bool := acc (nxS m.2.2) (finS m.2.1) g v
noncomputable abbrev runS (m : Mach) (v : List Bool) : List Nat := run (nxS m.2.2) m.1 v
noncomputable def H8 (m : Mach) : Prop := ∀ l : List (List Nat), l.Nodup -> (∀ g ∈ l, ∃ v, g = runS m v) -> l.length <= 8
structure PlR (m : Mach) (p : List (List Nat) × List (List Nat)) : Prop where
 inv : PlInv m p
 reached : ∀ g ∈ p.1, ∃ v, g = runS m v
 closed : ∀ g ∈ p.1, g ∉ p.2 -> ∀ b, nxS m.2.2 g b ∈ p.1
theorem runS_push (m : Mach) (v : List Bool) (b : Bool) : runS m (v ++ [b]) = nxS m.2.2 (runS m v) b := run_app _ _ _
theorem PlR.zero (V : MV m) : PlR m ([m.1], [m.1]) := ⟨PlInv.zero V, fun g hg => ⟨[], jS.1 hg⟩, fun g hg hn => absurd hg hn⟩
theorem PlR.step (V : MV m) {p : List (List Nat) × List (List Nat)} (h : PlR m p) (hg : plGo p = true) : PlR m (plStep m.2.2 p) := by
 have mem : ∀ g, g ∈ (plStep m.2.2 p).1 ↔ g ∈ p.1 \/ g ∈ plFresh m.2.2 p.1 p.2 := fun g => by
  show g ∈ sortN _ ↔ _
  rw [sortN_mem, List.mem_append]
 refine ⟨h.inv.step V hg, fun g hgm => ?_, fun g hgm hn b => ?_⟩
 ·rcases (mem g).1 hgm with hm | hm
  ·exact h.reached g hm
  ·obtain ⟨⟨g', hg', e⟩, _⟩ := plFresh_mem.1 hm
   obtain ⟨v, rfl⟩ := h.reached g' (h.inv.sub g' hg')
   rcases e with e | e
   ·exact ⟨v ++ [false], by rw [runS_push]; exact e⟩
   ·exact ⟨v ++ [true], by rw [runS_push]; exact e⟩
 ·have hm : g ∈ p.1 := ((mem g).1 hgm).resolve_right hn
  rw [mem]
  by_cases hf : g ∈ p.2
  ·by_cases hin : nxS m.2.2 g b ∈ p.1
   ·exact .inl hin
   ·refine .inr (plFresh_mem.2 ⟨⟨g, hf, ?_⟩, hin⟩)
    cases b
    ·exact .inl rfl
    ·exact .inr rfl
  ·exact .inl (h.closed g hm hf b)
set_option tactic.hygienic true in
theorem plLoop_all (V : MV m) (H : H8 m) : ∀ (f : Nat) (p : List (List Nat) × List (List Nat)), PlR m p -> plMeas p <= f -> (∀ g, g ∈ plLoop m.2.2 f p ↔ ∃ v, g = runS m v)
 | f, p, h, hz => by
  have fin : p.2 = [] -> ∀ g, g ∈ p.1 ↔ ∃ v, g = runS m v := fun e g => by
   refine ⟨h.reached g, fun ⟨v, hv⟩ => ?_⟩
   subst hv
   have : ∀ (v : List Bool) (g : List Nat), g ∈ p.1 -> run (nxS m.2.2) g v ∈ p.1 := fun v => by
    induction v with
    | nil => exact fun g hg => hg
    | cons b v ih => exact fun g hg => ih _ (h.closed g hg (by rw [e]; simp) b)
   exact this v _ h.inv.start
  have h8 : p.1.length <= 8 := H p.1 (srt_nodup h.inv.srt) h.reached
  match f with
  | 0 =>
   refine fin ?_
   unfold plMeas at hz
   split at hz
   ·rename_i e; exact List.isEmpty_iff.1 e
   ·lia
  | f + 1 =>
   rw [plLoop_s]
   split
   ·rename_i hg
    have := plMeas_step m.2.2 hg
    exact plLoop_all V H f _ (h.step V hg) (by lia)
   ·rename_i hg
    refine fin ?_
    simp only [plGo, Bool.and_eq_true, Bool.not_eq_true', decide_eq_true_eq, not_and] at hg
    cases e : p.2 with
    | nil => rfl
    | cons x xs => exact absurd (hg (by rw [e]; rfl)) (by lia)
theorem seen_all (V : MV m) (H : H8 m) : ∀ g, g ∈ plSeen m ↔ ∃ v, g = runS m v := plLoop_all V H 10 _ (PlR.zero V) (by show 1 + (9 - 1) <= 10; lia)
theorem seen_nodup (V : MV m) : (plSeen m).Nodup := srt_nodup (plSeen_inv V).srt
theorem seen_len (V : MV m) (H : H8 m) : (plSeen m).length <= 8 := H _ (seen_nodup V) fun g hg => (seen_all V H g).1 hg
structure Det (m : Mach) : Prop where
 mv : MV m
 i0 : ∃ i, m.1 = [i]
 one : ∀ p ∈ m.2.2, ∃ i j, p = ([i], [j])
 all : ∀ q, q < m.2.2.length -> ∃ v, run (nxP (pairsOf m)) (m.1.getD 0 0) v = q
theorem Det.md (h : Det m) : MD m := by
 obtain ⟨i, e⟩ := h.i0
 refine ⟨h.mv.len, h.mv.st.lt, fun p hp => ?_, by rw [e]; simp⟩
 obtain ⟨i, j, rfl⟩ := h.one p hp
 have := h.mv.ar _ hp
 exact ⟨i, j, rfl, this.1.lt i (by simp), this.2.lt j (by simp)⟩
noncomputable abbrev langD (m : Mach) (i : Nat) (v : List Bool) : Bool := acc (nxP (pairsOf m)) (finE m.2.1) i v
noncomputable abbrev runD (m : Mach) (v : List Bool) : Nat := run (nxP (pairsOf m)) (m.1.getD 0 0) v
theorem idx_at [BEq α] [LawfulBEq α] {l : List α} {x : α} (h : x ∈ l) : l[l.idxOf x]? = some x := by
 have := List.idxOf_lt_length_iff.2 h
 rw [List.getElem?_eq_getElem this, List.getElem_idxOf]
theorem nodup_idx {l : List α} (h : l.Nodup) {j : Nat} {x : α} (hi : l[i]? = some x) (hj : l[j]? = some x) : i = j := by
 obtain ⟨h1, e1⟩ := List.getElem?_eq_some_iff.1 hi
 obtain ⟨h2, e2⟩ := List.getElem?_eq_some_iff.1 hj
 rw [List.Nodup, List.pairwise_iff_getElem] at h
 rcases Nat.lt_trichotomy i j with hl | hl | hl
 ·exact absurd (e1.trans e2.symm) (h i j h1 h2 hl)
 ·exact hl
 ·exact absurd (e2.trans e1.symm) (h j i h2 h1 hl)
section
variable (V : MV m) (H : H8 m)
include V H
theorem seen_led (hg : g ∈ plSeen m) (b : Bool) : nxS m.2.2 g b ∈ plSeen m := by
 obtain ⟨v, rfl⟩ := (seen_all V H g).1 hg
 exact (seen_all V H _).2 ⟨v ++ [b], (runS_push m v b).symm⟩
theorem seen_start : m.1 ∈ plSeen m := (seen_all V H _).2 ⟨[], rfl⟩
omit V H in
theorem plain_pairs : pairsOf (plain m) = (plSeen m).map fun g => (idxIn (plSeen m) (nxS m.2.2 g false), idxIn (plSeen m) (nxS m.2.2 g true)) := by
 show ((plSeen m).map fun g => ([idxIn (plSeen m) (led m.2.2 g 0)], [idxIn (plSeen m) (led m.2.2 g 1)])).map _ = _
 rw [List.map_map]; rfl
theorem plain_step (h : (plSeen m)[i]? = some g) (b : Bool) : (plSeen m)[nxP (pairsOf (plain m)) i b]? = some (nxS m.2.2 g b) := by
 obtain ⟨hi, rfl⟩ := List.getElem?_eq_some_iff.1 h
 have hm : (plSeen m)[i] ∈ plSeen m := List.getElem_mem hi
 have e : nxP (pairsOf (plain m)) i b = idxIn (plSeen m) (nxS m.2.2 (plSeen m)[i] b) := by
  unfold nxP
  rw [plain_pairs, getD_lt (by simpa using hi)]
  cases b <;> simp
 rw [e, idxIn, if_pos (seen_led V H hm b)]
 exact idx_at (seen_led V H hm b)
omit V H in
theorem plain_fin (h : (plSeen m)[i]? = some g) : finE (plain m).2.1 i = finS m.2.1 g := by
 obtain ⟨hi, rfl⟩ := List.getElem?_eq_some_iff.1 h
 show decide (i ∈ plLast m (plSeen m)) = _
 unfold plLast finS
 rw [Bool.eq_iff_iff, decide_eq_true_eq, List.mem_filter, List.mem_range, getD_lt hi]
 simp [hi]
theorem plain_lang (h : (plSeen m)[i]? = some g) (v : List Bool) : langD (plain m) i v = langS m g v :=
 bisim (fun i g => (plSeen m)[i]? = some g) (fun i g h => plain_fin h) (fun i g h b => plain_step V H h b) v i g h
theorem plain_run (h : (plSeen m)[i]? = some g) (v : List Bool) : (plSeen m)[run (nxP (pairsOf (plain m))) i v]? = some (run (nxS m.2.2) g v) :=
 bisim_run (fun i g => (plSeen m)[i]? = some g) (fun i g h b => plain_step V H h b) v i g h
omit V H in
theorem one_set (h : i < n) : Set8 n [i] := ⟨List.pairwise_singleton _ _, fun x hx => by rw [jS.1 hx]; exact h⟩
omit V H in
theorem plain_len : (plain m).2.2.length = (plSeen m).length := by show ((plSeen m).map _).length = _; rw [List.length_map]
theorem plain_start : (plSeen m)[(plain m).1.getD 0 0]? = some m.1 := idx_at (seen_start V H)
theorem plain_det : Det (plain m) := by
 have hl : (plain m).2.2.length = (plSeen m).length := plain_len
 have ix : ∀ g, g ∈ plSeen m -> (plSeen m).idxOf g < (plSeen m).length := fun g hg => List.idxOf_lt_length_iff.2 hg
 have ixI : ∀ g, g ∈ plSeen m -> idxIn (plSeen m) g < (plSeen m).length := fun g hg => by rw [idxIn, if_pos hg]; exact ix g hg
 refine ⟨⟨by rw [hl]; exact seen_len V H, ?_, ⟨?_, fun x hx => ?_⟩, fun p hp => ?_⟩, ⟨_, rfl⟩, fun p hp => ?_, fun q hq => ?_⟩
 ·rw [hl]; exact one_set (ix _ (seen_start V H))
 ·show SortedBy ltN (plLast m _)
  unfold plLast
  refine List.Pairwise.sublist List.filter_sublist ?_
  exact List.pairwise_lt_range.imp fun h => by simpa [ltN] using h
 ·rw [hl]
  exact List.mem_range.1 (List.mem_filter.1 (hx : x ∈ plLast m _)).1
 ·obtain ⟨g, hg, rfl⟩ := jM.1 (hp : p ∈ (plSeen m).map _)
  rw [hl]
  exact ⟨one_set (ixI _ (seen_led V H hg false)), one_set (ixI _ (seen_led V H hg true))⟩
 ·obtain ⟨g, hg, rfl⟩ := jM.1 (hp : p ∈ (plSeen m).map _)
  exact ⟨_, _, rfl⟩
 ·rw [hl] at hq
  obtain ⟨v, hv⟩ := (seen_all V H _).1 (List.getElem_mem hq)
  refine ⟨v, nodup_idx (seen_nodup V) (plain_run V H (plain_start V H) v) ?_⟩
  rw [List.getElem?_eq_getElem hq, hv]
theorem plain_langS (v : List Bool) : langD (plain m) ((plain m).1.getD 0 0) v = langS m m.1 v := plain_lang V H (plain_start V H) v
end
end
section
open PyProof.Rows
noncomputable def turnedRow (a : List (List Nat × List Nat)) (s : Nat) : List Nat × List Nat :=
 ((List.range a.length).filter fun o => decide (s ∈ (a.getD o ([], [])).1), (List.range a.length).filter fun o => decide (s ∈ (a.getD o ([], [])).2))
noncomputable def turned (m : List Nat × List Nat × List (List Nat × List Nat)) : List Nat × List Nat × List (List Nat × List Nat) := (m.2.1, m.1, (List.range m.2.2.length).map (turnedRow m.2.2))
theorem turnedRow_sel (a : List (List Nat × List Nat)) (s l : Nat) : sel (turnedRow a s) l = (List.range a.length).filter fun o => decide (s ∈ sel (a.getD o ([], [])) l) := by
 unfold sel turnedRow
 split <;> rfl
section
theorem turned_body (C : Cx ba mg mb) {m : List Nat × List Nat × List (List Nat × List Nat)} (hm : m.2.2.length <= 100) :
  Ex pg w ba true 1 (fnScope (stmtAt 35)) [(N "machine", eM m)] [] (fnBody (stmtAt 35)) (RetP (eM (turned m))) := by
 conv => arg 9; whnf
 refine Ex.unpack (bs := [(N "arrows", eA m.2.2), (N "ends", eL m.2.1), (N "starts", eL m.1)]) (d := eM m) (by walk_at "v") ?_ ?_
 ·exact As.list (ds := [eL m.1, eL m.2.1, eA m.2.2]) (AsL.cons (AsL.cons (AsL.cons AsL.nil)))
 dsimp only [kA, kN]
 refine Ex.own (ds := []) EvN.nil fun a => ?_
 refine Ex.for (α := Nat) (enc := eN) (xs := List.range m.2.2.length) (bs := fun d => [(N "state", d)])
  (EvS.rng C (n := m.2.2.length) (Ev.len C (ds := m.2.2.map eP) (by walk_at "v") (by simp) (by lia)) (by lia)) (fun x hx => As.name)
  (fun pre => [(N "arrows", eA m.2.2), (N "ends", eL m.2.1), (N "starts", eL m.1), (N "back", .raw (.ref a))]) (fun pre => [(a, pre.map fun s => eP (turnedRow m.2.2 s))]) (by walk_at "v") (List.Sublist.refl _) ?_ ?_
 ·intro pre s post hpre
  dsimp only [kA, kN]
  have hlen : pre.length + 1 <= m.2.2.length := by have := congrArg List.length hpre; simp at this; lia
  refine Ex.append (d := eP (turnedRow m.2.2 s)) (by walk_at "v") ?_ (sizeOk (by simp; lia)) (Ex.nil ⟨by walk_at "v", ?_⟩)
  ·have e : eP (turnedRow m.2.2 s) = .list (((List.range 2).filter fun zz => true).map fun l => eL (sel (turnedRow m.2.2 s) l)) := rfl
   rw [e]
   refine Ev.comp (Γ' := [(N "arrows", eA m.2.2), (N "state", eN s)]) (enc := eN) (xs := List.range 2) (p := fun zz => true) (bs := fun d => [(N "letter", d)]) (EvS.rng C (n := 2) Ev.int (by lia)) (cmp1 (fun l hl zz => ?_) (sizeOk (by simp)))
   dsimp only [kA, kN]
   rw [turnedRow_sel]
   have hl2 : l < 2 := List.mem_range.1 hl
   have e2 : eL ((List.range m.2.2.length).filter fun o => decide (s ∈ sel (m.2.2.getD o ([], [])) l)) = .list (((List.range m.2.2.length).filter fun o => decide (s ∈ sel (m.2.2.getD o ([], [])) l)).map eN) := rfl
   rw [e2]
   refine Ev.comp (Γ' := [(N "arrows", eA m.2.2), (N "letter", eN l), (N "state", eN s)]) (enc := eN) (xs := List.range m.2.2.length) (bs := fun d => [(N "one", d)]) (EvS.rng C (Ev.len C (ds := m.2.2.map eP) (by walk_at "v") (by simp) (by lia)) (by lia))
    ⟨by kernel_rfl, by walk_at "v", (by kernel_rfl : [N "one"].all _ = true), fun zz => rfl, fun x hx => As.name, fun o ho => ?_, fun o ho zz => by walk_at "v", sizeOk (by simp; lia)⟩
   dsimp only [kA, kN]
   have ho' : o < m.2.2.length := List.mem_range.1 ho
   refine TrI.one (Tr.cmp (d_1 := eN s) (by walk_at "v") (Ev.item (ds := [eL (m.2.2.getD o ([], [])).1, eL (m.2.2.getD o ([], [])).2]) (i := l) (Ev.item (ds := m.2.2.map eP) (i := o) (by walk_at "v") (by walk_at "v") (by simp [ho', eP]) (by simp; lia)) (by walk_at "v") (eP_sel hl2) (by simp)) (in_dd Lay.nat (by lia) trivial fun zz zz => trivial) rfl)
  ·simp
 ·refine Ex.freeze (x := N "back") (by walk_at "v") ?_
  apply Ex.ret
  ·exact Ev.list (.cons (by walk_at "v") (.cons (by walk_at "v") (.cons (by walk_at "v") .nil))) (sizeOk (by simp))
  ·show Out.ret _ = Out.ret _
   simp [turned]
end
end
section
noncomputable abbrev Arrs := List (List Nat × List Nat)
noncomputable def arr (a : Arrs) (x : Nat) (b : Bool) : List Nat := sel (a.getD x ([], [])) (bit b)
noncomputable def Path (a : Arrs) : Nat -> List Bool -> Nat -> Prop
 | x, [], y => x = y
 | x, b :: v, y => ∃ z, z ∈ arr a x b /\ Path a z v y
theorem Path.app {a : Arrs} {v u : List Bool} {x y : Nat} : Path a x (v ++ u) y ↔ ∃ z, Path a x v z /\ Path a z u y := by
 induction v generalizing x with
 | nil => exact ⟨fun h => ⟨x, rfl, h⟩, fun ⟨z, e, h⟩ => by cases e; exact h⟩
 | cons b v ih =>
  constructor
  ·rintro ⟨z, hz, h⟩
   obtain ⟨t, h1, h2⟩ := ih.1 h
   exact ⟨t, ⟨z, hz, h1⟩, h2⟩
  ·rintro ⟨t, ⟨z, hz, h1⟩, h2⟩
   exact ⟨z, hz, ih.2 ⟨t, h1, h2⟩⟩
theorem arr_mem {a : Arrs} {x z : Nat} {b : Bool} (h : z ∈ arr a x b) : x < a.length /\ ∃ p ∈ a, z ∈ p.1 \/ z ∈ p.2 := by
 refine ⟨Nat.lt_of_not_le fun hn => ?_, sel_mem h⟩
 unfold arr at h
 rw [List.getD_eq_getElem?_getD, List.getElem?_eq_none hn] at h
 cases b <;> simp [sel, bit] at h
theorem MV.arr_lt (V : MV m) {x z : Nat} {b : Bool} (h : z ∈ arr m.2.2 x b) : z < m.2.2.length := by
 obtain ⟨_, p, hp, h | h⟩ := arr_mem h
 ·exact (V.ar p hp).1.lt z h
 ·exact (V.ar p hp).2.lt z h
theorem mem_nxS (V : MV m) {b : Bool} {z : Nat} : z ∈ nxS m.2.2 g b ↔ ∃ o ∈ g, z ∈ arr m.2.2 o b := by
 unfold nxS led gathered
 rw [mem_uniq]
 constructor
 ·rintro ⟨_, h⟩
  obtain ⟨l, hl, hz⟩ := List.mem_flatten.1 h
  obtain ⟨o, ho, rfl⟩ := jM.1 hl
  exact ⟨o, ho, hz⟩
 ·rintro ⟨o, ho, hz⟩
  exact ⟨Nat.lt_of_lt_of_le (V.arr_lt hz) V.len, List.mem_flatten.2 ⟨_, jM.2 ⟨o, ho, rfl⟩, hz⟩⟩
theorem mem_runS (V : MV m) {v : List Bool} {x : Nat} : x ∈ run (nxS m.2.2) g v ↔ ∃ o ∈ g, Path m.2.2 o v x := by
 induction v generalizing g with
 | nil => exact ⟨fun h => ⟨x, h, rfl⟩, fun ⟨o, ho, e⟩ => by cases e; exact ho⟩
 | cons b v ih =>
  show x ∈ run _ (nxS m.2.2 g b) v ↔ _
  rw [ih]
  constructor
  ·rintro ⟨z, hz, h⟩
   obtain ⟨o, ho, hz⟩ := (mem_nxS V).1 hz
   exact ⟨o, ho, z, hz, h⟩
  ·rintro ⟨o, ho, z, hz, h⟩
   exact ⟨z, (mem_nxS V).2 ⟨o, ho, hz⟩, h⟩
theorem langS_iff (V : MV m) {v : List Bool} : langS m g v = true ↔ ∃ o ∈ g, ∃ x, Path m.2.2 o v x /\ x ∈ m.2.1 := by
 unfold langS
 rw [acc_fin, finS_iff]
 constructor
 ·rintro ⟨x, hx, he⟩
  obtain ⟨o, ho, h⟩ := (mem_runS V).1 hx
  exact ⟨o, ho, x, h, he⟩
 ·rintro ⟨o, ho, x, h, he⟩
  exact ⟨x, (mem_runS V).2 ⟨o, ho, h⟩, he⟩
theorem filter_set8 (n : Nat) (p : Nat -> Bool) : Set8 n ((List.range n).filter p) :=
 ⟨List.Pairwise.sublist List.filter_sublist (List.pairwise_lt_range.imp fun h => by simpa [ltN] using h), fun x hx => List.mem_range.1 (List.mem_filter.1 hx).1⟩
theorem turned_len (m : Mach) : (turned m).2.2.length = m.2.2.length := by simp [turned]
theorem turned_mv (V : MV m) : MV (turned m) := by
 have hl := turned_len m
 refine ⟨by rw [hl]; exact V.len, by rw [hl]; exact V.en, by rw [hl]; exact V.st, fun p hp => ?_⟩
 rw [hl]
 obtain ⟨s, hs, rfl⟩ := jM.1 (hp : p ∈ (List.range m.2.2.length).map (turnedRow m.2.2))
 exact ⟨filter_set8 _ _, filter_set8 _ _⟩
theorem arr_turned {x z : Nat} {b : Bool} (hx : x < m.2.2.length) : z ∈ arr (turned m).2.2 x b ↔ z < m.2.2.length /\ x ∈ arr m.2.2 z b := by
 have e : (turned m).2.2.getD x ([], []) = turnedRow m.2.2 x := by
  show ((List.range m.2.2.length).map (turnedRow m.2.2)).getD x ([], []) = _
  rw [getD_lt (by simpa using hx), List.getElem_map, List.getElem_range]
 unfold arr
 rw [e, turnedRow_sel, List.mem_filter, List.mem_range, decide_eq_true_eq]
theorem path_turned {v : List Bool} {x y : Nat} (hx : x < m.2.2.length) : Path (turned m).2.2 x v y ↔ y < m.2.2.length /\ Path m.2.2 y v.reverse x := by
 induction v generalizing x with
 | nil => exact ⟨fun e => by cases e; exact ⟨hx, rfl⟩, fun ⟨zz1, e⟩ => by cases e; rfl⟩
 | cons b v ih =>
  rw [List.reverse_cons, Path.app]
  constructor
  ·rintro ⟨z, hz, h⟩
   obtain ⟨hz1, hz2⟩ := (arr_turned hx).1 hz
   obtain ⟨hy, h⟩ := (ih hz1).1 h
   exact ⟨hy, z, h, x, hz2, rfl⟩
  ·rintro ⟨hy, z, h, x', hz2, e⟩
   cases e
   have hz1 := (arr_mem hz2).1
   exact ⟨z, (arr_turned hx).2 ⟨hz1, hz2⟩, (ih hz1).2 ⟨hy, h⟩⟩
theorem turned_lang (V : MV m) (v : List Bool) : langS (turned m) m.2.1 v = langS m m.1 v.reverse := by
 rw [Bool.eq_iff_iff, langS_iff (turned_mv V), langS_iff V]
 constructor
 ·rintro ⟨o, ho, x, h, hx⟩
  exact ⟨x, hx, o, ((path_turned (V.en.lt o ho)).1 h).2, ho⟩
 ·rintro ⟨x, hx, o, h, ho⟩
  exact ⟨o, ho, x, (path_turned (V.en.lt o ho)).2 ⟨V.st.lt x hx, h⟩, hx⟩
section
variable {E : Mach} (D : Det E)
include D
theorem Det.nx_lt {x : Nat} (h : x < E.2.2.length) (b : Bool) : nxP (pairsOf E) x b < E.2.2.length := by
 have := nxP_lt (steps := pairsOf E) D.md.pairs (s := x) (by rw [pairsOf_len]; exact h) b
 rwa [pairsOf_len] at this
theorem Det.arr {x : Nat} (h : x < E.2.2.length) (b : Bool) : arr E.2.2 x b = [nxP (pairsOf E) x b] := by
 obtain ⟨i, j, e⟩ := D.one _ (List.getElem_mem h)
 unfold Mine.arr nxP pairsOf
 rw [getD_lt h, getD_lt (by simpa using h), List.getElem_map, e]
 cases b <;> rfl
theorem Det.path {v : List Bool} {x y : Nat} (h : x < E.2.2.length) : Path E.2.2 x v y ↔ y = run (nxP (pairsOf E)) x v := by
 induction v generalizing x with
 | nil => exact ⟨fun e => e.symm, fun e => e.symm⟩
 | cons b v ih =>
  show (∃ z, z ∈ Mine.arr E.2.2 x b /\ Path E.2.2 z v y) ↔ y = run (nxP (pairsOf E)) (nxP (pairsOf E) x b) v
  rw [D.arr h, <- ih (D.nx_lt h b)]
  constructor
  ·rintro ⟨z, hz, hp⟩
   rw [jS.1 hz] at hp; exact hp
  ·exact fun hp => ⟨_, jS.2 rfl, hp⟩
theorem Det.i0_lt : E.1.getD 0 0 < E.2.2.length := by
 obtain ⟨i, e⟩ := D.i0
 have := D.mv.st.lt i (by rw [e]; simp)
 rw [e]; exact this
theorem Det.start : E.1 = [E.1.getD 0 0] := by
 obtain ⟨i, e⟩ := D.i0
 rw [e]; rfl
theorem Det.back {S : List Nat} (hS : Set8 E.2.2.length S) (v : List Bool) : langS (turned E) S v = decide (runD E v.reverse ∈ S) := by
 rw [Bool.eq_iff_iff, langS_iff (turned_mv D.mv), decide_eq_true_eq]
 show (∃ o ∈ S, ∃ x, Path (turned E).2.2 o v x /\ x ∈ E.1) ↔ _
 rw [D.start]
 constructor
 ·rintro ⟨o, ho, x, h, hx⟩
  rw [List.mem_singleton] at hx
  obtain ⟨h1, h2⟩ := (path_turned (hS.lt o ho)).1 h
  have := (D.path h1).1 h2
  rw [hx] at this
  show run _ _ _ ∈ S
  rw [<- this]; exact ho
 ·intro h
  exact ⟨_, h, _, (path_turned (hS.lt _ h)).2 ⟨D.i0_lt, (D.path D.i0_lt).2 rfl⟩, jS.2 rfl⟩
omit D in
theorem srt_ext : ∀ {xs ys : List Nat}, SortedBy ltN xs -> SortedBy ltN ys -> (∀ x, x ∈ xs ↔ x ∈ ys) -> xs = ys
 | [], [], _, _, _ => rfl
 | [], y :: ys, _, _, h => by have := (h y).2 jC; cases this
 | x :: xs, [], _, _, h => by have := (h x).1 jC; cases this
 | x :: xs, y :: ys, sx, sy, h => by
  rw [SortedBy, List.pairwise_cons] at sx sy
  have lx : ∀ z ∈ xs, x < z := fun z hz => by simpa [ltN] using sx.1 z hz
  have ly : ∀ z ∈ ys, y < z := fun z hz => by simpa [ltN] using sy.1 z hz
  have e : x = y := by
   rcases jK.1 ((h x).1 jC) with e | hm
   ·exact e
   ·rcases jK.1 ((h y).2 jC) with e | hm'
    ·exact e.symm
    ·have := ly x hm; have := lx y hm'; lia
  subst e
  rw [srt_ext sx.2 sy.2 fun z => ?_]
  constructor
  ·intro hz
   rcases jK.1 ((h z).1 (jT _ hz)) with e | hm
   ·have := lx z hz; lia
   ·exact hm
  ·intro hz
   rcases jK.1 ((h z).2 (jT _ hz)) with e | hm
   ·have := ly z hz; lia
   ·exact hm
theorem Det.back_inj {S S' : List Nat} (hS : Set8 E.2.2.length S) (hS' : Set8 E.2.2.length S') (h : ∀ v, langS (turned E) S v = langS (turned E) S' v) : S = S' := by
 refine srt_ext hS.srt hS'.srt fun q => ?_
 have key : ∀ q, q < E.2.2.length -> (q ∈ S ↔ q ∈ S') := fun q hq => by
  obtain ⟨v, hv⟩ := D.all q hq
  have := h v.reverse
  rw [D.back hS, D.back hS', List.reverse_reverse, Bool.eq_iff_iff, decide_eq_true_eq, decide_eq_true_eq] at this
  rw [<- hv]; exact this
 exact ⟨fun hq => (key q (hS.lt q hq)).1 hq, fun hq => (key q (hS'.lt q hq)).2 hq⟩
end
theorem run_set8 (V : MV m) (v : List Bool) : Set8 m.2.2.length (runS m v) := by
 have : ∀ (v : List Bool) (g : List Nat), Set8 m.2.2.length g -> Set8 m.2.2.length (run (nxS m.2.2) g v) := fun v => by
  induction v with
  | nil => exact fun g h => h
  | cons b v ih => exact fun g h => ih _ (led_good V g _)
 exact this v _ V.st
noncomputable def subs3 : List (List Nat) := [[], [2], [1], [1, 2], [0], [0, 2], [0, 1], [0, 1, 2]]
theorem subs3_all (h : Set8 3 g) : g ∈ subs3 := by
 have e : g = (List.range 3).filter fun x => decide (x ∈ g) := srt_ext h.srt (filter_set8 3 _).srt fun x => by
  rw [List.mem_filter, List.mem_range, decide_eq_true_eq]
  exact ⟨fun hx => ⟨h.lt x hx, hx⟩, fun hx => hx.2⟩
 rw [e]
 generalize (fun x => decide (x ∈ g)) = p
 have : (List.range 3).filter p = (if p 0 then [0] else []) ++ ((if p 1 then [1] else []) ++ (if p 2 then [2] else [])) := by
  show [0, 1, 2].filter p = _
  simp only [List.filter_cons, List.filter_nil]
  cases p 0 <;> cases p 1 <;> cases p 2 <;> rfl
 rw [this]
 cases p 0 <;> cases p 1 <;> cases p 2 <;> decide
theorem three_H8 {N : Mach} (V : MV N) (h3 : N.2.2.length = 3) : H8 N := fun l hl h => by
 refine nodup_len (l' := subs3) hl fun g hg => ?_
 obtain ⟨v, rfl⟩ := h g hg
 have := run_set8 V v
 rw [h3] at this
 exact subs3_all this
section
variable {N E : Mach} (V : MV N) (h3 : N.2.2.length = 3) (D : Det E) (hl : ∀ v, langD E (E.1.getD 0 0) v = langS N N.1 v.reverse)
include D hl
theorem brz_lang (v : List Bool) : langS (turned E) (turned E).1 v = langS N N.1 v := by
 show langS (turned E) E.2.1 v = _
 rw [D.back D.mv.en, <- List.reverse_reverse v, <- hl, langD, acc_fin, List.reverse_reverse]
 rfl
theorem brz_res (v u : List Bool) : langS (turned E) (runS (turned E) v) u = langS N (runS N v) u := by
 show acc _ _ (run _ _ v) u = acc _ _ (run _ _ v) u
 rw [<- acc_run, <- acc_run]
 exact brz_lang D hl _
include V h3
theorem brz_H8 : H8 (turned E) := fun l nd h => by
 classical
 let f : List Nat -> List Nat := fun g => if hg : ∃ v, g = runS (turned E) v then runS N hg.choose else []
 have hf : ∀ g ∈ l, ∃ v, g = runS (turned E) v /\ f g = runS N v := fun g hg => by
  have hx := h g hg
  exact ⟨hx.choose, hx.choose_spec, by simp only [f]; rw [dif_pos hx]⟩
 have nd' : (l.map f).Nodup := by
  rw [List.Nodup, List.pairwise_map]
  refine nd.imp_of_mem fun {a b} ha hb hne e => hne ?_
  obtain ⟨v, rfl, ev⟩ := hf a ha
  obtain ⟨u, rfl, eu⟩ := hf b hb
  have s1 := run_set8 (turned_mv D.mv) v
  have s2 := run_set8 (turned_mv D.mv) u
  rw [turned_len] at s1 s2
  refine D.back_inj s1 s2 fun t => ?_
  rw [brz_res D hl, brz_res D hl, <- ev, <- eu, e]
 have := nodup_len (l' := subs3) nd' fun g hg => by
  obtain ⟨a, ha, rfl⟩ := jM.1 hg
  obtain ⟨v, _, ev⟩ := hf a ha
  rw [ev]
  have := run_set8 V v
  rw [h3] at this
  exact subs3_all this
 rw [List.length_map] at this
 exact this
end
end
section
noncomputable def enc3 (g : List Nat) : Nat := (if 0 ∈ g then 4 else 0) + (if 1 ∈ g then 2 else 0) + (if 2 ∈ g then 1 else 0)
theorem enc3_lt (g : List Nat) : enc3 g < 8 := by unfold enc3; split <;> split <;> split <;> lia
theorem enc3_inj {g' : List Nat} (h : Set8 3 g) (h' : Set8 3 g') (e : enc3 g = enc3 g') : g = g' :=
 (by decide : ∀ g ∈ subs3, ∀ g' ∈ subs3, enc3 g = enc3 g' -> g = g') g (subs3_all h) g' (subs3_all h') e
section
variable {steps : List (Nat × Nat)} {st : Nat} (h8 : steps.length = 8) (hin : ∀ p ∈ steps, p.1 < 8 /\ p.2 < 8) (hst : st < 8)
theorem mem_succs {g x : Nat} : x ∈ succs steps g ↔ ∃ b, x = nxP steps g b := by
 unfold succs nxP
 simp only [List.mem_cons, List.not_mem_nil, or_false]
 constructor
 ·rintro (e | e)
  ·exact ⟨false, e⟩
  ·exact ⟨true, e⟩
 ·rintro ⟨b, e⟩
  cases b
  ·exact .inl e
  ·exact .inr e
include h8 hin
theorem nx8 {g : Nat} (h : g < 8) (b : Bool) : nxP steps g b < 8 := by
 have := nxP_lt (steps := steps) (fun p hp => by rw [h8]; exact hin p hp) (s := g) (by rw [h8]; exact h) b
 rwa [h8] at this
include hst
theorem mem_reach {t x : Nat} : x ∈ reach steps st (t + 1) ↔ x ∈ reach steps st t \/ ∃ g ∈ reach steps st t, ∃ b, x = nxP steps g b := by
 rw [reach_s, mem_uniq, List.mem_append, List.mem_flatMap]
 have rl := reach_lt (steps := steps) hst t
 constructor
 ·rintro ⟨_, h | ⟨g, hg, h⟩⟩
  ·exact .inl h
  ·exact .inr ⟨g, hg, mem_succs.1 h⟩
 ·rintro (h | ⟨g, hg, b, e⟩)
  ·exact ⟨rl x h, .inl h⟩
  ·exact ⟨by rw [e]; exact nx8 h8 hin (rl g hg) b, .inr ⟨g, hg, mem_succs.2 ⟨b, e⟩⟩⟩
omit h8 hin hst in
theorem reach_nodup (t : Nat) : (reach steps st t).Nodup := by
 cases t with
 | zero => simp [reach_0]
 | succ t => exact (uniq_srt _).imp fun {a b} h e => by subst e; simp [ltN] at h
theorem reach_grow (t : Nat) : (∀ x ∈ reach steps st t, ∀ b, nxP steps x b ∈ reach steps st t) \/ t + 1 <= (reach steps st t).length := by
 have key : ∀ t, (∀ x ∈ reach steps st t, ∀ b, nxP steps x b ∈ reach steps st t) -> ∀ x ∈ reach steps st (t + 1), ∀ b, nxP steps x b ∈ reach steps st (t + 1) := fun t h x hx b => by
  have same : ∀ y, y ∈ reach steps st (t + 1) ↔ y ∈ reach steps st t := fun y => by
   rw [mem_reach h8 hin hst]
   exact ⟨fun hy => hy.elim id fun ⟨g, hg, b, e⟩ => e ▸ h g hg b, .inl⟩
  rw [same] at hx ⊢
  exact h x hx b
 induction t with
 | zero => exact .inr (by simp [reach_0])
 | succ t ih =>
  rcases ih with h | h
  ·exact .inl (key t h)
  ·by_cases hs : ∀ x ∈ reach steps st (t + 1), x ∈ reach steps st t
   ·exact .inl (key t fun x hx b => hs _ ((mem_reach h8 hin hst).2 (.inr ⟨x, hx, b, rfl⟩)))
   ·refine .inr ?_
    obtain ⟨x, hx, hn⟩ : ∃ x ∈ reach steps st (t + 1), x ∉ reach steps st t := Classical.byContradiction fun hn => hs fun x hx => Classical.byContradiction fun h => hn ⟨x, hx, h⟩
    have := nodup_len (l := x :: reach steps st t) (l' := reach steps st (t + 1)) (List.nodup_cons.2 ⟨hn, reach_nodup t⟩) fun y hy => (jK.1 hy).elim (fun e => e ▸ hx) fun hy => (mem_reach h8 hin hst).2 (.inl hy)
    rw [List.length_cons] at this
    lia
theorem reach_all {x : Nat} : x ∈ reach steps st 7 ↔ ∃ v, x = run (nxP steps) st v := by
 have rl := reach_lt (steps := steps) hst 7
 constructor
 ·have : ∀ t x, x ∈ reach steps st t -> ∃ v, x = run (nxP steps) st v := fun t => by
   induction t with
   | zero => exact fun x hx => ⟨[], jS.1 hx⟩
   | succ t ih =>
    intro x hx
    rcases (mem_reach h8 hin hst).1 hx with h | ⟨g, hg, b, e⟩
    ·exact ih x h
    ·obtain ⟨v, rfl⟩ := ih g hg
     exact ⟨v ++ [b], by rw [e, run_app]; rfl⟩
  exact this 7 x
 ·rintro ⟨v, rfl⟩
  have hc : ∀ x ∈ reach steps st 7, ∀ b, nxP steps x b ∈ reach steps st 7 := by
   rcases reach_grow h8 hin hst 7 with h | h
   ·exact h
   ·have all : ∀ x, x < 8 -> x ∈ reach steps st 7 := fun x hx => Classical.byContradiction fun hn => by
     have := nodup_len (l := x :: reach steps st 7) (l' := List.range 8) (List.nodup_cons.2 ⟨hn, reach_nodup 7⟩) fun y hy => List.mem_range.2 ((jK.1 hy).elim (fun e => e ▸ hx) (rl y))
     rw [List.length_cons, List.length_range] at this
     lia
    exact fun x hx b => all _ (nx8 h8 hin (rl x hx) b)
  have h0 : st ∈ reach steps st 7 := by
   have : ∀ t, st ∈ reach steps st t := fun t => by
    induction t with
    | zero => exact jS.2 rfl
    | succ t ih => exact (mem_reach h8 hin hst).2 (.inl ih)
   exact this 7
  have go : ∀ (v : List Bool) (x : Nat), x ∈ reach steps st 7 -> run (nxP steps) x v ∈ reach steps st 7 := fun v => by
   induction v with
   | nil => exact fun x hx => hx
   | cons b v ih => exact fun x hx => ih _ (hc x hx b)
  exact go v st h0
end
noncomputable abbrev Card := List (List Bool)
noncomputable abbrev ltC : Card -> Card -> Bool := ltL ltW
theorem linC : Lin ltC (fun zz => True) := Lin.word.list.tot fun xs x zz => trivial
theorem sortB_congr {xs ys : List Card} (h : xs.Perm ys) : sortB ltC xs = sortB ltC ys := sortB_unique linC ((sortB_perm xs).trans h) (sortB_sorted linC xs)
theorem strict_unique : ∀ {xs ys : List Card}, SortedBy ltC xs -> SortedBy ltC ys -> (∀ x, x ∈ xs ↔ x ∈ ys) -> xs = ys := fun {xs ys} sx sy h => by
 have nx : xs.Nodup := sx.imp fun {a b} h e => by subst e; rw [linC.irr] at h; cases h
 have ny : ys.Nodup := sy.imp fun {a b} h e => by subst e; rw [linC.irr] at h; cases h
 have weak : ∀ {l : List Card}, SortedBy ltC l -> l.Pairwise fun a b => ltC b a = false := fun h => h.imp fun {a b} h => by
  cases e : ltC b a with
  | false => rfl
  | true => have := linC.tr _ _ _ h e; rw [linC.irr] at this; cases this
 have hp : xs.Perm ys := (List.perm_ext_iff_of_nodup nx ny).2 h
 rw [sortB_unique linC (List.Perm.refl xs) (weak sx), sortB_unique linC (List.Perm.refl ys) (weak sy)]
 exact sortB_congr hp
theorem sortB_strict {xs : List Card} (h : xs.Nodup) : SortedBy ltC (sortB ltC xs) := by
 have h1 := sortB_sorted linC xs
 have h2 : (sortB ltC xs).Nodup := (sortB_perm xs).nodup_iff.2 h
 exact (h1.and h2).imp fun {a b} ⟨h3, h4⟩ => by
  rcases linC.tri a b trivial trivial h4 with h | h
  ·exact h
  ·rw [h] at h3; cases h3
theorem kindsOf_push (cs : List Card) (x : Card) : kindsOf (cs ++ [x]) = kindsOf cs ++ if cs = [] \/ cs.getLast? ≠ some x then [x] else [] := by
 have e1 : (cs ++ [x]).length = cs.length + 1 := by simp
 have gl : ∀ i, i < cs.length -> (cs ++ [x]).getD i [] = cs.getD i [] := fun i hi => by
  rw [getD_lt (by simp; lia), getD_lt hi, List.getElem_append_left hi]
 have gr : (cs ++ [x]).getD cs.length [] = x := by
  rw [getD_lt (by simp)]; simp
 unfold kindsOf
 rw [e1, List.range_succ, List.filter_append, List.map_append]
 congr 1
 ·have ef : (List.range cs.length).filter (keepK (cs ++ [x])) = (List.range cs.length).filter (keepK cs) := by
   refine List.filter_congr fun i hi => ?_
   have hi := List.mem_range.1 hi
   unfold keepK
   rw [gl i hi, gl (i - 1) (by lia)]
  rw [ef]
  exact List.map_congr_left fun i hi => gl i (List.mem_range.1 (List.mem_filter.1 hi).1)
 ·have ek : keepK (cs ++ [x]) cs.length = decide (cs = [] \/ cs.getLast? ≠ some x) := by
   unfold keepK
   rw [gr]
   cases cs with
   | nil => simp
   | cons y ys =>
    rw [gl _ (by simp), Bool.eq_iff_iff]
    have : (y :: ys).getLast? = some ((y :: ys).getD ((y :: ys).length - 1) []) := by
     rw [List.getLast?_eq_getElem?, getD_lt (by simp), List.getElem?_eq_getElem (by simp)]
    rw [this]
    simp only [Bool.or_eq_true, decide_eq_true_eq, Bool.not_eq_true', decide_eq_false_iff_not, Option.some.injEq, ne_eq]
    constructor
    ·rintro (h | h)
     ·simp at h
     ·exact .inr fun e => h e.symm
    ·rintro (h | h)
     ·simp at h
     ·exact .inr fun e => h e.symm
  rw [List.filter_cons, List.filter_nil, ek]
  by_cases h : cs = [] \/ cs.getLast? ≠ some x
  ·simp [h, gr]
  ·simp [h]
theorem kindsOf_facts (cs : List Card) (h : cs.Pairwise fun a b => ltC b a = false) : SortedBy ltC (kindsOf cs) /\ ∀ x, x ∈ kindsOf cs ↔ x ∈ cs := by
 have key : ∀ rs : List Card, rs.reverse.Pairwise (fun a b => ltC b a = false) -> SortedBy ltC (kindsOf rs.reverse) /\ ∀ x, x ∈ kindsOf rs.reverse ↔ x ∈ rs.reverse := by
  intro rs
  induction rs with
  | nil => exact fun zz => ⟨List.Pairwise.nil, fun x => Iff.rfl⟩
  | cons x rs ih =>
   intro h
   rw [List.reverse_cons] at h ⊢
   rw [List.pairwise_append] at h
   obtain ⟨i1, i2⟩ := ih h.1
   generalize hr : rs.reverse = l at *
   rw [kindsOf_push]
   by_cases hc : l = [] \/ l.getLast? ≠ some x
   ·rw [if_pos hc]
    refine ⟨List.pairwise_append.2 ⟨i1, List.pairwise_singleton _ _, fun a ha b hb => ?_⟩, fun y => by rw [List.mem_append, List.mem_append, i2]⟩
    rw [jS.1 hb]
    have ha' := (i2 a).1 ha
    have h1 := h.2.2 a ha' x (jS.2 rfl)
    have hne : a ≠ x := fun e => by
     subst e
     rcases hc with hc | hc
     ·rw [hc] at ha'; cases ha'
     ·refine hc ?_
      obtain ⟨z, hz⟩ : ∃ z, l.getLast? = some z := by
       cases l with
       | nil => cases ha'
       | cons y ys => exact ⟨_, List.getLast?_eq_some_getLast (by simp)⟩
      obtain ⟨ys, rfl⟩ := List.getLast?_eq_some_iff.1 hz
      have hz2 := h.2.2 z (by simp) a (jS.2 rfl)
      rcases jA.1 ha' with hm | hm
      ·have hp := (List.pairwise_append.1 h.1).2.2 a hm z (jS.2 rfl)
       by_cases e : z = a
       ·rw [hz, e]
       ·rcases linC.tri z a trivial trivial e with t | t
        ·rw [t] at hp; cases hp
        ·rw [t] at hz2; cases hz2
      ·rw [hz, jS.1 hm]
    rcases linC.tri a x trivial trivial hne with t | t
    ·exact t
    ·rw [t] at h1; cases h1
   ·rw [if_neg hc, List.append_nil]
    refine ⟨i1, fun y => ?_⟩
    rw [i2, List.mem_append, List.mem_singleton]
    constructor
    ·exact .inl
    ·rintro (hy | rfl)
     ·exact hy
     ·have : l.getLast? = some y := Classical.byContradiction fun hn => hc (.inr hn)
      exact List.mem_of_getLast? this
 have := key cs.reverse (by rw [List.reverse_reverse]; exact h)
 rwa [List.reverse_reverse] at this
set_option tactic.hygienic true in
theorem ul_count (ys : Card) (x : List Bool) : ∀ xs, (ul xs ys).2.count x = ys.count x - xs.count x
 | [] => by simp [ul]
 | y :: xs => by
  have ih := ul_count ys x xs
  show (ulF y (ul xs ys)).2.count x = _
  unfold ulF
  rw [List.count_cons]
  split
  ·rename_i h
   rw [List.count_erase, ih]
   by_cases e : y = x
   ·subst e; simp; lia
   ·simp [e]
  ·rename_i h
   by_cases e : y = x
   ·subst e
    have := List.count_eq_zero.2 h
    rw [ih] at this
    simp only [ih, beq_self_eq_true, if_true]; lia
   ·simp [e, ih]
theorem downs_succ (n : Nat) : downs (n + 1) = (downs n).map (· + 1) ++ [0] := by
 unfold downs
 rw [List.range_succ, List.map_append, List.map_map]
 congr 1
 ·refine List.map_congr_left fun i hi => ?_
  have := List.mem_range.1 hi
  simp only [Function.comp_apply]; lia
 ·simp
theorem lackB_cons (x : List Bool) (xs ys : Card) : lackB (x :: xs) ys = lackB xs ys ++ if ys.count x < xs.count x + 1 then [x] else [] := by
 unfold lackB
 rw [List.length_cons, downs_succ, List.filter_append, List.map_append, List.filter_map, List.map_map]
 congr 1
 rw [List.filter_cons, List.filter_nil]
 have e : List.count ((x :: xs).getD 0 []) (List.drop 0 (x :: xs)) = xs.count x + 1 := by simp
 have e0 : (x :: xs).getD 0 [] = x := rfl
 rw [e, e0]
 split <;> simp_all
theorem ul_lack (ys : Card) : ∀ xs, (ul xs ys).1 = lackB xs ys
 | [] => rfl
 | x :: xs => by
  rw [lackB_cons, <- ul_lack ys xs]
  show (ulF x (ul xs ys)).1 = _
  have hc := ul_count ys x xs
  unfold ulF
  by_cases h : x ∈ (ul xs ys).2
  ·have := List.count_pos_iff.2 h
   rw [if_pos h, if_neg (by lia), List.append_nil]
  ·have := List.count_eq_zero.2 h
   rw [if_neg h, if_pos (by lia)]
theorem bags_true {one two : Card} (nd : two.Nodup) (h : ∀ x ∈ two, x ∈ one) : bags one two = true := by
 have e2 : (ul one two).2 = [] := by
  refine List.eq_nil_iff_forall_not_mem.2 fun x hx => ?_
  have h1 := List.count_pos_iff.2 hx
  rw [ul_count] at h1
  have h2 : two.count x <= 1 := List.nodup_iff_count.1 nd x
  have h3 : x ∈ two := List.count_pos_iff.1 (by lia)
  have := List.count_pos_iff.2 (h x h3)
  lia
 unfold bags
 have e1 : ul one two = (lackB one two, []) := Prod.ext (ul_lack two one) e2
 rw [e1]; simp
end
section
structure Num (N : Mach) (steps : List (Nat × Nat)) (st en : Nat) : Prop where
 mv : MV N
 three : N.2.2.length = 3
 len : steps.length = 8
 in8 : ∀ p ∈ steps, p.1 < 8 /\ p.2 < 8
 step : ∀ g, Set8 3 g -> ∀ b, enc3 (nxS N.2.2 g b) = nxP steps (enc3 g) b
 start : st = enc3 N.1
 fin : ∀ g, Set8 3 g -> finE (groupsOf en) (enc3 g) = finS N.2.1 g
theorem Det.own_at (D : Det m) (h : i < m.2.2.length) : (ownOf m).getD i [] = lookS (nxP (pairsOf m)) (finE m.2.1) 6 i := looks_at D.md.pairs (by rw [pairsOf_len]; exact h)
theorem Det.cards (D : Det m) : cards (ownOf m) (pairsOf m) (List.range (ownOf m).length) = sortB ltC ((List.range m.2.2.length).map (cardS (nxP (pairsOf m)) (finE m.2.1))) := by
 unfold Mine.cards
 rw [ownOf_len, pairsOf_len]
 congr 1
 exact List.map_congr_left fun i hi => card_at D.md.pairs (by rw [pairsOf_len]; exact List.mem_range.1 hi)
section
variable {N : Mach} {steps : List (Nat × Nat)} {st en : Nat} (hN : Num N steps st en)
include hN
theorem Num.st_set : Set8 3 N.1 := by have := hN.mv.st; rwa [hN.three] at this
theorem Num.st_lt : st < 8 := by rw [hN.start]; exact enc3_lt _
theorem Num.run_set (v : List Bool) : Set8 3 (runS N v) := by have := run_set8 hN.mv v; rwa [hN.three] at this
theorem Num.nx_set (b : Bool) : Set8 3 (nxS N.2.2 g b) := by have := led_good hN.mv g (bit b); rwa [hN.three] at this
theorem Num.lang (hg : Set8 3 g) (v : List Bool) : acc (nxP steps) (finE (groupsOf en)) (enc3 g) v = langS N g v :=
 (bisim (fun g u => Set8 3 g /\ u = enc3 g) (fun g u ⟨h1, h2⟩ => by subst h2; exact (hN.fin g h1).symm) (fun g u ⟨h1, h2⟩ b => by subst h2; exact ⟨hN.nx_set b, (hN.step g h1 b).symm⟩) v g (enc3 g) ⟨hg, rfl⟩).symm
theorem Num.run (v : List Bool) : Mine.run (nxP steps) st v = enc3 (runS N v) := by
 have := bisim_run (nx := nxS N.2.2) (nx' := nxP steps) (fun g u => Set8 3 g /\ u = enc3 g) (fun g u ⟨h1, h2⟩ b => by subst h2; exact ⟨hN.nx_set b, (hN.step g h1 b).symm⟩) v N.1 st ⟨hN.st_set, hN.start⟩
 exact this.2
theorem Num.H8 : Mine.H8 N := three_H8 hN.mv hN.three
theorem Num.mem_reach {x : Nat} : x ∈ reach steps st 7 ↔ ∃ v, x = enc3 (runS N v) := by
 rw [reach_all hN.len hN.in8 hN.st_lt]
 constructor
 ·rintro ⟨v, e⟩; exact ⟨v, by rw [e, hN.run]⟩
 ·rintro ⟨v, e⟩; exact ⟨v, by rw [e, hN.run]⟩
theorem Num.look_st {lk : List (List Bool)} (elk : lk = looks (groupsOf en) steps) : lk.getD st [] = lookS (nxP steps) (finE (groupsOf en)) 6 st := by
 rw [elk]; exact looks_at (fun p hp => by rw [hN.len]; exact hN.in8 p hp) (by rw [hN.len]; exact hN.st_lt)
theorem Num.cards {lk : List (List Bool)} {cs : List Card} (elk : lk = looks (groupsOf en) steps) (ecs : cs = Mine.cards lk steps (reach steps st 7)) : cs = sortB ltC ((reach steps st 7).map (cardS (nxP steps) (finE (groupsOf en)))) := by
 rw [ecs, elk]
 unfold Mine.cards
 congr 1
 exact List.map_congr_left fun i hi => card_at (fun p hp => by rw [hN.len]; exact hN.in8 p hp) (by rw [hN.len]; exact reach_lt hN.st_lt 7 i hi)
theorem Num.start_fits (D : Det m) (hl : ∀ v, langD m (m.1.getD 0 0) v = langS N N.1 v) {lk : List (List Bool)} (elk : lk = looks (groupsOf en) steps) : m.1.map (fun i => (ownOf m).getD i []) = [lk.getD st []] := by
 have e : m.1.map (fun i => (ownOf m).getD i []) = [(ownOf m).getD (m.1.getD 0 0) []] := by
  rw [D.start]; rfl
 rw [e, D.own_at D.i0_lt, hN.look_st elk, (lookS_eq 6 (m.1.getD 0 0) st).2 fun v zz => ?_]
 show langD m _ v = _
 rw [hl, hN.start, hN.lang hN.st_set]
theorem Num.fits1 {lk : List (List Bool)} {cs : List Card} (elk : lk = looks (groupsOf en) steps) (ecs : cs = Mine.cards lk steps (reach steps st 7)) : Fits (plain N) cs (lk.getD st []) := by
 have D := plain_det hN.mv hN.H8
 refine ⟨?_, hN.start_fits D (plain_langS hN.mv hN.H8) elk⟩
 rw [D.cards, hN.cards elk ecs]
 have e : (List.range (plain N).2.2.length).map (cardS (nxP (pairsOf (plain N))) (finE (plain N).2.1)) = ((plSeen N).map enc3).map (cardS (nxP steps) (finE (groupsOf en))) := by
  rw [plain_len, List.map_map]
  refine List.ext_getElem (by simp) fun i h1 h2 => ?_
  have hi : i < (plSeen N).length := by simpa using h1
  rw [List.getElem_map, List.getElem_map, List.getElem_range]
  refine cardS_eq fun v => ?_
  obtain ⟨u, hu⟩ := (seen_all hN.mv hN.H8 _).1 (List.getElem_mem hi)
  have := plain_lang hN.mv hN.H8 (List.getElem?_eq_getElem hi) v
  rw [langD] at this
  rw [this, hN.lang (by rw [hu]; exact hN.run_set u)]
 rw [e]
 refine sortB_congr (List.Perm.map _ ?_)
 refine (List.perm_ext_iff_of_nodup ?_ (reach_nodup 7)).2 fun x => ?_
 ·rw [List.Nodup, List.pairwise_map]
  refine (seen_nodup hN.mv).imp_of_mem fun {a b} ha hb hne e => hne ?_
  obtain ⟨u, rfl⟩ := (seen_all hN.mv hN.H8 _).1 ha
  obtain ⟨v, rfl⟩ := (seen_all hN.mv hN.H8 _).1 hb
  exact enc3_inj (hN.run_set u) (hN.run_set v) e
 ·rw [hN.mem_reach, List.mem_map]
  constructor
  ·rintro ⟨g, hg, rfl⟩
   obtain ⟨v, rfl⟩ := (seen_all hN.mv hN.H8 _).1 hg
   exact ⟨v, rfl⟩
  ·rintro ⟨v, rfl⟩
   exact ⟨_, (seen_all hN.mv hN.H8 _).2 ⟨v, rfl⟩, rfl⟩
variable {E : Mach} (D : Det E) (hl : ∀ v, langD E (E.1.getD 0 0) v = langS N N.1 v.reverse)
include D hl
theorem Num.tH8 : Mine.H8 (turned E) := brz_H8 hN.mv hN.three D hl
theorem Num.det2 : Det (plain (turned E)) := plain_det (turned_mv D.mv) (hN.tH8 D hl)
theorem Num.lang2 (v : List Bool) : langD (plain (turned E)) ((plain (turned E)).1.getD 0 0) v = langS N N.1 v := by
 rw [plain_langS (turned_mv D.mv) (hN.tH8 D hl)]
 exact brz_lang D hl v
theorem Num.lang_at (hi : i < (plain (turned E)).2.2.length) : ∃ u, ((plSeen (turned E))[i]? = some (runS (turned E) u)) /\ ∀ v, langD (plain (turned E)) i v = acc (nxP steps) (finE (groupsOf en)) (enc3 (runS N u)) v := by
 rw [plain_len] at hi
 obtain ⟨u, hu⟩ := (seen_all (turned_mv D.mv) (hN.tH8 D hl) _).1 (List.getElem_mem hi)
 have hs : (plSeen (turned E))[i]? = some (runS (turned E) u) := by rw [List.getElem?_eq_getElem hi, hu]
 refine ⟨u, hs, fun v => ?_⟩
 rw [plain_lang (turned_mv D.mv) (hN.tH8 D hl) hs, brz_res D hl, hN.lang (hN.run_set u)]
theorem Num.look_inj {j : Nat} (hi : i < (plain (turned E)).2.2.length) (hj : j < (plain (turned E)).2.2.length)
  (e : lookS (nxP (pairsOf (plain (turned E)))) (finE (plain (turned E)).2.1) 6 i = lookS (nxP (pairsOf (plain (turned E)))) (finE (plain (turned E)).2.1) 6 j) : i = j := by
 have D2 := hN.det2 D hl
 have el := look_tells D2.mv.len (fun s hs b => D2.nx_lt hs b) hi hj e
 obtain ⟨u, hu, _⟩ := hN.lang_at D hl hi
 obtain ⟨t, ht, _⟩ := hN.lang_at D hl hj
 refine nodup_idx (seen_nodup (turned_mv D.mv)) hu ?_
 have s1 := run_set8 (turned_mv D.mv) u
 have s2 := run_set8 (turned_mv D.mv) t
 rw [turned_len] at s1 s2
 rw [ht, D.back_inj s1 s2 fun v => ?_]
 rw [<- plain_lang (turned_mv D.mv) (hN.tH8 D hl) hu, <- plain_lang (turned_mv D.mv) (hN.tH8 D hl) ht]
 exact el v
theorem Num.fits2 {lk : List (List Bool)} {cs : List Card} (elk : lk = looks (groupsOf en) steps) (ecs : cs = Mine.cards lk steps (reach steps st 7)) : Fits (plain (turned E)) (kindsOf cs) (lk.getD st []) := by
 have D2 := hN.det2 D hl
 refine ⟨?_, hN.start_fits D2 (hN.lang2 D hl) elk⟩
 rw [D2.cards]
 have hcs := hN.cards elk ecs
 obtain ⟨k1, k2⟩ := kindsOf_facts cs (by rw [hcs]; exact sortB_sorted linC _)
 refine strict_unique (sortB_strict ?_) k1 fun x => ?_
 ·rw [List.Nodup, List.pairwise_map]
  refine List.Pairwise.imp_of_mem (R := fun i j => i ≠ j) (fun {i j} hi hj hne e => hne ?_) List.nodup_range
  exact hN.look_inj D hl (List.mem_range.1 hi) (List.mem_range.1 hj) (by injection e)
 ·rw [k2, (sortB_perm _).mem_iff, hcs, (sortB_perm _).mem_iff, List.mem_map, List.mem_map]
  constructor
  ·rintro ⟨i, hi, rfl⟩
   obtain ⟨u, _, hu⟩ := hN.lang_at D hl (List.mem_range.1 hi)
   exact ⟨_, hN.mem_reach.2 ⟨u, rfl⟩, (cardS_eq hu).symm⟩
  ·rintro ⟨y, hy, rfl⟩
   obtain ⟨u, rfl⟩ := hN.mem_reach.1 hy
   have hm : runS (turned E) u ∈ plSeen (turned E) := (seen_all (turned_mv D.mv) (hN.tH8 D hl) _).2 ⟨u, rfl⟩
   have hx := idx_at hm
   refine ⟨_, List.mem_range.2 (by rw [plain_len]; exact List.idxOf_lt_length_iff.2 hm), cardS_eq fun v => ?_⟩
   have := plain_lang (turned_mv D.mv) (hN.tH8 D hl) hx v
   rw [langD] at this
   rw [this, brz_res D hl, hN.lang (hN.run_set u)]
theorem Num.bags : bags (ownOf (plain N)) (ownOf (plain (turned E))) = true := by
 have D1 := plain_det hN.mv hN.H8
 have D2 := hN.det2 D hl
 have el : ∀ {m : Mach} (Dm : Det m), ownOf m = (List.range m.2.2.length).map (lookS (nxP (pairsOf m)) (finE m.2.1) 6) := fun {m} Dm => by
  refine List.ext_getElem (by rw [ownOf_len, pairsOf_len]; simp) fun i h1 h2 => ?_
  rw [List.getElem_map, List.getElem_range, <- Dm.own_at (by simpa using h2), getD_lt h1]
 rw [el D1, el D2]
 refine bags_true ?_ fun x hx => ?_
 ·rw [List.Nodup, List.pairwise_map]
  refine List.Pairwise.imp_of_mem (R := fun i j => i ≠ j) (fun {i j} hi hj hne e => hne ?_) List.nodup_range
  exact hN.look_inj D hl (List.mem_range.1 hi) (List.mem_range.1 hj) e
 ·obtain ⟨i, hi, rfl⟩ := jM.1 hx
  obtain ⟨u, _, hu⟩ := hN.lang_at D hl (List.mem_range.1 hi)
  have hm : runS N u ∈ plSeen N := (seen_all hN.mv hN.H8 _).2 ⟨u, rfl⟩
  refine jM.2 ⟨_, List.mem_range.2 (by rw [plain_len]; exact List.idxOf_lt_length_iff.2 hm), ((lookS_eq 6 i _).2 fun v zz => ?_).symm⟩
  have := plain_lang hN.mv hN.H8 (idx_at hm) v
  rw [langD] at this
  rw [this]
  have := hu v
  rw [langD] at this
  rw [this, hN.lang (hN.run_set u)]
end
end
section
theorem and1 (m k : Nat) : (m &&& 2 ^ k = 2 ^ k) ↔ m / 2 ^ k % 2 = 1 := by
 have e : m / 2 ^ k % 2 = 1 ↔ m.testBit k = true := by rw [Nat.testBit_eq_decide_div_mod_eq, decide_eq_true_eq]
 rw [e]
 constructor
 ·intro h
  have := congrArg (fun n => Nat.testBit n k) h
  simpa [Nat.testBit_and, Nat.testBit_two_pow] using this
 ·intro h
  refine Nat.eq_of_testBit_eq fun i => ?_
  rw [Nat.testBit_and, Nat.testBit_two_pow]
  by_cases hi : k = i
  ·subst hi; simp [h]
  ·simp [hi]
theorem and2 (m j k : Nat) : (m &&& (2 ^ j ||| 2 ^ k) = (2 ^ j ||| 2 ^ k)) ↔ m / 2 ^ j % 2 = 1 /\ m / 2 ^ k % 2 = 1 := by
 have e : ∀ k, m / 2 ^ k % 2 = 1 ↔ m.testBit k = true := fun k => by rw [Nat.testBit_eq_decide_div_mod_eq, decide_eq_true_eq]
 rw [e, e]
 constructor
 ·intro h
  have h1 := congrArg (fun n => Nat.testBit n j) h
  have h2 := congrArg (fun n => Nat.testBit n k) h
  simp only [Nat.testBit_and, Nat.testBit_or, Nat.testBit_two_pow, decide_true, Bool.true_or, Bool.or_true, Bool.and_true] at h1 h2
  exact ⟨h1, h2⟩
 ·rintro ⟨h1, h2⟩
  refine Nat.eq_of_testBit_eq fun i => ?_
  rw [Nat.testBit_and, Nat.testBit_or, Nat.testBit_two_pow, Nat.testBit_two_pow]
  by_cases hj : j = i
  ·subst hj; simp [h1]
  ·by_cases hk : k = i
   ·subst hk; simp [h2]
   ·simp [hj, hk]
theorem and_kind (m : Nat) : m &&& 61440 = m / 4096 % 16 * 4096 := by
 refine Nat.eq_of_testBit_eq fun i => ?_
 have e1 : (61440 : Nat) = (2 ^ 4 - 1) * 2 ^ 12 := rfl
 have e2 : m / 4096 % 16 * 4096 = m / 2 ^ 12 % 2 ^ 4 * 2 ^ 12 := rfl
 rw [Nat.testBit_and, e1, e2, Nat.testBit_mul_two_pow, Nat.testBit_mul_two_pow, Nat.testBit_two_pow_sub_one, Nat.testBit_mod_two_pow, Nat.testBit_div_two_pow]
 by_cases h : 12 <= i
 ·have : i - 12 + 12 = i := by lia
  rw [this]
  cases m.testBit i <;> simp [h]
 ·simp [h]
theorem kind_char : ∀ k, k < 16 -> (match ([(40960, 108), (49152, 115), (32768, 45), (24576, 98), (16384, 100), (8192, 99), (4096, 112)] : List (Nat × Nat)).find? (fun p => decide (k * 4096 = p.1)) with | some p => p.2 | none => 63) = rKinds.getD k 0 := by decide
theorem ch_kind (m : Nat) : fmChar m 0 (fmTab.getD 0 []) = rKinds.getD (m / 4096 % 16) 0 := by
 rw [<- kind_char _ (Nat.mod_lt _ (by lia))]
 unfold fmChar fmHit
 simp only [and_kind, if_true]
 rfl
theorem ch_one (m i k c : Nat) (hi : i ≠ 0) : fmChar m i [(2 ^ k, c)] = if m / 2 ^ k % 2 = 1 then c else 45 := by
 unfold fmChar fmHit
 simp only [hi, if_false, List.find?_cons, List.find?_nil, and1]
 by_cases h : m / 2 ^ k % 2 = 1 <;> simp [h]
theorem ch_three (m i j k c d e : Nat) (hi : i ≠ 0) : fmChar m i [(2 ^ j ||| 2 ^ k, c), (2 ^ j, d), (2 ^ k, e)] = ([45, e, d, c] : List Nat).getD (m / 2 ^ k % 2 + 2 * (m / 2 ^ j % 2)) 0 := by
 unfold fmChar fmHit
 simp only [hi, if_false, List.find?_cons, List.find?_nil, and1, and2]
 rcases Nat.mod_two_eq_zero_or_one (m / 2 ^ j) with h1 | h1 <;> rcases Nat.mod_two_eq_zero_or_one (m / 2 ^ k) with h2 | h2 <;> simp [h1, h2]
theorem bmN (N m k : Nat) (h : k < N) : m % 2 ^ N / 2 ^ k % 2 = m / 2 ^ k % 2 := by
 have e : ∀ n : Nat, n / 2 ^ k % 2 = if n.testBit k then 1 else 0 := fun n => by
  rw [Nat.testBit_eq_decide_div_mod_eq]
  rcases Nat.mod_two_eq_zero_or_one (n / 2 ^ k) with h | h <;> rw [h] <;> rfl
 rw [e, e, Nat.testBit_mod_two_pow, decide_eq_true h, Bool.true_and]
theorem gt3 (x : Nat) : 3 < x % 8 ↔ x / 2 ^ 2 % 2 = 1 := by
 have h : ∀ e, e < 8 -> (3 < e ↔ e / 2 ^ 2 % 2 = 1) := by decide
 rw [h _ (Nat.mod_lt _ (by decide)), show (8 : Nat) = 2 ^ 3 from rfl, bmN 3 x 2 (by decide)]
theorem sh (m a b : Nat) (h : a + b < 12) : m % 4096 / 2 ^ a / 2 ^ b % 2 = m / 2 ^ (a + b) % 2 := by
 rw [Nat.div_div_eq_div_mul, <- Nat.pow_add]
 exact bmN 12 m _ h
theorem ite_c {p q : Prop} [Decidable p] [Decidable q] {a b : Nat} (h : p ↔ q) : (if p then a else b) = if decide q then a else b := by
 by_cases hp : p
 ·rw [if_pos hp, decide_eq_true (h.1 hp)]; rfl
 ·rw [if_neg hp, decide_eq_false fun hq => hp (h.2 hq)]; rfl
theorem L3 (m i a : Nat) (hi : i ≠ 0) (h : a + 2 < 12) : fmChar m i [(2 ^ (a + 2), 114)] = if decide (3 < m % 4096 / 2 ^ a % 8) then 114 else 45 :=
 (ch_one m i _ _ hi).trans (ite_c (by rw [gt3, sh m a 2 h]))
theorem L2 (m i a : Nat) (hi : i ≠ 0) (h : a + 1 < 12) : fmChar m i [(2 ^ (a + 1), 119)] = if decide (m % 4096 / 2 ^ a % 8 / 2 % 2 = 1) then 119 else 45 :=
 (ch_one m i _ _ hi).trans (ite_c (by
  have := bmN 3 (m % 4096 / 2 ^ a) 1 (by decide)
  rw [<- sh m a 1 h, <- this]))
theorem L1 (m i a j c d e : Nat) (hi : i ≠ 0) (h : a < 12) (hj : j < 12) : fmChar m i [(2 ^ j ||| 2 ^ a, c), (2 ^ j, d), (2 ^ a, e)] = ([45, e, d, c] : List Nat).getD (m % 4096 / 2 ^ a % 8 % 2 + 2 * (m % 4096 / 2 ^ j % 2)) 0 := by
 have e1 : m % 4096 / 2 ^ j % 2 = m / 2 ^ j % 2 := bmN 12 m j hj
 have e2 : m % 4096 / 2 ^ a % 8 % 2 = m / 2 ^ a % 2 := (Nat.mod_mod_of_dvd _ ⟨4, rfl⟩).trans (bmN 12 m a h)
 rw [ch_three _ _ _ _ _ _ _ hi, e1, e2]
theorem l10 {a b c d e f g h j a' b' c' d' e' f' g' h' i' j' : Nat} (h0 : a = a') (h1 : b = b') (h2 : c = c') (h3 : d = d') (h4 : e = e') (h5 : f = f') (h6 : g = g') (h7 : h = h') (h8 : i = i') (h9 : j = j') : [a, b, c, d, e, f, g, h, i, j] = [a', b', c', d', e', f', g', h', i', j'] := by
 rw [h0, h1, h2, h3, h4, h5, h6, h7, h8, h9]
theorem fm_row (m : Nat) : fm m = row (m / 4096 % 16) (m % 4096) :=
 (l10 (ch_kind m) (L3 m 1 6 (by decide) (by decide)) (L2 m 2 6 (by decide) (by decide)) (L1 m 3 6 11 115 83 120 (by decide) (by decide) (by decide)) (L3 m 4 3 (by decide) (by decide)) (L2 m 5 3 (by decide) (by decide)) (L1 m 6 3 10 115 83 120 (by decide) (by decide) (by decide))
  (L3 m 7 0 (by decide) (by decide)) (L2 m 8 0 (by decide) (by decide)) (L1 m 9 0 9 116 84 120 (by decide) (by decide) (by decide)) :)
end
section
noncomputable def dset (u : Nat) : List Nat := (List.range 3).filter fun p => u.testBit (2 - p)
theorem dset_set (u : Nat) : Set8 3 (dset u) := filter_set8 3 _
theorem enc_dset : ∀ u, u < 8 -> enc3 (dset u) = u := by decide
theorem turn_facts : ∀ t, t < 3 -> ∀ d, d < 8 -> ∀ s, s < 2 -> mPlaces [if decide (3 < d) then 114 else 45, if decide (d / 2 % 2 = 1) then 119 else 45, (rTab.getD t []).getD (d % 2 + 2 * s) 0] = dset d /\ ((rTab.getD t []).getD (d % 2 + 2 * s) 0 ∈ sst ↔ s = 1) := by decide
noncomputable def dig (m : Nat) : Dig := (m / 512 % 8, m / 64 % 8, m / 8 % 8, m % 8)
noncomputable def wholeD (o0 o1 : Dig) : Mach := (dset o0.1, dset o1.1, [(dset o0.2.1, dset o1.2.1), (dset o0.2.2.1, dset o1.2.2.1), (dset o0.2.2.2, dset o1.2.2.2)])
theorem dig_at (m a : Nat) : ∀ b, a + b = 12 -> m % 4096 / 2 ^ a % 2 ^ b = m / 2 ^ a % 2 ^ b := fun b h => by
 have : m % (2 ^ a * 2 ^ b) / 2 ^ a = m / 2 ^ a % 2 ^ b := Nat.mod_mul_right_div_self _ _ _
 rw [<- Nat.pow_add, h] at this
 rw [show (4096 : Nat) = 2 ^ 12 from rfl, this, Nat.mod_mod]
theorem dig8 (m a b : Nat) (h : a + b = 12) (hb : 8 ∣ 2 ^ b) : m % 4096 / 2 ^ a % 8 = m / 2 ^ a % 8 := by
 rw [<- Nat.mod_mod_of_dvd _ hb, dig_at m a b h, Nat.mod_mod_of_dvd _ hb]
theorem spec (m j : Nat) (h : j < 3) : m % 4096 / 2 ^ (9 + j) % 2 = m / 512 % 8 / 2 ^ j % 2 := by
 have e1 := bmN 12 m (9 + j) (by lia)
 have e2 := bmN 3 (m / 2 ^ 9) j h
 rw [Nat.div_div_eq_div_mul, <- Nat.pow_add] at e2
 exact e1.trans e2.symm
theorem row_parts (k m : Nat) : mStarts (row k (m % 4096)) = dset (dig m).1 /\ mPlaces (mSign (row k (m % 4096)) 0) = dset (dig m).2.1 /\ mPlaces (mSign (row k (m % 4096)) 1) = dset (dig m).2.2.1 /\ mPlaces (mSign (row k (m % 4096)) 2) = dset (dig m).2.2.2 := by
 have t := fun t ht s => turn_facts t ht (rDig (m % 4096) t) (Nat.mod_lt _ (by decide)) (s % 2) (Nat.mod_lt _ (by decide))
 have s0 := t 0 (by decide) (m % 4096 / 2048)
 have s1 := t 1 (by decide) (m % 4096 / 1024)
 have s2 := t 2 (by decide) (m % 4096 / 512)
 have d0 : rDig (m % 4096) 0 = m / 64 % 8 := dig8 m 6 6 rfl ⟨8, rfl⟩
 have d1 : rDig (m % 4096) 1 = m / 8 % 8 := dig8 m 3 9 rfl ⟨64, rfl⟩
 have d2 : rDig (m % 4096) 2 = m % 8 := (dig8 m 0 12 rfl ⟨512, rfl⟩).trans (by rw [Nat.pow_zero, Nat.div_one])
 refine ⟨?_, s0.1.trans (congrArg dset d0), s1.1.trans (congrArg dset d1), s2.1.trans (congrArg dset d2)⟩
 have e : mStarts (row k (m % 4096)) = (List.range 3).filter fun s => decide (([(rTab.getD 0 []).getD (rDig (m % 4096) 0 % 2 + 2 * (m % 4096 / 2048 % 2)) 0, (rTab.getD 1 []).getD (rDig (m % 4096) 1 % 2 + 2 * (m % 4096 / 1024 % 2)) 0, (rTab.getD 2 []).getD (rDig (m % 4096) 2 % 2 + 2 * (m % 4096 / 512 % 2)) 0] : List Nat).getD s 0 ∈ sst) := rfl
 have f : dset (dig m).1 = (List.range 3).filter fun s => decide (m / 512 % 8 / 2 ^ (2 - s) % 2 = 1) := List.filter_congr fun s zz => Nat.testBit_eq_decide_div_mod_eq
 rw [e, f]
 refine List.filter_congr fun s hs => decide_eq_decide.2 ?_
 match s, List.mem_range.1 hs with
 | 0, _ => exact s0.2.trans (by rw [<- spec m 2 (by decide)] <;> exact Iff.rfl)
 | 1, _ => exact s1.2.trans (by rw [<- spec m 1 (by decide)] <;> exact Iff.rfl)
 | 2, _ => exact s2.2.trans (by rw [<- spec m 0 (by decide)] <;> exact Iff.rfl)
theorem machine_rows (m0 m1 : Nat) : machineOf (fm m0) (fm m1) = wholeD (dig m0) (dig m1) := by
 rw [fm_row, fm_row]
 obtain ⟨a0, a1, a2, a3⟩ := row_parts (m0 / 4096 % 16) m0
 obtain ⟨b0, b1, b2, b3⟩ := row_parts (m1 / 4096 % 16) m1
 unfold machineOf wholeD
 rw [a0, b0]
 show (_, _, [mArrows _ _ 0, mArrows _ _ 1, mArrows _ _ 2]) = _
 unfold mArrows
 rw [a1, a2, a3, b1, b2, b3]
structure DigOk (o : Dig) : Prop where
 a : o.1 < 8
 b : o.2.1 < 8
 c : o.2.2.1 < 8
 d : o.2.2.2 < 8
theorem dig_ok (m : Nat) : DigOk (dig m) := ⟨Nat.mod_lt _ (by lia), Nat.mod_lt _ (by lia), Nat.mod_lt _ (by lia), Nat.mod_lt _ (by lia)⟩
theorem whole_mv (o0 o1 : Dig) : MV (wholeD o0 o1) := ⟨by show 3 <= 8; lia, dset_set _, dset_set _, fun p hp => by
 simp only [wholeD, List.mem_cons, List.not_mem_nil, or_false] at hp
 rcases hp with rfl | rfl | rfl <;> exact ⟨dset_set _, dset_set _⟩⟩
theorem mem_dset {u x : Nat} : x ∈ dset u ↔ x < 3 /\ u.testBit (2 - x) = true := by
 unfold dset
 rw [List.mem_filter, List.mem_range]
noncomputable def own3 (o : Dig) (x : Nat) : Nat := match x with | 0 => o.2.1 | 1 => o.2.2.1 | _ => o.2.2.2
theorem whole_arr {o0 o1 : Dig} {x : Nat} (h : x < 3) (b : Bool) : arr (wholeD o0 o1).2.2 x b = dset (own3 (if b then o1 else o0) x) := by
 match x, h with
 | 0, _ => cases b <;> rfl
 | 1, _ => cases b <;> rfl
 | 2, _ => cases b <;> rfl
theorem or3 : ∀ x, x < 8 -> ∀ y, y < 8 -> ∀ z, z < 8 -> (x ||| y) ||| z = (if x.testBit 2 = true \/ y.testBit 2 = true \/ z.testBit 2 = true then 4 else 0) + (if x.testBit 1 = true \/ y.testBit 1 = true \/ z.testBit 1 = true then 2 else 0) + (if x.testBit 0 = true \/ y.testBit 0 = true \/ z.testBit 0 = true then 1 else 0) := by decide +kernel
theorem bits3 : ∀ g ∈ subs3, (enc3 g &&& 4 ≠ 0 ↔ 0 ∈ g) /\ (enc3 g &&& 2 ≠ 0 ↔ 1 ∈ g) /\ (enc3 g &&& 1 ≠ 0 ↔ 2 ∈ g) := by decide
theorem meets3 : ∀ g ∈ subs3, ∀ e, e < 8 -> (enc3 g &&& e ≠ 0 ↔ ∃ x ∈ g, x ∈ dset e) := by decide +kernel
theorem fin3 : ∀ g ∈ subs3, ∀ e, e < 8 -> finE (groupsOf e) (enc3 g) = finS (dset e) g := by decide +kernel
theorem ite_iff {p q : Prop} [Decidable p] [Decidable q] {a b : Nat} (h : p ↔ q) : (if p then a else b) = if q then a else b := by
 by_cases hp : p
 ·rw [if_pos hp, if_pos (h.1 hp)]
 ·rw [if_neg hp, if_neg fun hq => hp (h.2 hq)]
noncomputable def stepsOf (f : Nat -> Dig -> Nat) (o0 o1 : Dig) : List (Nat × Nat) := (List.range 8).map fun g => (f g o0, f g o1)
theorem stepsOf_at {f : Nat -> Dig -> Nat} {o0 o1 : Dig} {u : Nat} (h : u < 8) (b : Bool) : nxP (stepsOf f o0 o1) u b = f u (if b then o1 else o0) := by
 unfold nxP stepsOf
 rw [getD_lt (by simpa using h), List.getElem_map, List.getElem_range]
 cases b <;> rfl
theorem forth1_lt {g : Nat} {o : Dig} (h : DigOk o) : forth1 g o < 8 := by
 have c : ∀ {p : Prop} [Decidable p] {x : Nat}, x < 8 -> (if p then x else 0) < 2 ^ 3 := fun {p zz x} hx => by split <;> lia
 exact Nat.or_lt_two_pow (Nat.or_lt_two_pow (c h.b) (c h.c)) (c h.d)
theorem hither1_lt {g : Nat} {o : Dig} : hither1 g o < 8 := by
 have c : ∀ {p : Prop} [Decidable p] {x : Nat}, x < 8 -> (if p then x else 0) < 2 ^ 3 := fun {p zz x} hx => by split <;> lia
 exact Nat.or_lt_two_pow (Nat.or_lt_two_pow (c (by lia)) (c (by lia))) (c (by lia))
theorem stepsOf_lt {f : Nat -> Dig -> Nat} {o0 o1 : Dig} (h0 : ∀ g, f g o0 < 8) (h1 : ∀ g, f g o1 < 8) : ∀ p ∈ stepsOf f o0 o1, p.1 < 8 /\ p.2 < 8 := fun p hp => by
 obtain ⟨g, _, rfl⟩ := jM.1 hp
 exact ⟨h0 g, h1 g⟩
theorem ex3 (hg : Set8 3 g) {p : Nat -> Prop} : (∃ o ∈ g, p o) ↔ (0 ∈ g /\ p 0) \/ (1 ∈ g /\ p 1) \/ (2 ∈ g /\ p 2) := by
 constructor
 ·rintro ⟨o, ho, h⟩
  have := hg.lt o ho
  have : o = 0 \/ o = 1 \/ o = 2 := by lia
  rcases this with rfl | rfl | rfl
  ·exact .inl ⟨ho, h⟩
  ·exact .inr (.inl ⟨ho, h⟩)
  ·exact .inr (.inr ⟨ho, h⟩)
 ·rintro (h | h | h)
  ·exact ⟨0, h⟩
  ·exact ⟨1, h⟩
  ·exact ⟨2, h⟩
theorem num_forth {o0 o1 : Dig} (h0 : DigOk o0) (h1 : DigOk o1) : Num (wholeD o0 o1) (stepsOf forth1 o0 o1) o0.1 o1.1 where
 mv := whole_mv _ _
 three := rfl
 len := by simp [stepsOf]
 in8 := stepsOf_lt (fun g => forth1_lt h0) (fun g => forth1_lt h1)
 start := (enc_dset _ h0.a).symm
 fin := fun g hg => fin3 g (subs3_all hg) _ h1.a
 step := fun g hg b => by
  rw [stepsOf_at (enc3_lt g)]
  have ho : DigOk (if b then o1 else o0) := by cases b <;> assumption
  have hm : ∀ x, x < 3 -> (x ∈ nxS (wholeD o0 o1).2.2 g b ↔ (0 ∈ g /\ (if b then o1 else o0).2.1.testBit (2 - x) = true) \/ (1 ∈ g /\ (if b then o1 else o0).2.2.1.testBit (2 - x) = true) \/ (2 ∈ g /\ (if b then o1 else o0).2.2.2.testBit (2 - x) = true)) := fun x hx => by
   rw [mem_nxS (whole_mv _ _), ex3 hg, whole_arr (by lia), whole_arr (by lia), whole_arr (by lia), mem_dset, mem_dset, mem_dset]
   simp only [hx, true_and, own3]
  generalize (if b then o1 else o0) = o at *
  obtain ⟨b4, b2, b1⟩ := bits3 g (subs3_all hg)
  have c : ∀ {p : Prop} [Decidable p] {x : Nat}, x < 8 -> (if p then x else 0) < 8 := fun {p zz x} hx => by split <;> lia
  have tb : ∀ {p : Prop} [Decidable p] {x i : Nat}, (if p then x else 0).testBit i = true ↔ p /\ x.testBit i = true := fun {p zz x i} => by
   by_cases hp : p <;> simp [hp]
  rw [forth1, ite_iff b4, ite_iff b2, ite_iff b1, or3 _ (c ho.b) _ (c ho.c) _ (c ho.d), enc3]
  rw [ite_iff (hm 0 (by lia)), ite_iff (hm 1 (by lia)), ite_iff (hm 2 (by lia))]
  simp only [tb]
theorem or421 {p q r : Prop} [Decidable p] [Decidable q] [Decidable r] : (if p then 4 else 0) + (if q then 2 else 0) + (if r then 1 else 0) = ((if p then 4 else 0) ||| (if q then 2 else 0)) ||| (if r then 1 else 0 : Nat) := by
 by_cases hp : p <;> by_cases hq : q <;> by_cases hr : r <;> simp [hp, hq, hr]
theorem num_hither {o0 o1 : Dig} (h0 : DigOk o0) (h1 : DigOk o1) : Num (turned (wholeD o0 o1)) (stepsOf hither1 o0 o1) o1.1 o0.1 where
 mv := turned_mv (whole_mv _ _)
 three := rfl
 len := by simp [stepsOf]
 in8 := stepsOf_lt (fun g => hither1_lt) (fun g => hither1_lt)
 start := (enc_dset _ h1.a).symm
 fin := fun g hg => fin3 g (subs3_all hg) _ h0.a
 step := fun g hg b => by
  rw [stepsOf_at (enc3_lt g)]
  have ho : DigOk (if b then o1 else o0) := by cases b <;> assumption
  have hm : ∀ x, x < 3 -> (x ∈ nxS (turned (wholeD o0 o1)).2.2 g b ↔ enc3 g &&& own3 (if b then o1 else o0) x ≠ 0) := fun x hx => by
   have hd : own3 (if b then o1 else o0) x < 8 := by
    match x, hx with
    | 0, _ => exact ho.b
    | 1, _ => exact ho.c
    | 2, _ => exact ho.d
   rw [mem_nxS (turned_mv (whole_mv _ _)), meets3 g (subs3_all hg) _ hd]
   constructor
   ·rintro ⟨o, ho, h⟩
    have := (arr_turned (m := wholeD o0 o1) (hg.lt o ho)).1 h
    rw [whole_arr hx] at this
    exact ⟨o, ho, this.2⟩
   ·rintro ⟨o, ho, h⟩
    refine ⟨o, ho, (arr_turned (m := wholeD o0 o1) (hg.lt o ho)).2 ⟨hx, ?_⟩⟩
    rw [whole_arr hx]; exact h
  generalize (if b then o1 else o0) = o at *
  rw [hither1, enc3, ite_iff (hm 0 (by lia)), ite_iff (hm 1 (by lia)), ite_iff (hm 2 (by lia))]
  show _ = ((if enc3 g &&& own3 o 0 ≠ 0 then 4 else 0) ||| (if enc3 g &&& own3 o 1 ≠ 0 then 2 else 0)) ||| (if enc3 g &&& own3 o 2 ≠ 0 then 1 else 0)
  exact or421
section
variable {o0 o1 : Dig} (h0 : DigOk o0) (h1 : DigOk o1)
include h0 h1
theorem law_plain : Det (plain (wholeD o0 o1)) := plain_det (num_forth h0 h1).mv (num_forth h0 h1).H8
theorem law_turned : Det (plain (turned (wholeD o0 o1))) := plain_det (num_hither h0 h1).mv (num_hither h0 h1).H8
theorem law_turned_lang (v : List Bool) : langD (plain (turned (wholeD o0 o1))) ((plain (turned (wholeD o0 o1))).1.getD 0 0) v = langS (wholeD o0 o1) (wholeD o0 o1).1 v.reverse := by
 rw [plain_langS (num_hither h0 h1).mv (num_hither h0 h1).H8]
 exact turned_lang (whole_mv _ _) v
theorem law_least : Det (plain (turned (plain (turned (wholeD o0 o1))))) := (num_forth h0 h1).det2 (law_turned h0 h1) (law_turned_lang h0 h1)
theorem law_least_lang (v : List Bool) : langD (plain (turned (plain (turned (wholeD o0 o1))))) ((plain (turned (plain (turned (wholeD o0 o1))))).1.getD 0 0) v = langS (turned (wholeD o0 o1)) (turned (wholeD o0 o1)).1 v.reverse := by
 rw [(num_forth h0 h1).lang2 (law_turned h0 h1) (law_turned_lang h0 h1)]
 have := turned_lang (whole_mv o0 o1) v.reverse
 rw [List.reverse_reverse] at this
 exact this.symm
theorem law_back : Det (plain (turned (plain (turned (plain (turned (wholeD o0 o1))))))) := (num_hither h0 h1).det2 (law_least h0 h1) (law_least_lang h0 h1)
end
end
section
open PyProof.Rows
theorem posOk_34 : posOk (stmtAt 34) [N "machine", N "notes"] := posOk2 fun zz zz zz zz zz => rfl
theorem posOk_33 : posOk (stmtAt 33) [N "rows"] := posOk1 fun zz zz zz zz => rfl
theorem posOk_35 : posOk (stmtAt 35) [N "machine"] := posOk1 fun zz zz zz zz => rfl
theorem posOk_32 : posOk (stmtAt 32) [N "kind", N "rights"] := posOk2 fun zz zz zz zz zz => rfl
theorem posOk_39 : posOk (stmtAt 39) [N "digits"] := posOk1 fun zz zz zz zz => rfl
theorem posOk_40 : posOk (stmtAt 40) [N "digits"] := posOk1 fun zz zz zz zz => rfl
theorem posOk_45 : posOk (stmtAt 45) [N "script"] := posOk1 fun zz zz zz zz => rfl
noncomputable def modeN (ns : List Int) (t : Nat) : Nat := ((([35208, 34572] : List Int).getD t 0 + (pickL ns (some (t : Int)) none (some 2)).sum) % 4294967296).toNat
theorem groups_mv (V : MV m) : ∀ g ∈ groupsM m, g.length <= 8 /\ ∀ x ∈ g, x < 256 := fun g hg => by
 have key : ∀ {g : List Nat}, Set8 m.2.2.length g -> g.length <= 8 /\ ∀ x ∈ g, x < 256 := fun h => ⟨Nat.le_trans h.len V.len, fun x hx => by have := h.lt x hx; have := V.len; lia⟩
 unfold groupsM at hg
 rcases jA.1 hg with hg | hg
 ·simp only [List.mem_cons, List.not_mem_nil, or_false] at hg
  rcases hg with rfl | rfl
  ·exact key V.st
  ·exact key V.en
 ·obtain ⟨p, hp, hg⟩ := List.mem_flatMap.1 hg
  simp only [List.mem_cons, List.not_mem_nil, or_false] at hg
  rcases hg with rfl | rfl
  ·exact key (V.ar p hp).1
  ·exact key (V.ar p hp).2
theorem fm_chars (m : Nat) : ∀ c ∈ fm m, c < 128 := by
 have key : ∀ (i : Nat) (tb : List (Nat × Nat)), (∀ p ∈ tb, p.2 < 128) -> fmChar m i tb < 128 := fun i tb h => by
  unfold fmChar
  cases e : tb.find? (fmHit i m) with
  | none => dsimp only; split <;> lia
  | some p => exact h p (List.mem_of_find?_eq_some e)
 intro c hc
 unfold fm fmUp at hc
 obtain ⟨j, hj, rfl⟩ := jM.1 hc
 exact key j _ ((by decide : ∀ j ∈ List.range 10, ∀ p ∈ fmTab.getD j [], p.2 < 128) j hj)
theorem fm_ok (m : Nat) : PyData.strOk (sOf (fm m)) = true := by
 simp only [PyData.strOk, sOf, List.all_toArray, List.all_eq_true, decide_eq_true_eq]
 exact fun c hc => Nat.lt_trans (fm_chars m c hc) (by lia)
theorem fm_len (m : Nat) : (fm m).length = 10 := fmUp_len m 10
noncomputable abbrev notesJ (j : Nat) : List D := notesT [] j
section
variable {K : W.Frag} {Cc fI a31 c31 : Addr}
theorem taped_fun (CX : Cx ba mg mb) (TC : TapeCx ba mg K Cc fI a31 c31) {a4 a5 a34 : Addr} (h31 : FnG ba mg (stmtAt 31) a31) (h4 : FnG ba mg (stmtAt 4) a4) (h5 : FnG ba mg (stmtAt 5) a5) (h34 : FnG ba mg (stmtAt 34) a34)
 (V : MV m) {an : Addr} {ns : List D} (zn : ns.length <= 2000) :
  FunX pg w ba 4 (fun vs => PySem.call (.ref a34) vs) [eM m, .raw (.ref an)] [(an, ns)] (fun d M' => d = eM m /\ M' = [(an, ns ++ [.bool true, .bool true])]) (fun zz zz zz => False) :=
 fnX_of_body CX h34 (by kernel_rfl) posOk_34 rfl (taped_body CX TC h31 h4 h5 V.len (fun g hg => (groups_mv V g hg).1) (fun g hg => (groups_mv V g hg).2) zn)
theorem machine_fun (C : Cx ba mg mb) {a33 : Addr} (h33 : FnG ba mg (stmtAt 33) a33) {r0 r1 : List Nat} (h0 : r0.length = 10) (h1 : r1.length = 10) : FunN pg w ba true 2 (fun vs => PySem.call (.ref a33) vs) [.list [eC r0, eC r1]] (eM (machineOf r0 r1)) :=
 pure_of_body C h33 (ns := [N "rows"]) (by kernel_rfl) (fun vs pm code doc hv => posOk_33 vs pm code doc hv) (machine_body C h0 h1)
theorem turned_fun (C : Cx ba mg mb) {a35 : Addr} (h35 : FnG ba mg (stmtAt 35) a35) (hm : m.2.2.length <= 100) : FunN pg w ba true 2 (fun vs => PySem.call (.ref a35) vs) [eM m] (eM (turned m)) :=
 pure_of_body C h35 (ns := [N "machine"]) (by kernel_rfl) (fun vs pm code doc hv => posOk_35 vs pm code doc hv) (turned_body C hm)
theorem row_fun (C : Cx ba mg mb) {a32 : Addr} (h32 : FnG ba mg (stmtAt 32) a32) {r : Nat} (hk : k < 16) (hr : r < 4096) : FunN pg w ba true 2 (fun vs => PySem.call (.ref a32) vs) [eN k, eN r] (eC (row k r)) :=
 pure_of_body C h32 (ns := [N "kind", N "rights"]) (by kernel_rfl) (fun vs pm code doc hv => posOk_32 vs pm code doc hv) (row_body C hk hr)
theorem eLL_steps (f : Nat -> Dig -> Nat) (o0 o1 : Dig) : (eLL ((List.range 8).map fun g => [o0, o1].map (f g)) : D) = .list ((stepsOf f o0 o1).map ePr) := by
 rw [eLL, stepsOf, List.map_map, List.map_map]; rfl
theorem forth_fun (C : Cx ba mg mb) {a39 : Addr} (h39 : FnG ba mg (stmtAt 39) a39) {o0 o1 : Dig} : FunN pg w ba true 2 (fun vs => PySem.call (.ref a39) vs) [.list ([o0, o1].map eD)] (.list ((stepsOf forth1 o0 o1).map ePr)) := by
 rw [<- eLL_steps]
 exact pure_of_body C h39 (ns := [N "digits"]) (by kernel_rfl) (fun vs pm code doc hv => posOk_39 vs pm code doc hv) (forth_body C (ds := [o0, o1]) (by simp))
theorem hither_fun (C : Cx ba mg mb) {a40 : Addr} (h40 : FnG ba mg (stmtAt 40) a40) {o0 o1 : Dig} : FunN pg w ba true 2 (fun vs => PySem.call (.ref a40) vs) [.list ([o0, o1].map eD)] (.list ((stepsOf hither1 o0 o1).map ePr)) := by
 rw [<- eLL_steps]
 exact pure_of_body C h40 (ns := [N "digits"]) (by kernel_rfl) (fun vs pm code doc hv => posOk_40 vs pm code doc hv) (hither_body C (ds := [o0, o1]) (by simp))
theorem Ef.tape (CX : Cx ba mg mb) (TC : TapeCx ba mg K Cc fI a31 c31) {a4 a5 a34 : Addr} (h31 : FnG ba mg (stmtAt 31) a31) (h4 : FnG ba mg (stmtAt 4) a4) (h5 : FnG ba mg (stmtAt 5) a5) (h34 : FnG ba mg (stmtAt 34) a34)
 {p pn cpos spos : Pos} {e1 : Expr} {J : Nat} {an : Addr} (V : MV m) (hx : storable sc x = true) (hn : sc.names.lookup (N "_law_taped") = some .globalImplicit) (hN : Γ.lookup (N "notes") = some (.raw (.ref an))) (hJ : J <= 900)
  (he : EvX pg w ba true c 4 sc Γ M e1 (fun d M' => d = eM m /\ ∃ i, i <= J /\ M' = [(an, notesJ i)]) (fun zz zz zz => False))
  (r : ∀ i, i <= J + 2 -> Ef pg w ba true c 4 sc ((x, eM m) :: Γ) [(an, notesJ i)] ss R RE)
  (h1 : autoParam (∀ U, backTo cpos (starEach [e1, .Name (N "notes") pn] U) = (false, eval e1 U) :: backTo cpos (starEach [.Name (N "notes") pn] U)) tA)
  (h2 : autoParam (∀ U, backTo cpos (starEach [e1, .Name (N "notes") pn] U) = [(false, eval e1 U), (false, eval (.Name (N "notes") pn) U)]) tA)
  (h3 : autoParam (∀ U, eval (.Call (.Name (N "_law_taped") p) [e1, .Name (N "notes") pn] [] cpos) U = (do callWith cpos (<- eval (.Name (N "_law_taped") p) U) [] (backTo cpos (starEach [e1, .Name (N "notes") pn] U)) (backToKw cpos (keywordEach [] U)))) tA)
  (hs : autoParam (∀ U, swapsWith (.Call (.Name (N "_law_taped") p) [e1, .Name (N "notes") pn] [] cpos) (some (.Name x px)) spos.line U = pure false) tA) :
  Ef pg w ba true c 4 sc Γ M (.Assign [.Name x px] (.Call (.Name (N "_law_taped") p) [e1, .Name (N "notes") pn] [] cpos) spos :: ss) R RE := by
 refine Ef.seq (P := fun Γ' M' => Γ' = (x, eM m) :: Γ /\ ∃ i, i <= J + 2 /\ M' = [(an, notesJ i)]) (Ef1.assign (RX := fun d M' => d = eM m /\ ∃ i, i <= J + 2 /\ M' = [(an, notesJ i)]) (RXE := fun zz zz zz => False)
  (EvX.call (RL := fun ds M' => ds = [eM m, .raw (.ref an)] /\ ∃ i, i <= J /\ M' = [(an, notesJ i)]) h34.fn (Ev.fn CX h34 hn) (EvLX.cons he (EvL.cons (Ev.var hN (by kernel_rfl)) EvL.nil) (fun d M' h => ⟨by rw [h.1], h.2⟩) h1) (fun ds M' h => ?_) (args2 h2) h3) hx (fun d M' h => ⟨rfl, by rw [h.1], h.2⟩) (fun zz zz zz h => h.elim) hs) fun Γ' M' h => ?_
 ·obtain ⟨rfl, i, hi, rfl⟩ := h
  refine ⟨[(an, notesJ i)], [], _, _, rfl, taped_fun CX TC h31 h4 h5 h34 V (ns := notesJ i) (by simp; lia), fun d M0' h => ⟨h.1, i + 2, by lia, ?_⟩, fun zz zz zz h => h⟩
  have e : notesJ (i + 2) = notesJ i ++ [.bool true] ++ [.bool true] := by rw [notesT_push, notesT_push]
  rw [h.2, e, List.append_assoc (notesJ i)]; rfl
 ·obtain ⟨rfl, i, hi, rfl⟩ := h
  exact r i hi
theorem EvX.plain (CX : Cx ba mg mb) {a1 a36 a37 a38 : Addr} (h1 : FnG ba mg (stmtAt 1) a1) (h36 : FnG ba mg (stmtAt 36) a36) (h37 : FnG ba mg (stmtAt 37) a37) (h38 : FnG ba mg (stmtAt 38) a38) (V : MV m)
  {p pn cpos : Pos} {e1 : Expr} {an : Addr} (he : Ev pg w ba true 4 sc Γ e1 (eM m)) (hn : sc.names.lookup (N "_law_plain") = some .globalImplicit) (hN : Γ.lookup (N "notes") = some (.raw (.ref an))) (hi : i <= 900)
  (g1 : autoParam (∀ U, backTo cpos (starEach [e1, .Name (N "notes") pn] U) = (false, eval e1 U) :: backTo cpos (starEach [.Name (N "notes") pn] U)) tA)
  (g2 : autoParam (∀ U, backTo cpos (starEach [e1, .Name (N "notes") pn] U) = [(false, eval e1 U), (false, eval (.Name (N "notes") pn) U)]) tA)
  (g3 : autoParam (∀ U, eval (.Call (.Name (N "_law_plain") p) [e1, .Name (N "notes") pn] [] cpos) U = (do callWith cpos (<- eval (.Name (N "_law_plain") p) U) [] (backTo cpos (starEach [e1, .Name (N "notes") pn] U)) (backToKw cpos (keywordEach [] U)))) tA) :
  EvX pg w ba true c 4 sc Γ [(an, notesJ i)] (.Call (.Name (N "_law_plain") p) [e1, .Name (N "notes") pn] [] cpos) (fun d M' => d = eM (plain m) /\ ∃ j, j <= i + 40 /\ M' = [(an, notesJ j)]) (fun zz zz zz => False) := by
 refine EvX.callG CX h38 (plain_fun CX h1 h36 h37 h38 V (ns := notesJ i) (by simp; lia)) (M_1 := []) (EvL.cons he (EvL.cons (Ev.var hN (by kernel_rfl)) EvL.nil) g1) rfl (fun d M' h => ?_) (fun zz zz zz h => h) (args2 g2) hn (he := g3)
 obtain ⟨e, j, hj, rfl⟩ := h
 refine ⟨e, i + j, by lia, ?_⟩
 simp [notesT, List.replicate_append_replicate]
end
end
section
open PyProof.Rows
section
variable {K : W.Frag} {Cc fI a31 c31 : Addr}
theorem Ef.passN {a : List Stmt} {p : Pos} (ht : TrX pg w ba q c k sc Γ M e (fun b M' => b = true /\ M' = M) (fun zz zz zz => False)) (r : Ef pg w ba q c k sc Γ M ss R RE) : Ef pg w ba q c k sc Γ M (.If (.UnaryOp .Not e p) a [] pos :: ss) R RE :=
 Ef.seq (P := fun Γ' M' => Γ' = Γ /\ M' = M) (Ef1.ife (RT := fun b M' => (!b) = true /\ M' = M) (TrX.not (RT := fun b M' => b = true /\ M' = M) ht) (fun M' h => by cases h.1) (fun M' h => Ef.nil ⟨rfl, rfl, h.2⟩) (fun zz zz zz h => h.elim)) fun Γ' M' h => by rw [h.1, h.2]; exact r
theorem Ef.pass {a : List Stmt} {b : Bool} (ht : Tr pg w ba q k sc Γ e b) (hb : b = false) (r : Ef pg w ba q c k sc Γ M ss R RE) : Ef pg w ba q c k sc Γ M (.If e a [] pos :: ss) R RE :=
 Ef.seq (P := fun Γ' M' => Γ' = Γ /\ M' = M) (Ef1.ife (RT := fun b M' => b = false /\ M' = M) (RXE := fun zz zz zz => False) (Tr.y ht ⟨hb, rfl⟩) (fun M' h => by cases h.1) (fun M' h => Ef.nil ⟨rfl, rfl, h.2⟩) (fun zz zz zz h => h.elim)) fun Γ' M' h => by rw [h.1, h.2]; exact r
theorem law_body (C : Cx ba mg mb) (TC : TapeCx ba mg K Cc fI a31 c31) (h31 : FnG ba mg (stmtAt 31) a31) (hT : GD ba mg (N "_filemode_table") (.tuple (fmTab.map eTab)))
  {a1 a2 a4 a5 a8 a29 a32 a33 a34 a35 a36 a37 a38 a39 a40 a41 a42 a43 a44 : Addr} (h1 : FnG ba mg (stmtAt 1) a1) (h2 : FnG ba mg (stmtAt 2) a2) (h4 : FnG ba mg (stmtAt 4) a4) (h5 : FnG ba mg (stmtAt 5) a5) (h8 : FnG ba mg (stmtAt 8) a8) (h29 : FnG ba mg (stmtAt 29) a29)
  (h32 : FnG ba mg (stmtAt 32) a32) (h33 : FnG ba mg (stmtAt 33) a33) (h34 : FnG ba mg (stmtAt 34) a34) (h35 : FnG ba mg (stmtAt 35) a35) (h36 : FnG ba mg (stmtAt 36) a36) (h37 : FnG ba mg (stmtAt 37) a37) (h38 : FnG ba mg (stmtAt 38) a38) (h39 : FnG ba mg (stmtAt 39) a39) (h40 : FnG ba mg (stmtAt 40) a40)
  (h41 : FnG ba mg (stmtAt 41) a41) (h42 : FnG ba mg (stmtAt 42) a42) (h43 : FnG ba mg (stmtAt 43) a43) (h44 : FnG ba mg (stmtAt 44) a44) {ns : List Int} (zs : ns.length <= 1000) :
  Ef pg w ba true true 4 (fnScope (stmtAt 45)) [(N "script", .list (ns.map D.int))] [] (fnBody (stmtAt 45))
   (fun o zz M' => ∃ (d : D) (M_1 : Mut), o = .ret d /\ M_1.Sublist M' /\ M_1.map (·.1) = ([] : Mut).map (·.1) /\ d = .bool true /\ M_1 = [])
   (fun X d zz M' => ∃ M_1 : Mut, M_1.Sublist M' /\ M_1.map (·.1) = ([] : Mut).map (·.1) /\ False) := by
 conv => arg 10; whnf
 refine Ef.compL (Γ' := [(N "script", .list (ns.map D.int))]) (enc := eN) (xs := List.range 2) (p := fun zz => true) (f := fun t => eN (modeN ns t)) (bs := fun d => [(N "turn", d)]) (EvS.rng C (n := 2) Ev.int (by lia))
  (cmp1 (fun t ht zz => ?_) (sizeOk (by simp))) ?_
 ·dsimp only [kA, kN]
  have ht := List.mem_range.1 ht
  have e : D.int (Int.fmod (([35208, 34572] : List Int).getD t 0 + (pickL ns (some (t : Int)) none (some 2)).sum) 4294967296) = eN (modeN ns t) := by
   rw [Int.fmod_eq_emod_of_nonneg _ (by lia)]
   show D.int _ = D.int ((modeN ns t : Nat) : Int)
   rw [modeN, Int.toNat_of_nonneg (Int.emod_nonneg _ (by lia))]
  refine Ev.asD e (Ev.bin (Ev.bin (Ev.itemT (ds := ([35208, 34572] : List Int).map D.int) (i := t) (Ev.tuple (EvL.cons Ev.int (EvL.cons Ev.int EvL.nil)) (sizeOk (by simp))) (by walk_at "v") ?_ (by simp)) (Ev.callB (Ev.bn (v := .builtin "sum") C)
   (EvL.cons (Ev.asD (congrArg D.list (pickL_map D.int ns (some (t : Int)) none (some 2))) (Ev.sub (d_1 := .list (ns.map D.int)) (by walk_at "v") (Ev.slice (EvO.some (by walk_at "v")) EvO.none (EvO.some Ev.int)) (item_step (by decide) (sizeOk (by simp; lia))))) EvL.nil) sum_l (args1 fun U => rfl)) add_ii) Ev.int (mod_ii (by lia)))
  match t, ht with
  | 0, _ => rfl
  | 1, _ => rfl
 have em : (.list (((List.range 2).filter fun zz => true).map fun t => eN (modeN ns t)) : D) = eL [modeN ns 0, modeN ns 1] := rfl
 rw [em]
 generalize modeN ns 0 = m0
 generalize modeN ns 1 = m1
 refine Ef.compL (Γ' := []) (enc := eN) (xs := [m0, m1]) (p := fun zz => true) (f := fun m => eC (fm m)) (bs := fun d => [(N "mode", d)]) (EvS.list (by walk_at "v"))
  (cmp1 (fun t ht zz => Ev.callF h29.fn (Ev.fn C h29) (EvL.cons (by walk_at "v") EvL.nil) ((filemode_fun C h8 h29 hT).up (by lia)) (args1 fun U => rfl)) (sizeOk (by simp))) ?_
 have er : (.list ((([m0, m1] : List Nat).filter fun zz => true).map fun m => eC (fm m)) : D) = .list [eC (fm m0), eC (fm m1)] := rfl
 rw [er]
 refine Ef.own (ds := []) EvN.nil fun an => ?_
 have h0d := dig_ok m0
 have h1d := dig_ok m1
 have emach := machine_rows m0 m1
 have Vw : MV (wholeD (dig m0) (dig m1)) := whole_mv _ _
 have Dp := law_plain h0d h1d
 have Dt := law_turned h0d h1d
 have Dl := law_least h0d h1d
 have Db := law_back h0d h1d
 have tl := law_turned_lang h0d h1d
 have ll := law_least_lang h0d h1d
 refine Ef.tape (J := 0) C TC h31 h4 h5 h34 (m := wholeD (dig m0) (dig m1)) Vw (by kernel_rfl) (by kernel_rfl) (by walk_at "v") (by lia) (Ev.y (d := eM (wholeD (dig m0) (dig m1))) ?_ ⟨rfl, 0, Nat.le_refl _, rfl⟩) fun i1 z1 => ?_
 ·rw [<- emach]
  exact Ev.callF h33.fn (Ev.fn C h33) (EvL.cons (by walk_at "v") EvL.nil) ((machine_fun C h33 (fm_len m0) (fm_len m1)).up (by lia)) (args1 fun U => rfl)
 refine Ef.tape (J := i1 + 40) C TC h31 h4 h5 h34 Dp.mv (by kernel_rfl) (by kernel_rfl) (by walk_at "v") (by lia) (EvX.plain C h1 h36 h37 h38 Vw (by walk_at "v") (by kernel_rfl) (by walk_at "v") (by lia)) fun i2 z2 => ?_
 refine Ef.tape (J := i2 + 40) C TC h31 h4 h5 h34 Dt.mv (by kernel_rfl) (by kernel_rfl) (by walk_at "v") (by lia) (EvX.plain C h1 h36 h37 h38 (m := turned (wholeD (dig m0) (dig m1))) (turned_mv Vw) (Ev.callF h35.fn (Ev.fn C h35) (EvL.cons (by walk_at "v") EvL.nil) ((turned_fun C h35 (by have := Vw.len; lia)).up (by lia)) (args1 fun U => rfl)) (by kernel_rfl) (by walk_at "v") (by lia)) fun i3 z3 => ?_
 refine Ef.tape (J := i3 + 40) C TC h31 h4 h5 h34 Dl.mv (by kernel_rfl) (by kernel_rfl) (by walk_at "v") (by lia) (EvX.plain C h1 h36 h37 h38 (m := turned (plain (turned (wholeD (dig m0) (dig m1))))) (turned_mv Dt.mv) (Ev.callF h35.fn (Ev.fn C h35) (EvL.cons (by walk_at "v") EvL.nil) ((turned_fun C h35 (by have := Dt.mv.len; lia)).up (by lia)) (args1 fun U => rfl)) (by kernel_rfl) (by walk_at "v") (by lia)) fun i4 z4 => ?_
 refine Ef.tape (J := i4 + 40) C TC h31 h4 h5 h34 Db.mv (by kernel_rfl) (by kernel_rfl) (by walk_at "v") (by lia) (EvX.plain C h1 h36 h37 h38 (m := turned (plain (turned (plain (turned (wholeD (dig m0) (dig m1))))))) (turned_mv Dl.mv) (Ev.callF h35.fn (Ev.fn C h35) (EvL.cons (by walk_at "v") EvL.nil) ((turned_fun C h35 (by have := Dl.mv.len; lia)).up (by lia)) (args1 fun U => rfl)) (by kernel_rfl) (by walk_at "v") (by lia)) fun i5 z5 => ?_
 refine Ef.compL (Γ' := []) (enc := eN) (xs := [m0, m1]) (p := fun zz => true) (f := fun m => eD (dig m)) (bs := fun d => [(N "mode", d)]) (EvS.list (by walk_at "v"))
  (cmp1 (fun m hm zz => ?_) (sizeOk (by simp))) ?_
 ·dsimp only [kA, kN]
  show Ev _ _ _ _ _ _ _ _ (.list [eN (m / 512 % 8), eN (m / 64 % 8), eN (m / 8 % 8), eN (m % 8)])
  exact Ev.list (EvL.cons (Ev.natMod (Ev.natDiv (by walk_at "v") (Ev.nat rfl) (by lia) (by lia)) (Ev.nat rfl) (by lia)) (EvL.cons (Ev.natMod (Ev.natDiv (by walk_at "v") (Ev.nat rfl) (by lia) (by lia)) (Ev.nat rfl) (by lia)) (EvL.cons (Ev.natMod (Ev.natDiv (by walk_at "v") (Ev.nat rfl) (by lia) (by lia)) (Ev.nat rfl) (by lia)) (EvL.cons (Ev.natMod (by walk_at "v") (Ev.nat rfl) (by lia)) EvL.nil)))) (sizeOk (by simp))
 have ed : (.list ((([m0, m1] : List Nat).filter fun zz => true).map fun m => eD (dig m)) : D) = .list ([dig m0, dig m1].map eD) := rfl
 rw [ed]
 have nf := num_forth h0d h1d
 have nh := num_hither h0d h1d
 have k1 := nf.fits1 rfl rfl
 have k2 := nf.fits2 Dt tl rfl rfl
 have kb := nf.bags Dt tl
 have l1 := nh.fits1 rfl rfl
 have l2 := nh.fits2 Dl ll rfl rfl
 have lb := nh.bags Dl ll
 have fr0 := fm_row m0
 have fr1 := fm_row m1
 have di0 : dig m0 = (m0 / 512 % 8, m0 / 64 % 8, m0 / 8 % 8, m0 % 8) := rfl
 have di1 : dig m1 = (m1 / 512 % 8, m1 / 64 % 8, m1 / 8 % 8, m1 % 8) := rfl
 clear emach di0 di1
 generalize dig m0 = o0 at *
 generalize dig m1 = o1 at *
 generalize plain (turned (plain (turned (plain (turned (wholeD o0 o1)))))) = back at *
 generalize plain (turned (plain (turned (wholeD o0 o1)))) = least at *
 generalize plain (turned (wholeD o0 o1)) = turned' at *
 generalize plain (wholeD o0 o1) = plain' at *
 refine Ef.passN (EvX.truth (EvX.callG C h44 (least_fun C h2 h41 h42 h43 h44 Dp.md Dl.md nf.len nf.in8 nf.st_lt rfl rfl k1 k2) (M_1 := [(an, notesJ i5)])
   (EvL.cons (by walk_at "v") (EvL.cons (by walk_at "v") (EvL.cons (Ev.callF h39.fn (Ev.fn C h39) (EvL.cons (by walk_at "v") EvL.nil) ((forth_fun C h39).up (by lia)) (args1 fun U => rfl)) (EvL.cons (Ev.item (ds := (digL o0).map eN) (i := 0) (Ev.item (ds := [o0, o1].map eD) (i := 0) (by walk_at "v") Ev.int rfl (by simp)) Ev.int rfl (by simp [digL])) (EvL.cons (Ev.item (ds := (digL o1).map eN) (i := 0) (Ev.item (ds := [o0, o1].map eD) (i := 1) (by walk_at "v") Ev.int rfl (by simp)) Ev.int rfl (by simp [digL])) EvL.nil))))) rfl
   (fun d M' h => ⟨_, h.1, kb, by rw [h.2]; rfl⟩) (fun zz zz zz h => h) (args5 fun U => rfl))) ?_
 refine Ef.passN (EvX.truth (EvX.callG C h44 (least_fun C h2 h41 h42 h43 h44 Dt.md Db.md nh.len nh.in8 nh.st_lt rfl rfl l1 l2) (M_1 := [(an, notesJ i5)])
   (EvL.cons (by walk_at "v") (EvL.cons (by walk_at "v") (EvL.cons (Ev.callF h40.fn (Ev.fn C h40) (EvL.cons (by walk_at "v") EvL.nil) ((hither_fun C h40).up (by lia)) (args1 fun U => rfl)) (EvL.cons (Ev.item (ds := (digL o1).map eN) (i := 0) (Ev.item (ds := [o0, o1].map eD) (i := 1) (by walk_at "v") Ev.int rfl (by simp)) Ev.int rfl (by simp [digL])) (EvL.cons (Ev.item (ds := (digL o0).map eN) (i := 0) (Ev.item (ds := [o0, o1].map eD) (i := 0) (by walk_at "v") Ev.int rfl (by simp)) Ev.int rfl (by simp [digL])) EvL.nil))))) rfl
   (fun d M' h => ⟨_, h.1, lb, by rw [h.2]; rfl⟩) (fun zz zz zz h => h) (args5 fun U => rfl))) ?_
 have zz : ∀ x ∈ [sOf (fm m0), sOf (fm m1)], PyData.strOk x = true := fun x hx => by
  simp only [List.mem_cons, List.not_mem_nil, or_false] at hx
  rcases hx with rfl | rfl
  ·exact fm_ok m0
  ·exact fm_ok m1
 refine Ef.pass (Tr.cmp (d_1 := .list ([sOf (fm m0), sOf (fm m1)].map D.str)) (d_2 := .list ([sOf (fm m0), sOf (fm m1)].map D.str)) (Ev.asD (d := .list [eC (fm m0), eC (fm m1)]) rfl (by walk_at "v"))
   (Ev.asD (d := .list ((([m0, m1] : List Nat).filter fun zz => true).map fun m => eC (row (m / 4096 % 16) (m % 4096)))) (by rw [fr0, fr1]; rfl) (Ev.comp (Γ' := []) (enc := eN) (xs := [m0, m1]) (p := fun zz => true) (f := fun m => eC (row (m / 4096 % 16) (m % 4096))) (bs := fun d => [(N "mode", d)]) (EvS.list (by walk_at "v"))
    (cmp1 (fun m hm zz => Ev.callF h32.fn (Ev.fn C h32) (EvL.cons (Ev.natMod (x := m / 4096) (y := 16) (Ev.natDiv (x := m) (y := 4096) (by walk_at "v") (Ev.nat rfl) (by decide) (by decide)) (Ev.nat rfl) (by decide)) (EvL.cons (Ev.natMod (x := m) (y := 4096) (by walk_at "v") (Ev.nat rfl) (by decide)) EvL.nil)) ((row_fun C h32 (k := m / 4096 % 16) (r := m % 4096) (Nat.mod_lt _ (by decide)) (Nat.mod_lt _ (by decide))).up (by lia)) (args2 fun U => rfl)) (sizeOk (by simp)))))
   (ne_dd (Lay.list Lay.str) (by lia) zz zz) rfl) (by simp) ?_
 refine Ef.freeze (x := N "notes") (by walk_at "v") ?_
 have en : notesJ i5 = (List.replicate i5 true).map D.bool := by rw [List.map_replicate]; rfl
 rw [en]
 refine Ef.ret (d := .bool (!decide (false ∈ List.replicate i5 true))) (Ev.cmp (d_1 := .bool false) (d_2 := .list ((List.replicate i5 true).map D.bool)) Ev.bool (by walk_at "v") (notIn_dd Lay.bool (by lia) trivial fun zz zz => trivial) rfl) ⟨_, [], rfl, List.Sublist.refl _, rfl, ?_, rfl⟩
 simp
theorem law_fun (C : Cx ba mg mb) (TC : TapeCx ba mg K Cc fI a31 c31) (h31 : FnG ba mg (stmtAt 31) a31) (hT : GD ba mg (N "_filemode_table") (.tuple (fmTab.map eTab)))
  (hd : ∀ k ∈ [1, 2, 4, 5, 8, 29, 32, 33, 34, 35, 36, 37, 38, 39, 40, 41, 42, 43, 44], ∃ a, FnG ba mg (stmtAt k) a) {a45 : Addr} (h45 : FnG ba mg (stmtAt 45) a45) {ns : List Int} (zs : ns.length <= 1000) :
  FunX pg w ba 5 (fun vs => PySem.call (.ref a45) vs) [.list (ns.map D.int)] [] (fun d M' => d = .bool true /\ M' = []) (fun zz zz zz => False) := by
 obtain ⟨_, h1⟩ := hd 1 (by decide)
 obtain ⟨_, h2⟩ := hd 2 (by decide)
 obtain ⟨_, h4⟩ := hd 4 (by decide)
 obtain ⟨_, h5⟩ := hd 5 (by decide)
 obtain ⟨_, h8⟩ := hd 8 (by decide)
 obtain ⟨_, h29⟩ := hd 29 (by decide)
 obtain ⟨_, h32⟩ := hd 32 (by decide)
 obtain ⟨_, h33⟩ := hd 33 (by decide)
 obtain ⟨_, h34⟩ := hd 34 (by decide)
 obtain ⟨_, h35⟩ := hd 35 (by decide)
 obtain ⟨_, h36⟩ := hd 36 (by decide)
 obtain ⟨_, h37⟩ := hd 37 (by decide)
 obtain ⟨_, h38⟩ := hd 38 (by decide)
 obtain ⟨_, h39⟩ := hd 39 (by decide)
 obtain ⟨_, h40⟩ := hd 40 (by decide)
 obtain ⟨_, h41⟩ := hd 41 (by decide)
 obtain ⟨_, h42⟩ := hd 42 (by decide)
 obtain ⟨_, h43⟩ := hd 43 (by decide)
 obtain ⟨_, h44⟩ := hd 44 (by decide)
 exact fnX_of_body C h45 (by kernel_rfl) posOk_45 rfl (law_body C TC h31 hT h1 h2 h4 h5 h8 h29 h32 h33 h34 h35 h36 h37 h38 h39 h40 h41 h42 h43 h44 zs)
end
end
section
open PySem.W PyProof.Rows
theorem ghost_ext {tabs : List (Addr × Addr)} : Ext (ghostOf h tabs) h := fun b o e => of_hideAll _ e
theorem ghost_codeRec {tabs : List (Addr × Addr)} (hT : TabsAt tabs h) {cd : Value} {q : Str} (x : h.CodeRec cd q) : (ghostOf h tabs).CodeRec cd q := by
 obtain ⟨c, o, vs, t, e, g, r1, r2⟩ := x
 refine ⟨c, o, vs, t, e, ghost_get hT g (fun hq => ?_), r1, r2⟩
 subst hq
 injection r1 with r1
 rw [<- r1] at r2; cases r2
theorem ghost_fun {tabs : List (Addr × Addr)} (hT : TabsAt tabs h) {o : Obj} {fd : FuncData} (g : h.get? a = some o) (d : o.data = .func fd) : (ghostOf h tabs).get? a = some o := ghost_get hT g fun hq => by subst hq; cases d
section
variable {tabs : List (Addr × Addr)} {p : Program} {loose : List Str} {mean : ExcName -> Option Value} {K : Frag}
theorem fnG_of (hT : TabsAt tabs h) (T : Top p loose mean mg mb h) {st : Stmt} (hr : (recsOf p).find? (fun e => e.name == fnName st) = some ⟨fnName st, fnParams st, fnBody st, fnScope st, posOf st⟩) : ∃ a, FnG (ghostOf h tabs) mg st a := by
 obtain ⟨a, o, pm, code, doc, h1, h2, h3, h4⟩ := T.fn _ (List.mem_of_find?_eq_some hr)
 exact ⟨a, h1, ⟨o, pm, code, doc, ghost_fun hT h2 h3, h3, ghost_codeRec hT h4⟩⟩
theorem cx_of (hT : TabsAt tabs h) (T : Top p loose mean mg mb h) (X : K.In h) (bt : (btab.all fun x => match nsIn K mainGlobals x.1 with | some none => true | _ => false) = true) : Cx (ghostOf h tabs) mg mb where
 L := ⟨ghost_ns hT T.g, ghost_ns hT T.b, let ⟨mc, a, r⟩ := T.nolimit; ⟨mc, ghost_ns hT a, r⟩⟩
 bt := fun x hx => by
  refine ⟨?_, ?_⟩
  ·have := List.all_eq_true.1 bt x hx
   refine mg_none_of X T.g ?_
   revert this
   cases nsIn K mainGlobals x.1 with
   | none => exact fun e => by cases e
   | some v => cases v with
    | none => exact fun zz => rfl
    | some v => exact fun e => by cases e
  ·simp only [btab, List.mem_cons, List.not_mem_nil, or_false] at hx
   rcases hx with rfl | rfl | rfl | rfl | rfl | rfl | rfl | rfl | rfl | rfl | rfl
   all_goals exact (T.builtins _ (by decide)).trans (by kernel_rfl)
noncomputable def isI (v : Value) (j : Int) : Bool := match v with | .int i _ => decide (i = j) | _ => false
noncomputable def isS (v : Value) (y : Str) : Bool := match v with | .str x _ => x == y | _ => false
noncomputable def isR (v : Value) : Option Addr := match v with | .ref a => some a | _ => none
noncomputable def isSq (d : Data) : Option (Array Value) := match d with | .seq vs _ => some vs | _ => none
theorem isI_eq {j : Int} (h : isI v j = true) : ∃ t, v = .int j t := by
 cases v <;> first | exact ⟨_, by rw [of_decide_eq_true h]⟩ | exact Bool.noConfusion h
theorem isS_eq {y : Str} (h : isS v y = true) : ∃ t, v = .str y t := by
 cases v <;> first | exact ⟨_, by rw [eq_of_beq h]⟩ | exact Bool.noConfusion h
theorem isR_eq (h : isR v = some a) : v = .ref a := by
 cases v <;> first | (injection h with h; rw [h]) | exact Option.noConfusion rfl (heq_of_eq h)
theorem isSq_eq {d : Data} {vs : Array Value} (h : isSq d = some vs) : ∃ n, d = .seq vs n := by
 cases d <;> first | (injection h with h; exact ⟨_, by rw [h]⟩) | exact Option.noConfusion rfl (heq_of_eq h)
noncomputable def atIn (K : Frag) : Nat -> Value -> D -> Bool
 | 0, _, _ => false
 | f + 1, v, d => match d with
  | .int j => isI v j
  | .str y => isS v y
  | .tuple ds => (isR v).any fun a => (K.lookup a).any fun o => decide (o.cls = .type "tuple") && o.dict.isNone && o.slots.size == 0 && (isSq o.data).any fun vs => vs.toList.length == ds.length && (vs.toList.zip ds).all fun p => atIn K f p.1 p.2
  | _ => false
theorem ats_zip : ∀ {vs : List Value} {ds : List D}, vs.length = ds.length -> (∀ p ∈ vs.zip ds, At X h p.1 p.2) -> Ats X h vs ds
 | [], [], _, _ => .nil
 | v :: vs, d :: ds, hl, ha => .cons (ha (v, d) jC) (ats_zip (by simpa using hl) fun p hp => ha p (jT _ hp))
theorem any_some {p : α -> Bool} {o : Option α} (h : o.any p = true) : ∃ a, o = some a /\ p a = true := by
 cases o with
 | none => exact Bool.noConfusion h
 | some a => exact ⟨a, rfl, h⟩
theorem atIn_at (X : K.In h) (f : Nat) : ∀ (v : Value) (d : D), atIn K f v d = true -> At [] h v d := by
 induction f with
 | zero => exact fun v d e => Bool.noConfusion e
 | succ f ih =>
  intro v d e
  cases d <;> try exact Bool.noConfusion e
  ·obtain ⟨t, rfl⟩ := isI_eq e; exact .int _ _
  ·obtain ⟨t, rfl⟩ := isS_eq e; exact .str _ _
  ·obtain ⟨a, h1, e⟩ := any_some e
   obtain ⟨o, h2, e⟩ := any_some e
   rw [isR_eq h1]
   obtain ⟨c, dd, da, sl⟩ := o
   obtain ⟨vs, h3, e'⟩ := any_some (Bool.and_eq_true_iff.1 e).2
   have e := (Bool.and_eq_true_iff.1 e).1
   obtain ⟨n, h4⟩ := isSq_eq h3
   have h5 := of_decide_eq_true (Bool.and_eq_true_iff.1 (Bool.and_eq_true_iff.1 e).1).1
   have h6 := Option.isNone_iff_eq_none.1 (Bool.and_eq_true_iff.1 (Bool.and_eq_true_iff.1 e).1).2
   have h7 := Array.size_eq_zero_iff.1 (beq_iff_eq.1 (Bool.and_eq_true_iff.1 e).2)
   have h8 := beq_iff_eq.1 (Bool.and_eq_true_iff.1 e').1
   have h9 := List.all_eq_true.1 (Bool.and_eq_true_iff.1 e').2
   dsimp only at h4 h5 h6 h7
   subst h4 h5 h6 h7
   exact .tuple (List.not_mem_nil) (X _ _ h2) (ats_zip h8 fun p hp => ih _ _ (h9 p hp))
theorem at_ghost (hT : TabsAt tabs h) (a : At [] h v d) : At [] (ghostOf h tabs) v d := a.moveW fun b o hb hh e => ⟨hb, ghost_get hT e fun hq => by subst hq; exact hh.2 rfl⟩
theorem ints_ats {ns : List Int} (hi : IntsAre vs ns) : Ats X h vs (ns.map D.int) := by
 induction hi with
 | nil => exact .nil
 | cons n t _ ih => exact .cons (.int _ _) ih
structure Facts (K : Frag) (p : Program) : Prop where
 kn : noTabs K = true
 bt : (btab.all fun x => match nsIn K mainGlobals x.1 with | some none => true | _ => false) = true
 ex : ExK K 59 56
 cls : nsIn K mainGlobals (N "_Example") = some (some (.ref 59))
 tab : tabIn K (fnName (stmtAt 31)) = some (116, 112)
 bi : nsIn K mainGlobals (N "__builtins__") = some (some (.ref 4))
 ft : nsIn K mainGlobals (N "_filemode_table") = some (some (.ref 103))
 fmt : atIn K 5 (.ref 103) (.tuple (fmTab.map eTab)) = true
 ini : ∃ doc pm code ct, K.lookup 56 = some { cls := .type "function", data := .func (fnX (fnName initSt) (N "_Example.__init__") (fnParams initSt) (fnBody initSt) (fnScope initSt) [] .none .none doc pm none code ct) } /\ codeIn K code (N "_Example.__init__") = true
 recs : ∀ k ∈ [1, 2, 4, 5, 8, 29, 31, 32, 33, 34, 35, 36, 37, 38, 39, 40, 41, 42, 43, 44, 45], (recsOf p).find? (fun e => e.name == fnName (stmtAt k)) = some ⟨fnName (stmtAt k), fnParams (stmtAt k), fnBody (stmtAt k), fnScope (stmtAt k), posOf (stmtAt k)⟩
theorem law_join (F : Facts K p) (T : Top p loose mean mg mb s.heap) (X : K.In s.heap) (hT : TabsAt [(116, 112)] s.heap) {fa : Addr} (hmg : mg (fnName (stmtAt 45)) = some (.ref fa)) {l : Addr} {ns : List Int}
  (hl : s.heap.get? l = some (listO vs.toArray n)) (hi : IntsAre vs ns) (hz : ns.length <= 1000) {Q : VP} (hQ : ∀ h' tk, OldK s.heap h' -> Q (.bool true) { s with heap := h', toks := tk }) :
  wpAny (model pg w) callerA (PySem.call (.ref fa) [.ref l]) Q E s := by
 have C : Cx (ghostOf s.heap [(116, 112)]) mg mb := cx_of hT T X F.bt
 have hd : ∀ k ∈ [1, 2, 4, 5, 8, 29, 31, 32, 33, 34, 35, 36, 37, 38, 39, 40, 41, 42, 43, 44, 45], ∃ a, FnG (ghostOf s.heap [(116, 112)]) mg (stmtAt k) a := fun k hk => fnG_of hT T (F.recs k hk)
 have h112 : s.heap.get? 112 = some (tabObj #[]) := (hT (116, 112) jC).2
 obtain ⟨a31, h31⟩ := hd 31 (by decide)
 have hbi := mg_of X T.g F.bi
 have TC : TapeCx (ghostOf s.heap [(116, 112)]) mg K 59 56 a31 116 := by
  refine ⟨ghost_K hT X F.kn, F.ex, mg_of X T.g F.cls, ?_, ?_, (ghost_code hT).1, hideAll_none _ (by simp), fun h e => ?_⟩
  ·obtain ⟨doc, pm, code, ct, h1, h2⟩ := F.ini
   exact ⟨_, pm, code, doc, ct, ghost_fun hT (X _ _ h1) rfl, rfl, ghost_codeRec hT (codeRec_of X h2)⟩
  ·obtain ⟨a, o, pm, code, doc, g1, g2, g3, g4⟩ := T.fn _ (List.mem_of_find?_eq_some (F.recs 31 (by decide)))
   have ea : a = a31 := by have := g1.symm.trans h31.name; injection this with this; injection this
   subst ea
   have ec : code = .ref 116 := law_code X T.g F.tab g1 g2 g3
   subst ec
   exact ⟨o, pm, doc, ghost_fun hT g2 g3, g3, ghost_codeRec hT g4⟩
  ·obtain ⟨bm, ob, b1, b2, b3, b4, b5, b6⟩ := T.bmain
   have eb : bm = 4 := by have := b1.symm.trans hbi; injection this with this; injection this
   subst eb
   exact ⟨4, ob, hbi, b2, by decide, by decide, e _ _ (ghost_get hT b3 fun hq => by subst hq; cases b4), b4, b5, b6⟩
 have GT : GD (ghostOf s.heap [(116, 112)]) mg (N "_filemode_table") (.tuple (fmTab.map eTab)) := ⟨_, mg_of X T.g F.ft, at_ghost hT (atIn_at X 5 _ _ F.fmt)⟩
 obtain ⟨a45, h45⟩ := hd 45 (by decide)
 have ea : a45 = fa := by have := h45.name.symm.trans hmg; injection this with this; injection this
 subst ea
 refine law_fun (pg := pg) (w := w) C TC h31 GT (fun k hk => hd k (by revert k; decide)) h45 hz s [] [.ref l] callerA Q E ⟨fun zz => rfl, by decide, by decide⟩ ⟨ghost_ext, (fun a ha => nomatch ha), (fun a ha => nomatch ha)⟩ ⟨⟨[], rfl, (fun e he => nomatch he)⟩, .inl rfl, ⟨#[], h112, trivial, fun cv e => by cases e⟩, (fun zz a ha => nomatch ha)⟩
  ⟨(fun q hq => nomatch hq), List.nodup_nil, (fun a ha => nomatch ha), (fun a ha => nomatch ha)⟩ (.one (.list (by simp) hl (ints_ats hi))) (fun v d h' tk M' hR zz av zz o3 kp => ?_) (fun zz zz zz zz zz zz zz zz hR => hR.elim)
 obtain ⟨rfl, _⟩ := hR
 obtain rfl := av.bool_
 refine hQ h' tk ⟨fun b ob e => ?_, fun b ob e => let ⟨o', e', _⟩ := o3.at_ b ob e; ⟨o', e'⟩⟩
 by_cases hb : b = 112
 ·subst hb
  rw [h112] at e; cases e
  obtain ⟨o', e', so⟩ := o3.at_ 112 _ h112
  rcases so (by simp) with rfl | ⟨es, ep, sl, hd', _⟩ | ⟨ps, ps', q1, rfl, _⟩
  ·exact .inl e'
  ·cases hd'
  ·exact .inr (.inl ⟨((hT (116, 112) jC).1.tab h112).isCodeTable, rfl, #[], ps', rfl, by rw [e']; simp⟩)
 ·exact .inl (kp _ _ (ghost_ne e (by simpa using hb)))
end
end
section
open PySem.W PyProof.Rows
noncomputable def keepIx : List Nat := (List.range 46).filter fun k => k != 0 && k != 3 && k != 7 && k != 30
noncomputable def vw : Program := { PySem.Challenge.pw_op0086_01 with main := { PySem.Challenge.pw_op0086_01.main with body := keepIx.filterMap fun k => PySem.Challenge.pw_op0086_01.main.body[k]? } }
noncomputable def partOf (h : Heap) : Frag := ([3, 55, 56, 57, 58, 59, 60, 61, 116, 117] ++ (List.range 33).map (· + 71)).filterMap fun a => (h.get? a).map fun o => (a, o)
theorem partOf_in (h : Heap) : (partOf h).In h := by
 have key : ∀ (l : List Nat) (a : Addr) (o : Obj), (l.filterMap fun a => (h.get? a).map fun o => (a, o)).lookup a = some o -> h.get? a = some o := fun l => by
  induction l with
  | nil => exact fun a o e => by cases e
  | cons x l ih =>
   intro a o e
   rw [List.filterMap_cons] at e
   cases hx : h.get? x with
   | none => rw [hx] at e; exact ih a o e
   | some y =>
    rw [hx] at e
    simp only [Option.map_some] at e
    rw [List.lookup_cons] at e
    cases hb : a == x with
    | true => rw [hb] at e; cases e; rw [eq_of_beq hb]; exact hx
    | false => rw [hb] at e; exact ih a o e
 exact fun a o e => key _ a o e
noncomputable def isV (x : Option (Option Value)) (v : Value) : Bool := match x with | some (some u) => decide (u = v) | _ => false
noncomputable def isN (x : Option (Option Value)) : Bool := match x with | some none => true | _ => false
theorem isV_eq {x : Option (Option Value)} (h : isV x v = true) : x = some (some v) := by
 unfold isV at h
 split at h
 ·rw [of_decide_eq_true h]
 ·cases h
theorem isN_eq {x : Option (Option Value)} (h : isN x = true) : x = some none := by
 unfold isN at h
 split at h
 ·rfl
 ·cases h
noncomputable def chkX (K : Frag) : Bool := makesIn K 59 && isV (findIn K (.ref 59) "__init__") (.ref 56) && decide (typeIn K (.ref 56) = some (.type "function")) && keepIn K (.ref 59) && plainOver K 59 && decide (takerIn K 59 "value" = some none) && decide (takerIn K 59 "read" = some none) && (clsIn K 59).any (·.hasDict) &&
 isV (findIn K (.ref 59) "__setattr__") (.builtin "object.__setattr__") && isV (findIn K (.ref 59) "__getattribute__") (.builtin "object.__getattribute__") && isN (findIn K (.ref 59) "__getattr__") && isN (findIn K (.ref 59) "read")
noncomputable def chk (K : Frag) : Bool := noTabs K && (btab.all fun x => match nsIn K mainGlobals x.1 with | some none => true | _ => false) && chkX K && isV (nsIn K mainGlobals (N "_Example")) (.ref 59) && decide (tabIn K (fnName (stmtAt 31)) = some (116, 112)) &&
 isV (nsIn K mainGlobals (N "__builtins__")) (.ref 4) && isV (nsIn K mainGlobals (N "_filemode_table")) (.ref 103) && atIn K 5 (.ref 103) (.tuple (fmTab.map eTab)) && codeIn K (.ref 55) (N "_Example.__init__") && codeHdIn K 116 112
noncomputable def initO : Obj := { cls := .type "function", data := .func (fnX (fnName initSt) (N "_Example.__init__") (fnParams initSt) (fnBody initSt) (fnScope initSt) [] .none .none .none (.str (N "cpy313.pickletools") 213) none (.ref 55) .none) }
theorem aL {a b : Bool} (h : (a && b) = true) : a = true := (Bool.and_eq_true_iff.1 h).1
theorem aR {a b : Bool} (h : (a && b) = true) : b = true := (Bool.and_eq_true_iff.1 h).2
theorem facts_of {K : Frag} {p : Program} (h : chk K = true) (hi : K.lookup 56 = some initO)
  (hr : ∀ k ∈ [1, 2, 4, 5, 8, 29, 31, 32, 33, 34, 35, 36, 37, 38, 39, 40, 41, 42, 43, 44, 45], (recsOf p).find? (fun e => e.name == fnName (stmtAt k)) = some ⟨fnName (stmtAt k), fnParams (stmtAt k), fnBody (stmtAt k), fnScope (stmtAt k), posOf (stmtAt k)⟩) : Facts K p /\ codeHdIn K 116 112 = true := by
 unfold chk at h
 have h10 := aR h; have hL10 := aL h; have h9 := aR hL10; have hL9 := aL hL10; have h8 := aR hL9; have hL8 := aL hL9; have h7 := aR hL8; have hL7 := aL hL8; have h6 := aR hL7; have hL6 := aL hL7; have h5 := aR hL6; have hL5 := aL hL6; have h4 := aR hL5; have hL4 := aL hL5; have h3 := aR hL4; have hL3 := aL hL4; have h2 := aR hL3; have hL2 := aL hL3; have h1 := hL2
 unfold chkX at h3
 have x12 := aR h3; have xL12 := aL h3; have x11 := aR xL12; have xL11 := aL xL12; have x10 := aR xL11; have xL10 := aL xL11; have x9 := aR xL10; have xL9 := aL xL10; have x8 := aR xL9; have xL8 := aL xL9; have x7 := aR xL8; have xL7 := aL xL8; have x6 := aR xL7; have xL6 := aL xL7; have x5 := aR xL6; have xL5 := aL xL6; have x4 := aR xL5; have xL4 := aL xL5; have x3 := aR xL4; have xL3 := aL xL4; have x2 := aR xL3; have xL2 := aL xL3; have x1 := xL2
 exact ⟨⟨h1, h2, ⟨x1, isV_eq x2, of_decide_eq_true x3, x4, x5, of_decide_eq_true x6, of_decide_eq_true x7, x8, isV_eq x9, isV_eq x10, isN_eq x11, isN_eq x12⟩, isV_eq h4, of_decide_eq_true h5, isV_eq h6, isV_eq h7, h8, ⟨_, _, _, _, hi, h9⟩, hr⟩, h10⟩
theorem recs_vw : ∀ k ∈ [1, 2, 4, 5, 8, 29, 31, 32, 33, 34, 35, 36, 37, 38, 39, 40, 41, 42, 43, 44, 45], (recsOf vw).find? (fun e => e.name == fnName (stmtAt k)) = some ⟨fnName (stmtAt k), fnParams (stmtAt k), fnBody (stmtAt k), fnScope (stmtAt k), posOf (stmtAt k)⟩ := by
 iterate 21 refine List.forall_mem_cons.2 ⟨by kernel_rfl, ?_⟩
 exact fun k hk => nomatch hk
noncomputable def hk : Hook where
 α := Bool × Option Obj × Option Obj
 obs := fun s => (chk (partOf s.heap), (partOf s.heap).lookup 56, s.heap.get? 112)
 val := fun zz => (true, some initO, some (tabObj #[]))
 says := fun w h => ∃ K : Frag, K.In h /\ Facts K vw /\ codeHdIn K 116 112 = true /\ h.get? 112 = some (tabObj #[])
 of := fun w s e => by
  injection e with e1 e2
  injection e2 with e2 e3
  obtain ⟨f1, f2⟩ := facts_of e1 e2 recs_vw
  exact ⟨_, partOf_in _, f1, f2, e3⟩
 keeps := fun w h h' ⟨K, a, b, c, d⟩ k => ⟨K, fun x o e => k _ _ (a x o e), b, c, k _ _ d⟩
end
section
open PySem.W PyProof.Rows
theorem left : LeftO PySem.Challenge.pw_op0086_01 vw [N "_filemode_table"] (fun s => xlAt vw [] s && recOk [] s) hk.obs hk.val 2544 := fun w => by kernel_rfl
end
section
open PySem.W PyProof.Rows
theorem said : PySem.Challenge.rw_op0086_01.wellSaid = true := by
 kernel_rfl
theorem well_list {P : Params} {l : Addr} {xs : List PyData} (x : Well P h (.ref l) (ofPy (.list xs))) (hL : h.IsList l vs.toArray) : ∃ n, h.get? l = some (listO vs.toArray n) := by
 have x' : ∃ ys, Well P h (.ref l) (.list ys) := ⟨_, x⟩
 obtain ⟨ys, x'⟩ := x'
 cases x' with
 | list e r =>
  obtain ⟨o, e', hc, n, hd⟩ := hL
  rw [e] at e'; cases e'
  refine ⟨n, ?_⟩
  rw [e, listO]
  injection hd with h1 h2
  rw [h1, <- h2]
noncomputable def lawD : DefRec := ⟨fnName (stmtAt 45), fnParams (stmtAt 45), fnBody (stmtAt 45), fnScope (stmtAt 45), posOf (stmtAt 45)⟩
set_option tactic.hygienic true in
theorem law_walk : WalkO vw [N "_filemode_table"] (XL vw []) hk.says PySem.Challenge.rw_op0086_01.row.toRowW lawD [] fun f vs => PySem.call f vs := by
 intro w s_0 s_1 mg mb G Y fa o pm cd doc dV kV ho hd hcd hD hmg hg args vals as hpre hlay hrd hwl hlo
 obtain ⟨K, KX, KF, hcd, h112⟩ := Y
 have hT : TabsAt [(116, 112)] s_1.heap := fun q hq => by rw [jS.1 hq]; exact ⟨codeHd_of_K KX hcd, h112⟩
 refine Ground.open G ?_
 intro T B D TE TW
 wrow_args hpre hlay hrd hwl hlo
 rename_i ns _ _ _ _ _ _ _ l vs _ hL ra wl rd hI _ hc _
 obtain ⟨n, hl⟩ := Mine.well_list wl hL
 refine Mine.law_join KF T KX hT hmg hl hI (by lia) fun h' tk old => ?_
 exact ⟨.inl ⟨_, .bool true, [], rfl, fun zz => rfl, .bool _, (by wrow_post), fun zz => ⟨List.nodup_nil, fun a ha => (nomatch ha)⟩⟩, old, rfl, .of_eq hg⟩
end
end Mine
open PySem PySem.W PyProof.Rows
theorem PySem.Challenge.cw_op0086_01_holds : PySem.Challenge.rw_op0086_01.Holds := by
 refine holds_law Mine.said fun hs => holds_open (q := Mine.vw) (loose := [Mine.N "_filemode_table"]) (Xt := fun s => xlAt Mine.vw [] s && recOk [] s) (XP := XL Mine.vw []) (Yf := Mine.hk.obs) (Ya := Mine.hk.val) (YP := Mine.hk.says) (d := Mine.lawD) (kwd := []) (N := 2544)
  Mine.left Mine.hk.of Mine.hk.keeps (fun s e => xl_of s (Bool.and_eq_true_iff.mp e).1) XL.keeps (by kernel_rfl) (by kernel_rfl) (by kernel_rfl) (fun s e => recFacts_of (Bool.and_eq_true_iff.mp e).2) (by rfl) hs (by kernel_rfl) ⟨rfl, rfl, rfl, rfl, rfl, by kernel_rfl⟩ ?_ Mine.law_walk
 w_witness2
