import PyProof.Rows.All
import Wide.All
import OpenK.AllK
import Wide.FinOn
import PySem.Challenge.RW_dm0046_01
set_option Elab.async false

-- part MHead
section
open PySem PySem.W PyProof.Rows
namespace Mine
set_option maxRecDepth 100000 in
set_option maxHeartbeats 8000000 in
open_top hd for PySem.Challenge.rw_dm0046_01
end Mine

end

-- part MBase
section
open PySem PySem.W PyProof.Rows PySem.Calls
namespace Mine
/-- open_top leaves a switch of the walk on, in the same file: off again. -/
theorem walkOff : True := by
  w_top off
  trivial

noncomputable abbrev prg : Program := PySem.Challenge.rw_dm0046_01.row.prog
noncomputable abbrev KK (w : World) : Frag := Mine.hd.heap_39 w.params
noncomputable abbrev VW := Mine.hd.view_39
noncomputable abbrev LS : List Str := looseW Mine.hd.view_39 []

theorem pure_def {w : World} {A : Around} {s : Shared} {K : Frag} {p : Program} {loose : List Str} {mean : ExcName → Option Value} {mg mb : Str → Option Value}
    {R : Result → Shared → Prop} {name qual : Str} {params : Arguments} {body : List Stmt} {scope : Scope} {dV kV doc pm cdv ct oc : Value} {an od : Option Addr} {osl : Array (Option Value)} {f : Addr} {args : Args} {binds : List (Str × Value)}
    (X : K.In s.heap) (T : Top p loose mean mg mb s.heap)
    (ho : K.lookup f = some ⟨oc, od, .func (fnOf name qual params body scope dV kV doc pm an cdv ct), osl⟩) (hcd : codeIn K cdv qual = true) (hroom : A.depth < recursionLimit)
    (hbind : BindsTo s (fnOf name qual params body scope dV kV doc pm an cdv ct) args binds) (hloc : ∀ y ∈ binds, scope.names.lookup y.1 = some .local)
    (h : ∀ L' h₁, Fr s.heap L' h₁ (fun y => binds.reverse.lookup y) → News s.heap L' h₁ [] →
      wpAny (model prg w) (A.deeper (envOf qual scope L' f cdv)) (execs body (envOf qual scope L' f cdv))
        (fun fl s' => R (.ok (.ret (match fl with | .ret v => v | _ => .none))) s')
        (fun _ _ => False)
        { s with heap := h₁, toks := s.toks + binds.length })
    (hco : scope.isCoroutine = false) (hgen : scope.isGenerator = false) (hk : scope.kind = .function)
    (hcell : ∀ x ∈ scope.names, x.2 ≠ .cell) : codeAny (model prg w) A (.call (.ref f) args) R s := by
  refine codeAny_call_def (fd := fnOf name qual params body scope dV kV doc pm an cdv ct) (body := body) (binds := binds) hroom (X _ _ ho) rfl T.nolimit (codeRec_of X hcd) rfl hbind hcell hloc (fun h₁ hns hk₁ => ?_) hco hgen hk
  exact wpAny_mono (h s.heap.objs.size h₁ ⟨hns, hk₁, Nat.le_refl _⟩ News.nil) (fun _ _ x => x) (fun _ _ x => x.elim)

/-- an Around with nothing handled. -/
abbrev AR (d u : Nat) (fr : List Env) : Around := { handled := none, depth := d, frames := some fr, guards := some [], units := u }
end Mine

end

-- part MMods
section
open PySem PySem.W PyProof.Rows PySem.Calls
namespace Mine
set_option maxRecDepth 100000
set_option maxHeartbeats 1000000
section
variable {prog : Program} {w : World} {A : Around} {E : Value → Shared → Prop} {s : Shared} {y : Str} {z : Int} {t u : Tok} {Q : Value → Shared → Prop} {b L : Addr} {h₀ : Heap} {news : List (Addr × Obj)}
theorem mod_b (hy : y.length ≤ 1000000) (h : ∀ t' k, Q (.str (Str.ofString "b'" ++ y ++ Str.ofString "'") t') { s with toks := k }) :
    wpAny (model prog w) A (binaryOp .Mod (.str (Str.ofString "b'%s'") t) (.str y u)) Q E s := by
  refine' KPc.mod_str (T := fun y => Str.ofString "b'" ++ y ++ Str.ofString "'") ?kpcF ?kpcl ?kpcm ?_
  (case kpcF => kpc_eq)
  (case kpcl => exact hy)
  (case kpcm => k_dflt kpc_run_s)
  exact h
theorem mod_v (hy : y.length ≤ 1000000) (h : ∀ t' k, Q (.str (Str.ofString "ValueError('" ++ y ++ Str.ofString "')") t') { s with toks := k }) :
    wpAny (model prog w) A (binaryOp .Mod (.str (Str.ofString "ValueError('%s')") t) (.str y u)) Q E s := by
  refine' KPc.mod_str (T := fun y => Str.ofString "ValueError('" ++ y ++ Str.ofString "')") ?kpcF ?kpcl ?kpcm ?_
  (case kpcF => kpc_eq)
  (case kpcl => exact hy)
  (case kpcm => k_dflt kpc_run_s)
  exact h
theorem mod_d (h0 : 0 ≤ z) (h1 : z < 100) (h : ∀ t' k, Q (.str (Str.ofString (toString z)) t') { s with toks := k }) :
    wpAny (model prog w) A (binaryOp .Mod (.str (Str.ofString "%d") t) (.int z u)) Q E s := by
  refine' KPc.mod_int (T := fun z => Str.ofString (toString z)) ?kpcF ?kpcl ?kpch ?kpcm ?_
  (case kpcF => kpc_eq)
  (case kpcl => exact h0)
  (case kpch => omega)
  (case kpcm => k_dflt kpc_run)
  exact h
theorem mod_t (h0 : 0 ≤ z) (h1 : z < 100) (h : ∀ t' k, Q (.str (Str.ofString "(" ++ Str.ofString (toString z) ++ Str.ofString ",)") t') { s with toks := k }) :
    wpAny (model prog w) A (binaryOp .Mod (.str (Str.ofString "(%d,)") t) (.int z u)) Q E s := by
  refine' KPc.mod_int (T := fun z => Str.ofString "(" ++ Str.ofString (toString z) ++ Str.ofString ",)") ?kpcF ?kpcl ?kpch ?kpcm ?_
  (case kpcF => kpc_eq)
  (case kpcl => exact h0)
  (case kpch => omega)
  (case kpcm => k_dflt kpc_run)
  exact h
theorem mod_i (h0 : 0 ≤ z) (h1 : z < 100) (h : ∀ t' k, Q (.str (Str.ofString "int (" ++ Str.ofString (toString z) ++ Str.ofString ")") t') { s with toks := k }) :
    wpAny (model prog w) A (binaryOp .Mod (.str (Str.ofString "int (%d)") t) (.int z u)) Q E s := by
  refine' KPc.mod_int (T := fun z => Str.ofString "int (" ++ Str.ofString (toString z) ++ Str.ofString ")") ?kpcF ?kpcl ?kpch ?kpcm ?_
  (case kpcF => kpc_eq)
  (case kpcl => exact h0)
  (case kpch => omega)
  (case kpcm => k_dflt kpc_run)
  exact h
theorem mod_l {t1 t2 : Tok} (N : News h₀ L s.heap news) (hb : (b, ({ cls := .type "tuple", data := .seq [Value.str y t1, Value.int z t2].toArray } : Obj)) ∈ news) (hy : y.length ≤ 1000000) (h0 : 0 ≤ z) (h1 : z < 100)
    (h : ∀ t' k, Q (.str (Str.ofString "['" ++ y ++ Str.ofString "', " ++ Str.ofString (toString z) ++ Str.ofString "]") t') { s with toks := k }) :
    wpAny (model prog w) A (binaryOp .Mod (.str (Str.ofString "['%s', %d]") t) (.ref b)) Q E s := by
  refine' KPt.mod_tuple (T := Str.ofString "['" ++ y ++ Str.ofString "', " ++ Str.ofString (toString z) ++ Str.ofString "]") N hb ?kptF ?kptm ?_
  (case kptF => kpt_eq)
  (case kptm => k_dflt kpt_run)
  exact h
end
end Mine

end

-- part MDefs
section
open PySem PySem.W PyProof.Rows PySem.Calls
namespace Mine
set_option maxRecDepth 100000
set_option maxHeartbeats 1000000

abbrev listO (vs : List Value) : Obj := { cls := .type "list", data := .seq vs.toArray 0 }
abbrev tupO (vs : List Value) : Obj := { cls := .type "tuple", data := .seq vs.toArray }
abbrev excO (cls : String) (tt : Addr) : Obj := { cls := .type cls, data := .fields #[.ref tt, .none, .none, .none, .bool false, .none] }
def letter (z : Int) : Str := Str.mk [(97 + z.fmod 26).toNat].toArray
def byteOf (z : Int) : Array UInt8 := [(97 + z.fmod 26).toNat.toUInt8].toArray
def numS (z : Int) : Str := Str.ofString (toString z)
def Link (x : Str) (z : Int) : Prop := x = letter z

/-- the things. -/
inductive Th
  | s (x : Str) | n | i (z : Int) | b (q : Bool) | y (z : Int) | l (z : Int) | t (z : Int) | v (z : Int)
def Th.ok : Th → Prop
  | .i z => 0 ≤ z ∧ z < 100
  | .y z => 0 ≤ z ∧ z < 100
  | .l z => 0 ≤ z ∧ z < 100
  | .t z => 0 ≤ z ∧ z < 100
  | .v z => 0 ≤ z ∧ z < 100
  | _ => True
def Th.kind : Th → Str
  | .s _ => Str.ofString "str"
  | .n => Str.ofString "NoneType"
  | .i _ => Str.ofString "int"
  | .b _ => Str.ofString "bool"
  | .y _ => Str.ofString "bytes"
  | .l _ => Str.ofString "list"
  | .t _ => Str.ofString "tuple"
  | .v _ => Str.ofString "ValueError"
def Th.look : Th → Str
  | .s _ => Str.ofString ""
  | .n => Str.ofString "None"
  | .i z => numS z
  | .b q => if q then Str.ofString "True" else Str.ofString "False"
  | .y z => Str.ofString "b'" ++ letter z ++ Str.ofString "'"
  | .l z => Str.ofString "['" ++ letter z ++ Str.ofString "', " ++ numS z ++ Str.ofString "]"
  | .t z => Str.ofString "(" ++ numS z ++ Str.ofString ",)"
  | .v z => Str.ofString "ValueError('" ++ letter z ++ Str.ofString "')"
def Th.isS : Th → Bool
  | .s _ => true
  | _ => false
/-- a value is that thing, by what a ledger bears. -/
def Th.Is (nw : List (Addr × Obj)) (x : Value) : Th → Prop
  | .s str => ∃ t, x = .str str t
  | .n => x = .none
  | .i z => ∃ t, x = .int z t
  | .b q => x = .bool q
  | .y z => ∃ t, x = .bytes (byteOf z) t
  | .l z => ∃ a t1 t2, x = .ref a ∧ (a, listO [.str (letter z) t1, .int z t2]) ∈ nw
  | .t z => ∃ a t1, x = .ref a ∧ (a, tupO [.int z t1]) ∈ nw
  | .v z => ∃ a tt t1, x = .ref a ∧ (a, excO "ValueError" tt) ∈ nw ∧ (tt, tupO [.str (letter z) t1]) ∈ nw
theorem Th.Is.mono {nw nw' : List (Addr × Obj)} {x : Value} (hs : ∀ p ∈ nw, p ∈ nw') : ∀ {θ : Th}, θ.Is nw x → θ.Is nw' x
  | .s _, h => h
  | .n, h => h
  | .i _, h => h
  | .b _, h => h
  | .y _, h => h
  | .l _, ⟨a, t1, t2, h, k⟩ => ⟨a, t1, t2, h, hs _ k⟩
  | .t _, ⟨a, t1, h, k⟩ => ⟨a, t1, h, hs _ k⟩
  | .v _, ⟨a, tt, t1, h, k, k2⟩ => ⟨a, tt, t1, h, hs _ k, hs _ k2⟩

/-- the objects nw are in h' and were not in h. -/
def Fresh (h h' : Heap) (nw : List (Addr × Obj)) : Prop := ∀ p ∈ nw, h'.get? p.1 = some p.2 ∧ h.get? p.1 = none
theorem News.toFresh {h h' : Heap} {L : Addr} {nw : List (Addr × Obj)} (N : News h L h' nw) : Fresh h h' nw := fun p hp => ⟨(N p hp).1, (N p hp).2.2⟩

section
variable {w : World} {A : Around} {E : Value → Shared → Prop} {s : Shared} {h₀ : Heap} {L : Addr} {m : Str → Option Value} {news : List (Addr × Obj)} {Q : Value → Shared → Prop}
theorem none_of_keep {h h' : Heap} (k : ∀ b o, h.get? b = some o → h'.get? b = some o) {b : Addr} (e : h'.get? b = none) : h.get? b = none := by
  cases q : h.get? b with
  | none => rfl
  | some o => rw [k b o q] at e; cases e
theorem ne_of_fresh {h : Heap} {a b : Addr} {o : Obj} (ha : h.get? a = none) (hb : h.get? b = some o) : a ≠ b := fun q => by rw [q, hb] at ha; cases ha
theorem Fresh.toNews {h h' : Heap} {nw : List (Addr × Obj)} (F : Fr h₀ L h m) (X : Fresh h h' nw) : News h₀ L h' nw := fun p hp => by
  obtain ⟨oL, _, _, hL, _⟩ := F.ns
  exact ⟨(X p hp).1, ne_of_fresh (X p hp).2 hL, none_of_keep F.keep (X p hp).2⟩
theorem News.app {h : Heap} {n1 n2 : List (Addr × Obj)} (a : News h₀ L h n1) (b : News h₀ L h n2) : News h₀ L h (n1 ++ n2) := fun p hp => (List.mem_append.mp hp).elim (a p) (b p)
theorem make_exc {prog : Program} {cls newId initId : String} (C : ExcCallFacts cls newId initId) {vs : List Value} (F : Fr h₀ L s.heap m) (N : News h₀ L s.heap news) (hz : vs.length ≤ 1000)
    (h : ∀ e tt h', Fr h₀ L h' m → News h₀ L h' ((e, excO cls tt) :: (tt, tupO vs) :: news) → (∀ p ∈ news, p.1 ≠ e) → (∀ p ∈ news, p.1 ≠ tt) → Q (.ref e) { s with heap := h' }) :
    wpAny (model prog w) A (call (.type cls) vs) Q E s := by
  obtain ⟨hp, g, d, tk, os⟩ := s
  refine wpAny_call_exc C (fun h' e M => ?_) (by rw [sizeLine_eq]; omega)
  obtain ⟨tt, he, hn, ht⟩ := M.there
  refine h e tt h' (F.keeps M.keeps) ?_ (fun p hp q => ne_of_fresh M.new (N p hp).1 q.symm) (fun p hp q => ne_of_fresh hn (N p hp).1 q.symm)
  have Z : Fresh hp h' [(e, excO cls tt), (tt, tupO vs)] := by
    intro p hp
    rcases List.mem_cons.mp hp with rfl | hp
    · exact ⟨he, M.new⟩
    · rw [List.mem_singleton.mp hp]; exact ⟨ht, hn⟩
  exact News.app (Z.toNews F) (N.grown M.keeps)
theorem item_at {prog : Program} {value slice : PySem.Expr} {l : Addr} {vs : List Value} {k : Int} {u : Tok} {v : Value}
    (hl : s.heap.IsList l vs.toArray) (h0 : 0 ≤ k) (hhi : k < 1000000) (hx : vs[k.toNat]? = some v) (h : Q v s)
    (hs : subscripted slice false (.ref l) (.int k u) = operate [.ref l, .int k u] (getItem (.ref l) (.int k u)) := by with_unfolding_all rfl) :
    wpAny (model prog w) A (subscriptTail value slice (.ref l) (.int k u)) Q E s :=
  tail_any hl.typeIs slot_list_getitem.lookup (wpAny_getItem_list hl h0 (by omega) (by simpa using hx) h) hs
end
theorem nine {i : Int} (h0 : 0 ≤ i) (h1 : i < 9) : i = 0 ∨ i = 1 ∨ i = 2 ∨ i = 3 ∨ i = 4 ∨ i = 5 ∨ i = 6 ∨ i = 7 ∨ i = 8 := by omega
theorem byte_in (z : Int) : 0 ≤ 97 + z.fmod 26 ∧ 97 + z.fmod 26 < 256 := by
  have h1 := fmod_lo z (n := 26) (by decide)
  have h2 := fmod_hi z (n := 26) (by decide)
  omega
theorem bytes_in (z : Int) : ∀ n ∈ [97 + z.fmod 26], 0 ≤ n ∧ n < 256 := by
  intro n hn
  rw [List.mem_singleton.mp hn]
  exact byte_in z
end Mine

end

-- part MThing
section
open PySem PySem.W PyProof.Rows PySem.Calls
namespace Mine
set_option maxRecDepth 100000
set_option maxHeartbeats 8000000
theorem fillT : (fun (_ : OpenLaw) (_ : Params → Frag) => True) PySem.Challenge.rw_dm0046_01 Mine.hd.heap_39 := by
  k_fill
  trivial
local macro_rules | `(tactic| walk_at "call type:bytes") => `(tactic| (k_here; (with_reducible show wpAny _ _ (call (Value.type "bytes") [Value.ref _]) _ _ _); k_dflt (refine' bytes_K ?F ?N ?l ?i ?r ?z ?h ?_; (case F => k_asm); (case N => k_asm); (case l => is_list); (case i => l_ints); (case r => exact bytes_in _); (case z => size_fits); (case h => with_unfolding_all rfl)); intro h' t' k' F' N' hB'; clear hB'; (try k_sweep)))
local macro_rules | `(tactic| walk_at "call type:ValueError") => `(tactic| (k_here; k_dflt (refine' make_exc PySem.F.excCall_ValueError ?F ?N ?z ?_; (case F => k_asm); (case N => k_asm); (case z => (exact (by decide : 1 ≤ 1000)))); intro e' t' h' F' N' l1 l2; clear l1 l2; (try k_sweep)))
local macro_rules | `(tactic| walk_at "binaryOp Mod str str") => `(tactic| (k_here; (with_reducible first | refine mod_b (by assumption) ?_ | refine mod_v (by assumption) ?_); intro _ _))
local macro_rules | `(tactic| walk_at "binaryOp Mod str int") => `(tactic| (k_here; (with_reducible first | refine mod_d (by assumption) (by assumption) ?_ | refine mod_t (by assumption) (by assumption) ?_ | refine mod_i (by assumption) (by assumption) ?_); intro _ _))
local macro_rules | `(tactic| walk_at "binaryOp Mod str ref") => `(tactic| (k_here; (k_dflt refine mod_l (by k_asm) (by k_mem) (by assumption) (by assumption) (by assumption) ?_); intro _ _))
local macro_rules | `(tactic| walk_at "m1") => `(tactic| first | (k_unfold; (try dsimp only)) | walk1 | (dsimp only; walk1))
theorem thing_code {w : World} {d u : Nat} {fr : List Env} {s : Shared} {mean : ExcName → Option Value} {mg mb : Str → Option Value} {n : Int} {t : Tok} {R : Result → Shared → Prop}
    (X : (Mine.hd.heap_39 w.params).In s.heap) (T : Top Mine.hd.view_39 (looseW Mine.hd.view_39 []) mean mg mb s.heap) (hd : d < 500) (hu : u < 100)
    (h : ∀ h' tk nw l v θ t1 t2, (∀ b o, s.heap.get? b = some o → h'.get? b = some o) → Fresh s.heap h' nw → (l, listO [v, .str (Th.kind θ) t1, .str (Th.look θ) t2]) ∈ nw → θ.Is nw v → θ.ok → R (.ok (.ret (.ref l))) { s with heap := h', toks := tk }) :
    codeAny (model PySem.Challenge.rw_dm0046_01.row.prog w) (AR d u fr) (.call (.ref 28) ⟨[.int n t], []⟩) R s := by
  refine' pure_def X T ?k6 ?k7 ?k8 ?k9 ?kB ?_ ?c2 ?c3 ?c4 ?c5
  case k6 => k_is
  case k7 => k_is
  case k8 => show d < recursionLimit; rw [show recursionLimit = 1000 from rfl]; omega
  case k9 => exact BindsTo.of_eq rfl
  case c5 => decide
  case kB => exact locs rfl
  case c2 => exact rfl
  case c3 => exact rfl
  case c4 => exact rfl
  intro L' h₁ F' N'
  k_fold
  repeat ((fail_if_success (with_reducible show wpAny _ _ (exec (Stmt.Return _ _) _) _ _ _)); walk_at "m1")
  rename Fr _ _ _ _ => F
  rename News _ _ _ _ => N
  have hz0 : 0 ≤ (n.fdiv 9).fmod 100 := fmod_lo _ (by decide)
  have hz1 : (n.fdiv 9).fmod 100 < 100 := fmod_hi _ (by decide)
  generalize hz : (n.fdiv 9).fmod 100 = z at F hz0 hz1
  clear hz
  obtain ⟨x, hx⟩ : ∃ x : Str, x = Str.mk [(97 + z.fmod 26).toNat].toArray := ⟨_, rfl⟩
  have hxl : x.length ≤ 1000000 := by rw [hx]; exact (by decide : 1 ≤ 1000000)
  rw [← hx] at F
  have hlk : Link x z := hx
  clear hx
  all_goals repeat' ((fail_if_success (with_reducible show wpAny _ _ (subscriptTail _ _ _ _) _ _ _)); walk_at "m1")
  all_goals (
    rename Fr _ _ _ _ => F
    rename News _ _ _ _ => N
    have hi0 : 0 ≤ n.fmod 9 := fmod_lo _ (by decide)
    have hi1 : n.fmod 9 < 9 := fmod_hi _ (by decide)
    generalize n.fmod 9 = i at hi0 hi1
    have ft := News.toFresh N
    have kp := F.keep
    have hl := News.isList N (List.Mem.head _)
    clear F
    unfold Link at hlk
    subst hlk)
  all_goals (rcases nine hi0 hi1 with rfl | rfl | rfl | rfl | rfl | rfl | rfl | rfl | rfl)
  all_goals (refine item_at hl (by decide) (by decide) rfl ?_; show R _ _; clear hi0 hi1 hl N)
  · exact h _ _ _ _ _ (Th.s (Str.ofString "")) _ _ kp ft (by k_mem) ⟨_, rfl⟩ trivial
  · exact h _ _ _ _ _ (Th.s (letter z)) _ _ kp ft (by k_mem) ⟨_, rfl⟩ trivial
  · exact h _ _ _ _ _ (Th.n) _ _ kp ft (by k_mem) rfl trivial
  · exact h _ _ _ _ _ (Th.i z) _ _ kp ft (by k_mem) ⟨_, rfl⟩ ⟨hz0, hz1⟩
  · exact h _ _ _ _ _ (Th.b true) _ _ kp ft (by k_mem) (congrArg Value.bool (decide_eq_true (by assumption))) trivial
  · exact h _ _ _ _ _ (Th.y z) _ _ kp ft (by k_mem) ⟨_, rfl⟩ ⟨hz0, hz1⟩
  · exact h _ _ _ _ _ (Th.l z) _ _ kp ft (by k_mem) ⟨_, _, _, rfl, by k_mem⟩ ⟨hz0, hz1⟩
  · exact h _ _ _ _ _ (Th.t z) _ _ kp ft (by k_mem) ⟨_, _, rfl, by k_mem⟩ ⟨hz0, hz1⟩
  · exact h _ _ _ _ _ (Th.v z) _ _ kp ft (by k_mem) ⟨_, _, _, rfl, by k_mem, by k_mem⟩ ⟨hz0, hz1⟩
  · exact h _ _ _ _ _ (Th.s (Str.ofString "")) _ _ kp ft (by k_mem) ⟨_, rfl⟩ trivial
  · exact h _ _ _ _ _ (Th.s (letter z)) _ _ kp ft (by k_mem) ⟨_, rfl⟩ trivial
  · exact h _ _ _ _ _ (Th.n) _ _ kp ft (by k_mem) rfl trivial
  · exact h _ _ _ _ _ (Th.i z) _ _ kp ft (by k_mem) ⟨_, rfl⟩ ⟨hz0, hz1⟩
  · exact h _ _ _ _ _ (Th.b false) _ _ kp ft (by k_mem) (congrArg Value.bool (decide_eq_false (by assumption))) trivial
  · exact h _ _ _ _ _ (Th.y z) _ _ kp ft (by k_mem) ⟨_, rfl⟩ ⟨hz0, hz1⟩
  · exact h _ _ _ _ _ (Th.l z) _ _ kp ft (by k_mem) ⟨_, _, _, rfl, by k_mem⟩ ⟨hz0, hz1⟩
  · exact h _ _ _ _ _ (Th.t z) _ _ kp ft (by k_mem) ⟨_, _, rfl, by k_mem⟩ ⟨hz0, hz1⟩
  · exact h _ _ _ _ _ (Th.v z) _ _ kp ft (by k_mem) ⟨_, _, _, rfl, by k_mem, by k_mem⟩ ⟨hz0, hz1⟩
end Mine

end

-- part MFile
section
open PySem PySem.W PyProof.Rows PySem.Calls
namespace Mine
set_option maxRecDepth 100000
set_option maxHeartbeats 8000000
theorem fillF : (fun (_ : OpenLaw) (_ : Params → Frag) => True) PySem.Challenge.rw_dm0046_01 Mine.hd.heap_39 := by
  k_fill
  trivial
theorem num_len : ∀ k : Nat, k < 100 → (Str.ofString (toString ((k : Nat) : Int))).length ≤ 2 := by decide +kernel
theorem numS_len {z : Int} (h0 : 0 ≤ z) (h1 : z < 100) : (numS z).length ≤ 2 := by
  obtain ⟨k, rfl⟩ := Int.eq_ofNat_of_zero_le h0
  exact num_len k (by omega)
theorem letter_len (z : Int) : (letter z).length = 1 := rfl
theorem Th.kind_len (θ : Th) : θ.kind.length ≤ 100 := by
  cases θ with
  | s x => exact (by decide +kernel : (Str.ofString "str").length ≤ 100)
  | n => exact (by decide +kernel : (Str.ofString "NoneType").length ≤ 100)
  | i z => exact (by decide +kernel : (Str.ofString "int").length ≤ 100)
  | b z => exact (by decide +kernel : (Str.ofString "bool").length ≤ 100)
  | y z => exact (by decide +kernel : (Str.ofString "bytes").length ≤ 100)
  | l z => exact (by decide +kernel : (Str.ofString "list").length ≤ 100)
  | t z => exact (by decide +kernel : (Str.ofString "tuple").length ≤ 100)
  | v z => exact (by decide +kernel : (Str.ofString "ValueError").length ≤ 100)
theorem Th.look_len {θ : Th} (ok : θ.ok) : θ.look.length ≤ 100 := by
  cases θ with
  | s x => exact (by decide +kernel : (Str.ofString "").length ≤ 100)
  | n => exact (by decide +kernel : (Str.ofString "None").length ≤ 100)
  | i z => exact Nat.le_trans (numS_len ok.1 ok.2) (by decide)
  | b z => cases z <;> decide +kernel
  | y z =>
    show (Str.ofString "b'" ++ letter z ++ Str.ofString "'").length ≤ 100
    rw [Str.length_append, Str.length_append, letter_len]
    exact (by decide +kernel : (Str.ofString "b'").length + 1 + (Str.ofString "'").length ≤ 100)
  | l z =>
    show (Str.ofString "['" ++ letter z ++ Str.ofString "', " ++ numS z ++ Str.ofString "]").length ≤ 100
    rw [Str.length_append, Str.length_append, Str.length_append, Str.length_append, letter_len]
    have a := numS_len ok.1 ok.2
    have b : (Str.ofString "['").length + 1 + (Str.ofString "', ").length + (Str.ofString "]").length ≤ 90 := by decide +kernel
    omega
  | t z =>
    show (Str.ofString "(" ++ numS z ++ Str.ofString ",)").length ≤ 100
    rw [Str.length_append, Str.length_append]
    have a := numS_len ok.1 ok.2
    have b : (Str.ofString "(").length + (Str.ofString ",)").length ≤ 90 := by decide +kernel
    omega
  | v z =>
    show (Str.ofString "ValueError('" ++ letter z ++ Str.ofString "')").length ≤ 100
    rw [Str.length_append, Str.length_append, letter_len]
    exact (by decide +kernel : (Str.ofString "ValueError('").length + 1 + (Str.ofString "')").length ≤ 100)
theorem Th.kind_str {θ : Th} (h : (θ.kind == Str.ofString "str") = true) : θ.isS = true := by
  cases θ <;> first | rfl | (exfalso; revert h; show ¬ ((Str.ofString _ == Str.ofString "str") = true); decide +kernel)
theorem Th.kind_not {θ : Th} (h : (θ.kind == Str.ofString "str") = false) : θ.isS = false := by
  cases θ <;> first | rfl | (exfalso; revert h; show ¬ ((Str.ofString _ == Str.ofString "str") = false); decide +kernel)
def lineW (θ : Th) : Str := Str.ofString "lines to compare must be str, not " ++ θ.kind ++ Str.ofString " (" ++ θ.look ++ Str.ofString ")"
def DueV (θ : Th) (x : Value) : Prop := (θ.isS = true ∧ x = .none) ∨ (θ.isS = false ∧ ∃ t, x = .str (lineW θ) t)
theorem cut_toks {α : Type} {M : Model} {A : Around} {t : Sem α} {Q : α → Shared → Prop} {E : Value → Shared → Prop} {s : Shared} (P : α → Prop)
    (h1 : wpAny M A t (fun v s' => (∃ tk, s' = { s with toks := tk }) ∧ P v) E s) (h2 : ∀ v tk, P v → Q v { s with toks := tk }) : wpAny M A t Q E s :=
  wpAny_mono h1 (fun v s' ⟨⟨tk, e⟩, p⟩ => e ▸ h2 v tk p) (fun _ _ x => x)
theorem thing_call {w : World} {d u : Nat} {fr : List Env} {s : Shared} {mean : ExcName → Option Value} {mg mb : Str → Option Value} {n : Int} {t : Tok} {Q : Value → Shared → Prop} {E : Value → Shared → Prop}
    {h₀ : Heap} {L : Addr} {m : Str → Option Value} {news : List (Addr × Obj)}
    (F : Fr h₀ L s.heap m) (N : News h₀ L s.heap news) (X : (Mine.hd.heap_39 w.params).In h₀) (T : Top Mine.hd.view_39 (looseW Mine.hd.view_39 []) mean mg mb h₀) (hd : d < 500) (hu : u < 100)
    (h : ∀ h' tk nw l v θ t1 t2, Fr h₀ L h' m → News h₀ L h' (nw ++ news) → h'.IsList l [v, .str (Th.kind θ) t1, .str (Th.look θ) t2].toArray → θ.Is nw v → θ.ok → (∀ p ∈ nw, ∀ q ∈ news, p.1 ≠ q.1) → Q (.ref l) { s with heap := h', toks := tk }) :
    wpAny (model PySem.Challenge.rw_dm0046_01.row.prog w) (AR d u fr) (call (.ref 28) [.int n t]) Q E s := by
  refine wpAny_call (thing_code (X.keeps F.keep) (T.keeps F.keep) hd hu ?_)
  intro h' tk nw l v θ t1 t2 kp ft hm his hok
  exact h h' tk nw l v θ t1 t2 (F.keeps kp) (News.app (ft.toNews F) (N.grown kp)) ⟨_, (ft _ hm).1, rfl, _, rfl⟩ his hok (fun p hp q hq => ne_of_fresh (ft p hp).2 (N q hq).1)
set_option hygiene false in
local macro_rules | `(tactic| walk_at "call ref") => `(tactic| (k_here; k_dflt (refine' thing_call (d := d + 1) (u := u + 3) ?F ?N ?X ?T ?d ?u ?_; (case F => k_asm); (case N => k_asm); (case X => k_asm); (case T => k_asm); (case d => (show d + 1 < 500; omega)); (case u => (show u + 3 < 100; omega))); intro h' tk' nw' l' v' θ' t1' t2' F' N' I' Z' O' D'; (try k_sweep)))
local macro_rules | `(tactic| walk_at "m1") => `(tactic| first | (k_unfold; (try dsimp only)) | walk1 | (dsimp only; walk1))
abbrev rangeO (a b : Int) (t u v : Tok) : Obj := { cls := .type "range", data := .fields #[.int a t, .int b u, .int 1 v] }
section
variable {prog : Program} {w : World} {A : Around} {E : Value → Shared → Prop} {s : Shared} {h₀ : Heap} {L : Addr} {m : Str → Option Value} {news : List (Addr × Obj)} {Q : Value → Shared → Prop}
theorem range2_K {a b : Int} {t u : Tok} (F : Fr h₀ L s.heap m) (N : News h₀ L s.heap news)
    (h : ∀ r h' tk t₁ u₁ v₁, Fr h₀ L h' m → News h₀ L h' ((r, rangeO a b t₁ u₁ v₁) :: news) → (∀ p ∈ news, p.1 < r) → Q (.ref r) { s with heap := h', toks := tk }) :
    wpAny (model prog w) A (call (.type "range") [.int a t, .int b u]) Q E s := by
  refine range2_rows F N ?_
  intro h' tk t₁ u₁ v₁ hr F' N' _
  refine h _ h' tk t₁ u₁ v₁ F' ?_ (fun p hp => Heap.lt_size (N p hp).1)
  have Z : Fresh s.heap h' [(s.heap.objs.size, rangeO a b t₁ u₁ v₁)] := by
    intro p hp
    rw [List.mem_singleton.mp hp]
    exact ⟨hr, Heap.get?_none_of_le (Nat.le_refl _)⟩
  exact News.app (Z.toNews F) N'
theorem range1_K {b : Int} {u : Tok} (F : Fr h₀ L s.heap m) (N : News h₀ L s.heap news)
    (h : ∀ r h' tk t₁ u₁ v₁, Fr h₀ L h' m → News h₀ L h' ((r, rangeO 0 b t₁ u₁ v₁) :: news) → (∀ p ∈ news, p.1 < r) → Q (.ref r) { s with heap := h', toks := tk }) :
    wpAny (model prog w) A (call (.type "range") [.int b u]) Q E s := by
  refine range1_rows F N ?_
  intro h' tk t₁ u₁ v₁ hr F' N' _
  refine h _ h' tk t₁ u₁ v₁ F' ?_ (fun p hp => Heap.lt_size (N p hp).1)
  have Z : Fresh s.heap h' [(s.heap.objs.size, rangeO 0 b t₁ u₁ v₁)] := by
    intro p hp
    rw [List.mem_singleton.mp hp]
    exact ⟨hr, Heap.get?_none_of_le (Nat.le_refl _)⟩
  exact News.app (Z.toNews F) N'
theorem item_any {value slice : PySem.Expr} {l : Addr} {vs : List Value} {k : Int} {u : Tok}
    (hl : s.heap.IsList l vs.toArray) (h0 : 0 ≤ k) (hhi : k < (vs.length : Int)) (hb : vs.length ≤ 1000) (h : ∀ v ∈ vs, Q v s)
    (hs : subscripted slice false (.ref l) (.int k u) = operate [.ref l, .int k u] (getItem (.ref l) (.int k u)) := by with_unfolding_all rfl) :
    wpAny (model prog w) A (subscriptTail value slice (.ref l) (.int k u)) Q E s := by
  have hk : k.toNat < vs.length := by omega
  exact item_at hl h0 (by omega) (List.getElem?_eq_getElem hk) (h _ (List.getElem_mem hk)) hs
end
/-- the files, by what is asked of them. -/
inductive Fi
  | first (θ : Th) | nokey | text (z : Int) | octs (z : Int) | rng (z : Int) | empty
def intW (z : Int) : Str := Str.ofString "lines to compare must be str, not " ++ (Str.ofString "int (" ++ numS z ++ Str.ofString ")")
def Fi.due : Fi → Option Str
  | .first θ => if θ.isS then none else some (lineW θ)
  | .nokey => some (Str.ofString "no line 0")
  | .text _ => none
  | .octs z => some (intW z)
  | .rng z => some (intW z)
  | .empty => none
def DueOpt (o : Option Str) (x : Value) : Prop := match o with
  | none => x = .none
  | some m => ∃ t, x = .str m t
theorem DueV.opt {θ : Th} {x : Value} (h : DueV θ x) : DueOpt (Fi.due (.first θ)) x := by
  rcases h with ⟨a, b⟩ | ⟨a, b⟩
  · simp only [Fi.due, a]; exact b
  · simp only [Fi.due, a]; exact b
def Fi.Is (w : World) (nw : List (Addr × Obj)) (x : Value) : Fi → Prop
  | .first θ => ∃ a v r, x = .ref a ∧ θ.Is nw v ∧ θ.ok ∧ List.length r ≤ 5 ∧ ((a, listO (v :: r)) ∈ nw ∨ (a, tupO (v :: r)) ∈ nw ∨ ∃ o, (a, o) ∈ nw ∧ (a == sysModules) = false ∧ Obj.IsDictOf (PySem.intKind PySem.Challenge.rw_dm0046_01.row.prog w) o [(0, v), (1, .none)])
  | .nokey => ∃ a v o, x = .ref a ∧ (a, o) ∈ nw ∧ (a == sysModules) = false ∧ Obj.IsDictOf (PySem.intKind PySem.Challenge.rw_dm0046_01.row.prog w) o [(1, v)]
  | .text z => ∃ t, x = .str (Txt.mul (Str.ofString "ab") (z + 1)) t ∧ 0 ≤ z ∧ z < 100
  | .octs z => ∃ t, x = .bytes ([z, 10].map fun n => n.toNat.toUInt8).toArray t ∧ 0 ≤ z ∧ z < 100
  | .rng z => ∃ a t u v, x = .ref a ∧ (a, rangeO z (z + 2) t u v) ∈ nw ∧ 0 ≤ z ∧ z < 100
  | .empty => x = .none ∨ (∃ t, x = .int 0 t) ∨ x = .bool false ∨ (∃ t, x = .str (Str.ofString "") t) ∨ (∃ t, x = .bytes #[] t) ∨ (∃ a, x = .ref a ∧ (a, listO []) ∈ nw) ∨ (∃ a, x = .ref a ∧ (a, tupO []) ∈ nw) ∨
      (∃ a o, x = .ref a ∧ (a, o) ∈ nw ∧ (a == sysModules) = false ∧ Obj.IsDictOf (PySem.intKind PySem.Challenge.rw_dm0046_01.row.prog w) o []) ∨ (∃ a t u v, x = .ref a ∧ (a, rangeO 0 0 t u v) ∈ nw)
theorem Fi.Is.mono {w : World} {nw nw' : List (Addr × Obj)} {x : Value} (hs : ∀ p ∈ nw, p ∈ nw') : ∀ {φ : Fi}, φ.Is w nw x → φ.Is w nw' x
  | .first _, ⟨a, v, r, e, h1, h2, h3, h⟩ => ⟨a, v, r, e, h1.mono hs, h2, h3, h.imp (hs _) (fun h => h.imp (hs _) fun ⟨o, h, k⟩ => ⟨o, hs _ h, k⟩)⟩
  | .nokey, ⟨a, v, o, e, h1, h2⟩ => ⟨a, v, o, e, hs _ h1, h2⟩
  | .text _, h => h
  | .octs _, h => h
  | .rng _, ⟨a, t, u, v, e, h, k⟩ => ⟨a, t, u, v, e, hs _ h, k⟩
  | .empty, h => h.imp id fun h => h.imp id fun h => h.imp id fun h => h.imp id fun h => h.imp id fun h => h.imp (fun ⟨a, e, h⟩ => ⟨a, e, hs _ h⟩) fun h => h.imp (fun ⟨a, e, h⟩ => ⟨a, e, hs _ h⟩) fun h =>
      h.imp (fun ⟨a, o, e, h, k⟩ => ⟨a, o, e, hs _ h, k⟩) fun ⟨a, t, u, v, e, h⟩ => ⟨a, t, u, v, e, hs _ h⟩
abbrev led {h₀ h : Heap} {L : Addr} {nw : List (Addr × Obj)} (_ : News h₀ L h nw) : List (Addr × Obj) := nw
theorem bytes2_in {z : Int} (h0 : 0 ≤ z) (h1 : z < 100) : ∀ n ∈ [z, 10], 0 ≤ n ∧ n < 256 := by
  intro n hn
  rcases List.mem_cons.mp hn with rfl | hn
  · omega
  · rw [List.mem_singleton.mp hn]; omega
local macro_rules | `(tactic| walk_at "call type:bytes") => `(tactic| (k_here; (with_reducible show wpAny _ _ (call (Value.type "bytes") [Value.ref _]) _ _ _); k_dflt (refine' bytes_K ?F ?N ?l ?i ?r ?z ?h ?_; (case F => k_asm); (case N => k_asm); (case l => is_list); (case i => l_ints); (case r => exact bytes2_in (by assumption) (by assumption)); (case z => size_fits); (case h => with_unfolding_all rfl)); intro h' t' k' F' N' hB'; clear hB'; (try k_sweep)))
local macro_rules | `(tactic| walk_at "call type:range") => `(tactic| (k_here; k_dflt (first | (refine' range2_K ?F ?N ?_; (case F => k_asm); (case N => k_asm)) | (refine' range1_K ?F ?N ?_; (case F => k_asm); (case N => k_asm))); intro r' h' tk' t' u' v' F' N' l1; (try k_lt l1); (try k_sweep)))
local macro_rules | `(tactic| walk_at "eval Dict") => `(tactic| (k_here; k_dflt (refine' kdn_int ?q ?F ?N ?b ?a ?l ?e ?n ?_; (case q => rfl); (case F => k_asm); (case N => first | k_asm | exact News.nil); (case b => exact Top.nolimit (by k_asm)); (case a => rfl); (case l => rfl); (case e => exact List.cons_ne_nil _ _); (case n => exact Nat.le_of_ble_eq_true rfl)); intro d' h' o' F' N' l1 lo' hd'; (try k_lt l1)))
local macro_rules | `(tactic| walk_at "binaryOp Mod str int") => `(tactic| (k_here; (with_reducible first | refine mod_d (by assumption) (by assumption) ?_ | refine mod_t (by assumption) (by assumption) ?_ | refine mod_i (by assumption) (by assumption) ?_); intro _ _))
theorem file_code {w : World} {d u : Nat} {fr : List Env} {s : Shared} {mean : ExcName → Option Value} {mg mb : Str → Option Value} {n : Int} {t : Tok} {R : Result → Shared → Prop}
    (X : (Mine.hd.heap_39 w.params).In s.heap) (T : Top Mine.hd.view_39 (looseW Mine.hd.view_39 []) mean mg mb s.heap) (hd : d < 400) (hu : u < 80)
    (h : ∀ h' tk nw l x D φ, (∀ b o, s.heap.get? b = some o → h'.get? b = some o) → Fresh s.heap h' nw → (l, listO [x, D]) ∈ nw → Fi.Is w nw x φ → DueOpt φ.due D → R (.ok (.ret (.ref l))) { s with heap := h', toks := tk }) :
    codeAny (model PySem.Challenge.rw_dm0046_01.row.prog w) (AR d u fr) (.call (.ref 35) ⟨[.int n t], []⟩) R s := by
  refine' pure_def X T ?k6 ?k7 ?k8 ?k9 ?kB ?_ ?c2 ?c3 ?c4 ?c5
  case k6 => k_is
  case k7 => k_is
  case k8 => show d < recursionLimit; rw [show recursionLimit = 1000 from rfl]; omega
  case k9 => exact BindsTo.of_eq rfl
  case c5 => decide
  case kB => exact locs rfl
  case c2 => exact rfl
  case c3 => exact rfl
  case c4 => exact rfl
  intro L' h₁ F' N'
  k_fold
  repeat ((fail_if_success (with_reducible show wpAny _ _ (call (Value.ref 28) _ _) _ _ _)); walk_at "m1")
  walk_at "call ref"
  repeat ((fail_if_success (with_reducible show wpAny _ _ (eval (Expr.IfExp _ _ _ _) _) _ _ _)); walk_at "m1")
  rename Th => θ
  have hkl := θ.kind_len
  have hll := Th.look_len O'
  refine cut_toks (DueV θ) ?_ ?_
  · repeat' (walk_at "m1")
    · exact Or.inl ⟨Th.kind_str (by assumption), rfl⟩
    · exact Or.inr ⟨Th.kind_not (by assumption), _, rfl⟩
  intro D tk hD
  repeat ((fail_if_success (with_reducible show wpAny _ _ (exec (Stmt.Return _ _) _) _ _ _)); walk_at "m1")
  rename Fr _ _ _ _ => F
  rename News _ _ _ _ => N
  rw [List.append_nil] at N
  have hz0 : 0 ≤ (n.fdiv 9).fmod 100 := fmod_lo _ (by decide)
  have hz1 : (n.fdiv 9).fmod 100 < 100 := fmod_hi _ (by decide)
  generalize hz : (n.fdiv 9).fmod 100 = z at F hz0 hz1
  clear hz D' I' hkl hll
  repeat ((fail_if_success (with_reducible show wpAny _ _ (subscriptTail _ _ _ _) _ _ _)); walk_at "m1")
  rename News _ _ _ _ => N
  refine item_any (News.isList N (List.Mem.head _)) (fmod_lo _ (by decide)) (fmod_hi _ (by decide)) (Nat.le_of_ble_eq_true rfl) ?_
  intro x hx
  have hE : Fi.Is w (led N) x .empty := by
    simp only [List.mem_cons, List.not_mem_nil, or_false] at hx
    rcases hx with rfl | rfl | rfl | rfl | rfl | rfl | rfl | rfl | rfl
    · exact Or.inl rfl
    · exact Or.inr (Or.inl ⟨_, rfl⟩)
    · exact Or.inr (Or.inr (Or.inl rfl))
    · exact Or.inr (Or.inr (Or.inr (Or.inl ⟨_, rfl⟩)))
    · exact Or.inr (Or.inr (Or.inr (Or.inr (Or.inl ⟨_, rfl⟩))))
    · exact Or.inr (Or.inr (Or.inr (Or.inr (Or.inr (Or.inl ⟨_, rfl, by k_mem⟩)))))
    · exact Or.inr (Or.inr (Or.inr (Or.inr (Or.inr (Or.inr (Or.inl ⟨_, rfl, by k_mem⟩))))))
    · exact Or.inr (Or.inr (Or.inr (Or.inr (Or.inr (Or.inr (Or.inr (Or.inl ⟨_, _, rfl, by k_mem, by assumption, by assumption⟩)))))))
    · exact Or.inr (Or.inr (Or.inr (Or.inr (Or.inr (Or.inr (Or.inr (Or.inr ⟨_, _, _, _, rfl, by k_mem⟩)))))))
  clear hx
  dsimp only [led] at hE
  repeat ((fail_if_success (with_reducible show wpAny _ _ (subscriptTail _ _ _ _) _ _ _)); walk_at "m1")
  rename Fr _ _ _ _ => F
  rename News _ _ _ _ => N
  have hi0 : 0 ≤ n.fmod 9 := fmod_lo _ (by decide)
  have hi1 : n.fmod 9 < 9 := fmod_hi _ (by decide)
  generalize n.fmod 9 = i at hi0 hi1
  have ft := News.toFresh N
  have kp := F.keep
  have hl := News.isList N (List.Mem.head _)
  have hs1 : ∀ p ∈ nw', p ∈ led N := fun p hp => by
    repeat (first | exact hp | refine List.Mem.tail _ ?_)
  have hE2 : Fi.Is w (led N) x .empty := hE.mono fun p hp => List.Mem.tail _ (List.Mem.tail _ hp)
  dsimp only [led] at hs1 hE2
  clear F hE
  rcases nine hi0 hi1 with rfl | rfl | rfl | rfl | rfl | rfl | rfl | rfl | rfl
  all_goals (refine item_at hl (by decide) (by decide) rfl ?_; show R _ _; clear hi0 hi1 hl N)
  · exact h _ _ _ _ _ _ (.first θ) kp ft (by k_mem) ⟨_, v', [], rfl, Z'.mono hs1, O', Nat.le_of_ble_eq_true rfl, Or.inl (by k_mem)⟩ hD.opt
  · exact h _ _ _ _ _ _ (.first θ) kp ft (by k_mem) ⟨_, v', [.none, .int 7 _], rfl, Z'.mono hs1, O', Nat.le_of_ble_eq_true rfl, Or.inl (by k_mem)⟩ hD.opt
  · exact h _ _ _ _ _ _ (.first θ) kp ft (by k_mem) ⟨_, v', [.bytes #[97] _], rfl, Z'.mono hs1, O', Nat.le_of_ble_eq_true rfl, Or.inr (Or.inl (by k_mem))⟩ hD.opt
  · exact h _ _ _ _ _ _ (.first θ) kp ft (by k_mem) ⟨_, v', [], rfl, Z'.mono hs1, O', Nat.le_of_ble_eq_true rfl, Or.inr (Or.inr ⟨_, by k_mem, by assumption, by assumption⟩)⟩ hD.opt
  · exact h _ _ _ _ _ _ .nokey kp ft (by k_mem) ⟨_, v', _, rfl, by k_mem, by assumption, by assumption⟩ ⟨_, rfl⟩
  · exact h _ _ _ _ _ _ (.text z) kp ft (by k_mem) ⟨_, rfl, hz0, hz1⟩ rfl
  · exact h _ _ _ _ _ _ (.octs z) kp ft (by k_mem) ⟨_, rfl, hz0, hz1⟩ ⟨_, rfl⟩
  · exact h _ _ _ _ _ _ (.rng z) kp ft (by k_mem) ⟨_, _, _, _, rfl, by k_mem, hz0, hz1⟩ ⟨_, rfl⟩
  · exact h _ _ _ _ _ _ .empty kp ft (by k_mem) hE2 rfl
end Mine

end

-- part MCall
section
open PySem PySem.W PyProof.Rows PySem.Calls
namespace Mine
set_option maxRecDepth 100000
set_option maxHeartbeats 1000000
theorem restV {w : World} {A A₀ : Around} {s : Shared} {K : Frag} {L : Addr} {h₀ base : Heap} {m mg mb : Str → Option Value} {news : List (Addr × Obj)} {p : Program} {loose : List Str} {mean : ExcName → Option Value}
    {env : Env} {outer : List Env} {R : Result → Shared → Prop} {name qual : Str} {params : Arguments} {body : List Stmt} {scope : Scope} {dV kV doc pm cdv ct oc : Value} {an od : Option Addr} {osl : Array (Option Value)} {f : Addr} {args : Args} {vs : List Value} {binds : Value → List (Str × Value)}
    (B : Below A₀ base outer h₀) (F : Fr h₀ L s.heap m) (X₀ : K.In h₀) (N : News h₀ L s.heap news) (T : Top p loose mean mg mb h₀) (hA : A.frames = some (env :: outer)) (hf : env.frame = some L) (hke : env.scope.kind = .function)
    (ho : K.lookup f = some ⟨oc, od, .func (fnOf name qual params body scope dV kV doc pm an cdv ct), osl⟩) (hcd : codeIn K cdv qual = true) (hroom : A.depth < recursionLimit)
    (hv : vs.length ≤ 1000)
    (hp : bindArgs (fnOf name qual params body scope dV kV doc pm an cdv ct) args = (newTuple vs >>= fun t => pure (binds t)))
    (hloc : ∀ D, ∀ y ∈ binds D, scope.names.lookup y.1 = some .local)
    (h : ∀ D g L' h₁, (∀ p ∈ news, p.1 < D) → Fr h₀ L g m → Fr g L' h₁ (fun y => (binds (.ref D)).reverse.lookup y) → News g L' h₁ ((D, tupO vs) :: news) → Below A base (env :: outer) g → K.In g → Top p loose mean mg mb g →
      wpAny (model prg w) (A.deeper (envOf qual scope L' f cdv)) (execs body (envOf qual scope L' f cdv))
        (fun fl s' => LeaveK h₀ L m g R (match fl with | .ret v => v | _ => .none) s')
        (fun e s' => wpAny (model prg w) (A.deeper (envOf qual scope L' f cdv)) (leaving (envOf qual scope L' f cdv) e) (fun _ s'' => R (.error e) s'') (fun e' s'' => R (.error e') s'') s')
        { s with heap := h₁, toks := s.toks + (binds (.ref D)).length })
    (hco : scope.isCoroutine = false) (hgen : scope.isGenerator = false) (hk : scope.kind = .function)
    (hcell : ∀ x ∈ scope.names, x.2 ≠ .cell) : codeAny (model prg w) A (.call (.ref f) args) R s := by
  refine codeAny_call_function (fd := fnOf name qual params body scope dV kV doc pm an cdv ct) (body := body) hroom ((X₀.keeps F.keep) _ _ ho) rfl hco hgen rfl (codeRec_of (X₀.keeps F.keep) hcd) ?_
  rw [hp]
  refine wpAny_bind (newTuple_N F N (fun h' F' N' => wpAny_pure ?_) (by rw [sizeLine_eq]; omega))
  exact kp_frame (cl := []) (s := { s with heap := h' }) B F' N' T.nolimit hA hf hke (hloc _) (fun g L' h₁ FG FL NG BG st => h _ g L' h₁ (fun p hp => Heap.lt_size (N p hp).1) FG FL NG BG (X₀.keeps st) (T.keeps st)) hcell hk
end Mine

end

-- part MExc
section
open PySem PySem.W PyProof.Rows PySem.Calls
namespace Mine
set_option maxRecDepth 100000
set_option maxHeartbeats 1000000
theorem lkV : typeLookup (.type "ValueError") "__class__" = pure (some (.builtin "object.__class__")) := by rw [typeLookup_type, builtinLookup_eq_fast]; kernel_rfl
theorem subV : isSubtype (.type "ValueError") (.type (".".intercalate ("object.__class__".cutAt '.').dropLast)) = pure true := by
  rw [PySem.F.owner_object_class, isSubtype_type]; kernel_rfl
section
variable {prog : Program} {w : World} {A : Around} {E : Value → Shared → Prop} {h : Heap} {g : Array GenState} {d : Drawn} {t : Nat} {os : OsState} {a : Addr} {o : Obj}
theorem vcls_get {R : Result → Shared → Prop} (hx : h.get? a = some o) (hc : o.cls = .type "ValueError") (hq : R (.ok (.ret (.type "ValueError"))) ⟨h, g, d, t, os⟩) :
    codeAny (model prog w) A (.call (.builtin "getset_descriptor.__get__") ⟨[.builtin "object.__class__", .ref a, .type "ValueError"], []⟩) R ⟨h, g, d, t, os⟩ := by
  have hT : (⟨h, g, d, t, os⟩ : Shared).TypeIs (.ref a) "ValueError" := ⟨_, hx, hc⟩
  have hT5 : (⟨h, g, d, t, os⟩ : Shared).TypeIs (.builtin "object.__class__") "getset_descriptor" := PySem.F.typeOf_object_class
  have f8 := subV
  refine codeAny_call_builtin PySem.F.slot_gs_get.plain PySem.F.entry_gs_get (PySem.F.slot_gs_get.check _ _ _ _ _ _ _ _ hT5 (PySem.F.args_gs_get _ _ _) ?_)
  repeat (any_goals (first | assumption | wp_step))
  refine ⟨Code.quiet_builtin _ (by decide +kernel), codeAny_builtin PySem.F.entry_object_class ?_⟩
  repeat (any_goals (first | assumption | wp_step))
theorem vcls_entry {tk : Tok} {Q : PySem.Fin → Shared → Prop} (hx : h.get? a = some o) (hc : o.cls = .type "ValueError") (hq : Q (.done (.ret (.type "ValueError"))) ⟨h, g, d, t, os⟩) :
    wpAny (model prog w) A (Builtin.«object.__getattribute__» ⟨[.ref a, .str "__class__" tk], []⟩) Q E ⟨h, g, d, t, os⟩ := by
  have hT : (⟨h, g, d, t, os⟩ : Shared).TypeIs (.ref a) "ValueError" := ⟨_, hx, hc⟩
  have hT5 : (⟨h, g, d, t, os⟩ : Shared).TypeIs (.builtin "object.__class__") "getset_descriptor" := PySem.F.typeOf_object_class
  have f4 := lkV
  have f5 := PySem.F.typeOf_object_class
  have f6 := PySem.F.slot_gs_get.lookup
  have f7 := PySem.F.slot_gs_set.lookup
  repeat (any_goals (first | assumption | wp_step))
  refine vcls_get hx hc ?_
  repeat (any_goals (first | assumption | wp_step))
theorem vcls_call {tk : Tok} {R : Result → Shared → Prop} (hx : h.get? a = some o) (hc : o.cls = .type "ValueError") (hq : R (.ok (.ret (.type "ValueError"))) ⟨h, g, d, t, os⟩) :
    codeAny (model prog w) A (.call (.builtin "BaseException.__getattribute__") ⟨[.ref a, .str "__class__" tk], []⟩) R ⟨h, g, d, t, os⟩ :=
  codeAny_call_builtin PySem.F.excAttr_ValueError.ga.plain PySem.F.entry_bexc_ga (PySem.F.excAttr_ValueError.ga.check _ _ _ _ _ _ _ _ (show (⟨h, g, d, t, os⟩ : Shared).TypeIs (.ref a) "ValueError" from ⟨_, hx, hc⟩) (PySem.F.args_bexc_ga _ _) (vcls_entry hx hc hq))
theorem vcls_by {tk : Tok} {Q : Value → Shared → Prop} (hx : h.get? a = some o) (hc : o.cls = .type "ValueError") (hq : Q (.type "ValueError") ⟨h, g, d, t, os⟩) : wpAny (model prog w) A (getAttrBy (.ref a) (.str "__class__" tk) false) Q E ⟨h, g, d, t, os⟩ := by
  have hT : (⟨h, g, d, t, os⟩ : Shared).TypeIs (.ref a) "ValueError" := ⟨_, hx, hc⟩
  have f2 := PySem.F.excAttr_ValueError.ga.lookup
  have f3 := PySem.F.excAttr_ValueError.ga.bind (.ref a)
  repeat (any_goals (first | assumption | wp_step))
  refine vcls_call hx hc ?_
  repeat (any_goals (first | assumption | wp_step))
theorem vcls_attr {Q : Option Value → Shared → Prop} (hx : h.get? a = some o) (hc : o.cls = .type "ValueError") (hq : Q (some (.type "ValueError")) ⟨h, g, d, t + 1, os⟩) : wpAny (model prog w) A (getAttr? (.ref a) "__class__") Q E ⟨h, g, d, t, os⟩ := by
  unfold getAttr? getAttrBy?
  repeat (any_goals (first | assumption | with_reducible apply vcls_by hx hc | wp_step))
end
theorem kitx_val {K : Frag} {a : Addr} : KitX K (.ref a) (.type "ValueError") (KitAt a "ValueError") :=
  kitx_of kitAt_ty (fun {_ _ _ _ _ s} p k => by obtain ⟨h, g, d, t, os⟩ := s; obtain ⟨o, h1, h2⟩ := p; exact vcls_attr h1 h2 k)
end Mine

end

-- part MRules
section
open PySem PySem.W PyProof.Rows PySem.Calls
namespace Mine
set_option maxRecDepth 100000
set_option maxHeartbeats 1000000
theorem fillR : (fun (_ : OpenLaw) (_ : Params → Frag) => True) PySem.Challenge.rw_dm0046_01 Mine.hd.heap_39 := by
  k_fill
  trivial
theorem slotYR : Slot "bytes" "__repr__" "bytes.__repr__" :=
  .of (owner := "bytes") (n := "__repr__") (by rw [typeLookup_type, builtinLookup_eq_fast]; kernel_rfl) (by decide +kernel) (by decide +kernel) (by decide +kernel)
    (by first | exact .inl (by decide +kernel) | exact .inr (by decide +kernel)) (by rw [isSubtype_type]; kernel_rfl)
theorem entryYR : entryFor table "bytes.__repr__" = some Builtin.«bytes.__repr__» := entryFor_of_tree (by kernel_rfl)
theorem argsYR (a : Value) : argsOk "bytes.__repr__" ⟨[a], []⟩ := by unfold argsOk; kernel_rfl
/-- the texts, at each size. -/
theorem nat_of {z : Int} {P : Int → Prop} (h : ∀ k : Nat, k < 100 → P (k : Int)) (h0 : 0 ≤ z) (h1 : z < 100) : P z := by
  obtain ⟨k, rfl⟩ := Int.eq_ofNat_of_zero_le h0
  exact h k (by omega)
theorem lookL {z : Int} (h0 : 0 ≤ z) (h1 : z < 100) : (PyData.list [.str (letter z), .int z]).shown = Th.look (.l z) :=
  nat_of (P := fun z => (PyData.list [.str (letter z), .int z]).shown = Th.look (.l z)) (by decide +kernel) h0 h1
theorem lookT {z : Int} (h0 : 0 ≤ z) (h1 : z < 100) : (PyData.tuple [.int z]).shown = Th.look (.t z) :=
  nat_of (P := fun z => (PyData.tuple [.int z]).shown = Th.look (.t z)) (by decide +kernel) h0 h1
theorem lookV {z : Int} (h0 : 0 ≤ z) (h1 : z < 100) : excReprHead "ValueError" ++ Str.ofString "(" ++ reprText (letter z) ++ Str.ofString ")" = Th.look (.v z) :=
  nat_of (P := fun z => excReprHead "ValueError" ++ Str.ofString "(" ++ reprText (letter z) ++ Str.ofString ")" = Th.look (.v z)) (by decide +kernel) h0 h1
theorem lookY {z : Int} (h0 : 0 ≤ z) (h1 : z < 100) : Builtin.Bytes.literal (byteOf z) = Th.look (.y z) :=
  nat_of (P := fun z => Builtin.Bytes.literal (byteOf z) = Th.look (.y z)) (by decide +kernel) h0 h1
theorem showL {z : Int} (h0 : 0 ≤ z) (h1 : z < 100) : (PyData.list [.str (letter z), .int z]).showable = true :=
  nat_of (P := fun z => (PyData.list [.str (letter z), .int z]).showable = true) (by decide +kernel) h0 h1
theorem showT {z : Int} (h0 : 0 ≤ z) (h1 : z < 100) : (PyData.tuple [.int z]).showable = true :=
  nat_of (P := fun z => (PyData.tuple [.int z]).showable = true) (by decide +kernel) h0 h1
theorem givesYR (z : Int) (t : Tok) : Gives (Builtin.«bytes.__repr__» ⟨[.bytes (byteOf z) t], []⟩) (.str (Builtin.Bytes.literal (byteOf z))) := .of_eq rfl
section
variable {w : World} {A : Around} {E : Value → Shared → Prop} {s : Shared} {h₀ : Heap} {L : Addr} {m : Str → Option Value} {news : List (Addr × Obj)} {Q : Value → Shared → Prop} {v : Value} {θ : Th}
theorem isinst_th (N : News h₀ L s.heap news) (X : (Mine.hd.heap_39 w.params).In s.heap) (hv : θ.Is news v)
    (h : ∀ tk, Q (.bool θ.isS) { s with toks := tk }) : wpAny (model PySem.Challenge.rw_dm0046_01.row.prog w) A (call (.builtin "isinstance") [v, .type "str"]) Q E s := by
  cases θ with
  | s x => obtain ⟨t, rfl⟩ := hv; exact kia_one kitx_str X trivial (by kit_is) (by kit_nb) h
  | n => cases hv; exact kia_one kitx_none X trivial (by kit_is) (by kit_nb) h
  | i z => obtain ⟨t, rfl⟩ := hv; exact kia_one kitx_int X trivial (by kit_is) (by kit_nb) h
  | b q => cases hv; exact kia_one kitx_bool X trivial (by kit_is) (by kit_nb) h
  | y z => obtain ⟨t, rfl⟩ := hv; exact kia_one kitx_bytes X trivial (by kit_is) (by kit_nb) h
  | l z => obtain ⟨a, t1, t2, rfl, hm⟩ := hv; exact kia_one kitx_list X (kitAt_N N hm rfl) (by kit_is) (by kit_nb) h
  | t z => obtain ⟨a, t1, rfl, hm⟩ := hv; exact kia_one kitx_tuple X (kitAt_N N hm rfl) (by kit_is) (by kit_nb) h
  | v z => obtain ⟨a, tt, t1, rfl, hm, hm2⟩ := hv; exact kia_one kitx_val X (kitAt_N N hm rfl) (by kit_is) (by kit_nb) h
def Th.ty : Th → String
  | .s _ => "str"
  | .n => "NoneType"
  | .i _ => "int"
  | .b _ => "bool"
  | .y _ => "bytes"
  | .l _ => "list"
  | .t _ => "tuple"
  | .v _ => "ValueError"
theorem type_th {prog : Program} (N : News h₀ L s.heap news) (hv : θ.Is news v) (h : Q (.type θ.ty) s) : wpAny (model prog w) A (call (.type "type") [v]) Q E s := by
  cases θ with
  | s x => obtain ⟨t, rfl⟩ := hv; exact call_type_of (typeIs_str _ _ _) (by decide) h
  | n => cases hv; exact call_type_of (Tx := "NoneType") rfl (by decide) h
  | i z => obtain ⟨t, rfl⟩ := hv; exact call_type_of (typeIs_int _ _ _) (by decide) h
  | b q => cases hv; exact call_type_of (Tx := "bool") rfl (by decide) h
  | y z => obtain ⟨t, rfl⟩ := hv; exact call_type_of (Tx := "bytes") rfl (by decide) h
  | l z => obtain ⟨a, t1, t2, rfl, hm⟩ := hv; exact kto_cont (kitAt_N N hm rfl) (by decide) h
  | t z => obtain ⟨a, t1, rfl, hm⟩ := hv; exact kto_cont (kitAt_N N hm rfl) (by decide) h
  | v z => obtain ⟨a, tt, t1, rfl, hm, hm2⟩ := hv; exact kto_cont (kitAt_N N hm rfl) (by decide) h
theorem repr_th {prog : Program} (F : Fr h₀ L s.heap m) (N : News h₀ L s.heap news) (hv : θ.Is news v) (ok : θ.ok) (hS : θ.isS = false) (hg : A.guards = some []) (hu : A.units + 10 < cLine)
    (h : ∀ h' u tk, Fr h₀ L h' m → News h₀ L h' news → Q (.str θ.look u) { s with heap := h', toks := tk }) : wpAny (model prog w) A (pyReprObj v) Q E s := by
  have hl := Th.look_len ok
  cases θ with
  | s x => cases hS
  | n => cases hv; exact pyReprObj_none (h _ _ _ F N)
  | i z => obtain ⟨t, rfl⟩ := hv; exact pyReprObj_int (shown (N := 2 ^ 1920) (by have := ok.1; omega) (by have := ok.2; omega) (Int.le_refl _)) (h _ _ _ F N)
  | b q => cases hv; exact pyReprObj_bool (by cases q <;> exact h _ _ _ F N)
  | y z =>
    obtain ⟨t, rfl⟩ := hv
    have e := lookY ok.1 ok.2
    exact wpAny_pyReprObj_gives (T := "bytes") rfl slotYR entryYR (argsYR _) (givesYR z t) (by rw [e]; exact h _ _ _ F N) rfl (by rw [e, sizeLine_eq]; omega)
  | l z =>
    obtain ⟨a, t1, t2, rfl, hm⟩ := hv
    have e := lookL ok.1 ok.2
    exact reprObj_HN (d := .list [.str (letter z), .int z]) F N (.list (N _ hm).1 rfl rfl (.cons (.str _ _) (.cons (.int _ _) .nil))) rfl (showL ok.1 ok.2) hg (Nat.lt_of_le_of_lt (Nat.add_le_add_left (Nat.le_of_ble_eq_true rfl) _) hu) (by rw [e]; exact h) (by rw [e, sizeLine_eq]; omega)
  | t z =>
    obtain ⟨a, t1, rfl, hm⟩ := hv
    have e := lookT ok.1 ok.2
    exact reprObj_HN (d := .tuple [.int z]) F N (.tuple (N _ hm).1 rfl rfl (.cons (.int _ _) .nil)) rfl (showT ok.1 ok.2) hg (Nat.lt_of_le_of_lt (Nat.add_le_add_left (Nat.le_of_ble_eq_true rfl) _) hu) (by rw [e]; exact h) (by rw [e, sizeLine_eq]; omega)
  | v z =>
    obtain ⟨a, tt, t1, rfl, hm, hm2⟩ := hv
    have e := lookV ok.1 ok.2
    exact pyReprObj_exc_one PySem.F.excStr_ValueError (by omega) ⟨_, _, (N _ hm).1, rfl, rfl, rfl⟩ ⟨_, _, (N _ hm2).1, rfl, rfl⟩ (by rw [show excReprHead "ValueError" ++ "(" ++ reprText (letter z) ++ ")" = Th.look (.v z) from e]; exact h _ _ _ F N) (by rw [show excReprHead "ValueError" ++ "(" ++ reprText (letter z) ++ ")" = Th.look (.v z) from e, sizeLine_eq]; omega)
end
end Mine

end

-- part MRules2
section
open PySem PySem.W PyProof.Rows PySem.Calls
namespace Mine
set_option maxRecDepth 100000
set_option maxHeartbeats 1000000
theorem fillR2 : (fun (_ : OpenLaw) (_ : Params → Frag) => True) PySem.Challenge.rw_dm0046_01 Mine.hd.heap_39 := by
  k_fill
  trivial
section
variable {w : World} {A : Around} {E : Value → Shared → Prop} {s : Shared} {h₀ : Heap} {L : Addr} {m : Str → Option Value} {news : List (Addr × Obj)} {Q : Value → Shared → Prop} {v : Value} {θ : Th}
theorem name_th {expr : Bool} (F : Fr h₀ L s.heap m) (X : (Mine.hd.heap_39 w.params).In h₀)
    (h : ∀ tk u, Q (.str θ.kind tk) { s with toks := u }) : wpAny (model PySem.Challenge.rw_dm0046_01.row.prog w) A (getAttr (.type θ.ty) (Str.ofString "__name__") expr) Q E s := by
  cases θ with
  | s x => exact ktyn_attr (T := "str") F X (by decide +kernel) (by decide +kernel) (by k_is) (by ktyn_q) (by decide +kernel) h
  | n => exact ktyn_attr (T := "NoneType") F X (by decide +kernel) (by decide +kernel) (by k_is) (by ktyn_q) (by decide +kernel) h
  | i z => exact ktyn_attr (T := "int") F X (by decide +kernel) (by decide +kernel) (by k_is) (by ktyn_q) (by decide +kernel) h
  | b z => exact ktyn_attr (T := "bool") F X (by decide +kernel) (by decide +kernel) (by k_is) (by ktyn_q) (by decide +kernel) h
  | y z => exact ktyn_attr (T := "bytes") F X (by decide +kernel) (by decide +kernel) (by k_is) (by ktyn_q) (by decide +kernel) h
  | l z => exact ktyn_attr (T := "list") F X (by decide +kernel) (by decide +kernel) (by k_is) (by ktyn_q) (by decide +kernel) h
  | t z => exact ktyn_attr (T := "tuple") F X (by decide +kernel) (by decide +kernel) (by k_is) (by ktyn_q) (by decide +kernel) h
  | v z => exact ktyn_attr (T := "ValueError") F X (by decide +kernel) (by decide +kernel) (by k_is) (by ktyn_q) (by decide +kernel) h
end
section
variable {prog : Program} {w : World} {A : Around} {E : Value → Shared → Prop} {s : Shared}
theorem truthy_range {r : Addr} {a b c : Int} {t u v : Tok} {Q : Bool → Shared → Prop} (hr : IsRange s.heap r a b c t u v) (h : Q (Builtin.Range.rangeSize a b c != 0) s) :
    wpAny (model prog w) A (truthy (.ref r)) Q E s := by
  have hT : s.TypeIs (.ref r) "range" := ⟨_, hr, rfl⟩
  have key : wpAny (model prog w) A (call (.builtin "range.__bool__") [.ref r]) (fun x s' => x = .bool (Builtin.Range.rangeSize a b c != 0) ∧ s' = s) E s := by
    refine wpAny_call_entry PySem.F.slot_range_bool hT PySem.F.entry_range_bool ?_ (PySem.F.args_range_bool_1 _)
    obtain ⟨hp, g, d, tk, os⟩ := s
    wp_walk using AutoSeq1.wpAny_loadPart' hr
    exact ⟨_, rfl, rfl, rfl⟩
  unfold truthy
  refine wpAny_bind (wpAny_callSpecial?_slot (name := Str.ofString "__bool__") hT PySem.F.slot_range_bool (wpAny_mono key (fun x s' hh => ?_) fun _ _ e => e))
  obtain ⟨rfl, rfl⟩ := hh
  exact wpAny_pure h
theorem item_range {r : Addr} {a b : Int} {t u v u0 : Tok} {value slice : PySem.Expr} {Q : Value → Shared → Prop} (hr : IsRange s.heap r a b 1 t u v) (hn : a < b) (h : ∀ t' k, Q (.int a t') { s with toks := k })
    (hs : subscripted slice false (.ref r) (.int 0 u0) = operate [.ref r, .int 0 u0] (getItem (.ref r) (.int 0 u0)) := by with_unfolding_all rfl) :
    wpAny (model prog w) A (subscriptTail value slice (.ref r) (.int 0 u0)) Q E s := by
  have hT : s.TypeIs (.ref r) "range" := ⟨_, hr, rfl⟩
  refine tail_any hT PySem.F.slot_range_getitem.lookup ?_ hs
  have hz : Builtin.Range.rangeSize a b 1 = b - a := by
    unfold Builtin.Range.rangeSize
    rw [if_pos (by decide), if_pos hn]
    omega
  unfold getItem
  try with_reducible refine wpAny_holding ?_
  refine wpAny_bind (wpAny_sequenceKey hT (by decide) ?_)
  refine wpAny_bind (wpAny_callSpecial?_slot (name := Str.ofString "__getitem__") hT PySem.F.slot_range_getitem
    (wpAny_call_entry PySem.F.slot_range_getitem hT PySem.F.entry_range_getitem ?_ (PySem.F.args_range_getitem_2 _ _)))
  obtain ⟨hp, g, d, tk, os⟩ := s
  wp_walk using AutoSeq1.wpAny_loadPart' hr
  refine wpAny_of_eq (a := some (.builtin "int.__index__")) (by rw [typeLookup_type, builtinLookup_eq_fast]; kernel_rfl) ?_
  show wpAny _ _ (asIndex (Value.int 0 u0) >>= _) _ _ _
  refine wpAny_bind (m := asIndex _) (wpAny_of_eq (a := 0) rfl ?_)
  rw [hz]
  show wpAny _ _ (if (decide ((0 : Int) < 0) || decide ((0 : Int) ≥ b - a)) = true then _ else retInt (a + 0 * 1)) _ _ _
  rw [if_neg (by simp only [Bool.or_eq_true, decide_eq_true_eq]; omega), show a + 0 * 1 = a by omega]
  unfold retInt
  refine wpAny_bind (wpAny_mkInt (wpAny_pure ⟨_, rfl, wpAny_pure (h _ _)⟩))
end
end Mine

end

-- part MFiR
section
open PySem PySem.W PyProof.Rows PySem.Calls
namespace Mine
set_option maxRecDepth 100000
set_option maxHeartbeats 1000000
def Fi.truthy : Fi → Bool
  | .empty => false
  | _ => true
def Fi.item : Fi → Option Th
  | .first θ => some θ
  | .text _ => some (.s (Str.ofString "a"))
  | .octs z => some (.i z)
  | .rng z => some (.i z)
  | _ => none
theorem mul_len {z : Int} (h0 : 0 ≤ z) (h1 : z < 100) : 1 ≤ (Txt.mul (Str.ofString "ab") (z + 1)).length ∧ (Txt.mul (Str.ofString "ab") (z + 1)).length ≤ 1000 :=
  nat_of (P := fun z => 1 ≤ (Txt.mul (Str.ofString "ab") (z + 1)).length ∧ (Txt.mul (Str.ofString "ab") (z + 1)).length ≤ 1000) (by decide +kernel) h0 h1
theorem mul_at {z : Int} (h0 : 0 ≤ z) (h1 : z < 100) : (seqIndex? 0 (Txt.mul (Str.ofString "ab") (z + 1)).length).bind ((Txt.mul (Str.ofString "ab") (z + 1)).cps[·]?) = some 97 :=
  nat_of (P := fun z => (seqIndex? 0 (Txt.mul (Str.ofString "ab") (z + 1)).length).bind ((Txt.mul (Str.ofString "ab") (z + 1)).cps[·]?) = some 97) (by decide +kernel) h0 h1
theorem oct_at {z : Int} (h0 : 0 ≤ z) (h1 : z < 100) : (((([z, 10].map fun (n : Int) => n.toNat.toUInt8).getD 0 0).toNat : Nat) : Int) = z :=
  nat_of (P := fun z => (((([z, 10].map fun (n : Int) => n.toNat.toUInt8).getD 0 0).toNat : Nat) : Int) = z) (by decide +kernel) h0 h1
section
variable {w : World} {A : Around} {E : Value → Shared → Prop} {s : Shared} {h₀ : Heap} {L : Addr} {m : Str → Option Value} {news : List (Addr × Obj)} {x : Value} {φ : Fi}
theorem truthy_fi {Q : Bool → Shared → Prop} (N : News h₀ L s.heap news) (hx : φ.Is w news x) (h : ∀ tk, Q φ.truthy { s with toks := tk }) :
    wpAny (model PySem.Challenge.rw_dm0046_01.row.prog w) A (truthy x) Q E s := by
  cases φ with
  | first θ =>
    obtain ⟨a, v, r, rfl, _, _, hl, hm | hm | ⟨o, hm, hs, hd⟩⟩ := hx
    · exact wpAny_truthy_list (items := (v :: r).toArray) ⟨_, (N _ hm).1, rfl, _, rfl⟩ (by simp only [List.size_toArray, List.length_cons]; omega) (by simpa [Fi.truthy] using h _)
    · exact ktl_truthyK N hm (by simp only [List.length_cons]; omega) (by simpa [Fi.truthy] using h _)
    · exact wpAny_truthy_dict hs (Heap.dictOf_iff.mpr ⟨o, (N _ hm).1, hd⟩) (by simp) (by simpa [Fi.truthy] using h _)
  | nokey =>
    obtain ⟨a, v, o, rfl, hm, hs, hd⟩ := hx
    exact wpAny_truthy_dict hs (Heap.dictOf_iff.mpr ⟨o, (N _ hm).1, hd⟩) (by simp) (by simpa [Fi.truthy] using h _)
  | text z =>
    obtain ⟨t, rfl, h0, h1⟩ := hx
    have hl := mul_len h0 h1
    have e : (((Txt.mul (Str.ofString "ab") (z + 1)).length : Int) != 0) = true := by simp only [bne_iff_ne]; omega
    exact P.truthy_str (by omega) (by rw [e]; exact h _)
  | octs z =>
    obtain ⟨t, rfl, h0, h1⟩ := hx
    exact truthy_bytes (by simp) (by simpa [Fi.truthy] using h _)
  | rng z =>
    obtain ⟨a, t, u, v, rfl, hm, h0, h1⟩ := hx
    have e : (Builtin.Range.rangeSize z (z + 2) 1 != 0) = true := by
      unfold Builtin.Range.rangeSize
      rw [if_pos (by decide), if_pos (by omega)]
      simp only [bne_iff_ne]; omega
    exact truthy_range (N _ hm).1 (by rw [e]; exact h s.toks)
  | empty =>
    rcases hx with rfl | ⟨t, rfl⟩ | rfl | ⟨t, rfl⟩ | ⟨t, rfl⟩ | ⟨a, rfl, hm⟩ | ⟨a, rfl, hm⟩ | ⟨a, o, rfl, hm, hs, hd⟩ | ⟨a, t, u, v, rfl, hm⟩
    · exact truthy_none (h s.toks)
    · exact truthy_int (h s.toks)
    · exact wpAny_truthy_bool (h s.toks)
    · exact P.truthy_str (by decide +kernel) (by rw [show (((Str.ofString "").length : Int) != 0) = false by decide +kernel]; exact h _)
    · exact truthy_bytes (by simp) (by simpa [Fi.truthy] using h _)
    · exact wpAny_truthy_list (items := ([] : List Value).toArray) ⟨_, (N _ hm).1, rfl, _, rfl⟩ (by simp) (by simpa [Fi.truthy] using h _)
    · exact ktl_truthyK N hm (by simp) (by simpa [Fi.truthy] using h _)
    · exact wpAny_truthy_dict hs (Heap.dictOf_iff.mpr ⟨o, (N _ hm).1, hd⟩) (by simp) (by simpa [Fi.truthy] using h _)
    · exact truthy_range (N _ hm).1 (h s.toks)
theorem item_fi {Q : Value → Shared → Prop} {value slice : PySem.Expr} {u0 : Tok} {θ : Th} (N : News h₀ L s.heap news) (hx : φ.Is w news x) (hi : φ.item = some θ) (h : ∀ v tk, θ.Is news v → θ.ok → Q v { s with toks := tk })
    (hs : subscripted slice false x (.int 0 u0) = operate [x, .int 0 u0] (getItem x (.int 0 u0)) := by with_unfolding_all rfl) :
    wpAny (model PySem.Challenge.rw_dm0046_01.row.prog w) A (subscriptTail value slice x (.int 0 u0)) Q E s := by
  cases φ with
  | first θ' =>
    cases hi
    obtain ⟨a, v, r, rfl, hv, ok, hl, hm | hm | ⟨o, hm, hsm, hd⟩⟩ := hx
    · exact item_at (vs := v :: r) ⟨_, (N _ hm).1, rfl, _, rfl⟩ (by decide) (by decide) rfl (h v _ hv ok) hs
    · exact item_tupleT (l := v :: r) ⟨_, (N _ hm).1, rfl, _, rfl⟩ (by decide) (by decide) (j := 0) (by simp [seqIndex?]) rfl (h v _ hv ok) hs
    · have hD := Heap.dictOf_iff.mpr ⟨o, (N _ hm).1, hd⟩
      exact tail_any hD.typeIs slot_dict_getitem.lookup (wpAny_getItem_of (intKind_is _ _ 0 _) hD.mapOf (by simp [valueAt]) (h v _ hv ok)) hs
  | text z =>
    cases hi
    obtain ⟨t, rfl, h0, h1⟩ := hx
    exact tail_any (typeIs_str _ _ _) PySem.F.slot_str_getitem.lookup (P.getItem_str rfl (mul_at h0 h1) (h _ _ ⟨_, rfl⟩ trivial)) hs
  | octs z =>
    cases hi
    obtain ⟨t, rfl, h0, h1⟩ := hx
    refine tail_any (T := "bytes") rfl FB.slot_bytes_getitem.lookup (getItem_bytes (by simp) (by decide) (by simp) ?_) hs
    rw [show ((0 : Int).toNat) = 0 from rfl, oct_at h0 h1]
    exact h _ _ ⟨_, rfl⟩ ⟨h0, h1⟩
  | rng z =>
    cases hi
    obtain ⟨a, t, u, v, rfl, hm, h0, h1⟩ := hx
    exact item_range (N _ hm).1 (by omega) (fun t' k => h _ _ ⟨_, rfl⟩ ⟨h0, h1⟩) hs
  | nokey => cases hi
  | empty => cases hi
theorem item_key {Q : Value → Shared → Prop} {value slice : PySem.Expr} {u0 : Tok} (N : News h₀ L s.heap news) (hx : Fi.nokey.Is w news x) (hh : A.handled = none)
    (h : ∀ h' e, Heap.NewExc s.heap h' e "KeyError" → E (.ref e) { s with heap := h', toks := s.toks + 1 })
    (hs : subscripted slice false x (.int 0 u0) = operate [x, .int 0 u0] (getItem x (.int 0 u0)) := by with_unfolding_all rfl) :
    wpAny (model PySem.Challenge.rw_dm0046_01.row.prog w) A (subscriptTail value slice x (.int 0 u0)) Q E s := by
  obtain ⟨a, v, o, rfl, hm, hsm, hd⟩ := hx
  have hD := Heap.dictOf_iff.mpr ⟨o, (N _ hm).1, hd⟩
  exact tail_any hD.typeIs slot_dict_getitem.lookup (wpAny_getItem_missing_of (intKind_is _ _ 0 _) hsm hh hD.mapOf (by simp [valueAt]) h) hs
end
end Mine

end

-- part MLoop
section
open PySem PySem.W PyProof.Rows PySem.Calls
namespace Mine
set_option maxRecDepth 100000
set_option maxHeartbeats 1000000
section
variable {prog : Program} {w : World} {A : Around} {E : Value → Shared → Prop} {s : Shared} {env : Env} {h₀ : Heap} {x : Str} {body : List Stmt} {Q : Flow → Shared → Prop}
/-- what a turn must show at its end. -/
def TurnEnd (h₀ : Heap) (L I : Addr) (own : List (Addr × Obj)) (J : (Str → Option Value) → List (Addr × Obj) → Prop) (s₁ : Shared) (Q : Flow → Shared → Prop) (f : Flow) (s₂ : Shared) : Prop := match f with
  | .ret v => Q (.ret v) s₂
  | .brk => Q .next s₂
  | _ => ∃ h' tk m' news', s₂ = { s₁ with heap := h', toks := tk } ∧ Fr h₀ L h' m' ∧ News h₀ L h' (own ++ news') ∧ (∀ p ∈ news', p.1 ≠ I) ∧ J m' news'
theorem TurnEnd.intro {L I : Addr} {own news' : List (Addr × Obj)} {J : (Str → Option Value) → List (Addr × Obj) → Prop} {s₁ : Shared} {h' : Heap} {tk : Nat} {m' : Str → Option Value}
    (F : Fr h₀ L h' m') (N : News h₀ L h' (own ++ news')) (hI : ∀ p ∈ news', p.1 ≠ I) (hJ : J m' news') : TurnEnd h₀ L I own J s₁ Q .next { s₁ with heap := h', toks := tk } := ⟨h', tk, m', news', rfl, F, N, hI, hJ⟩
theorem iter_W {I : Addr} {fp : List Addr} {n : Nat} {P : Nat → Value → Prop} {St : Nat → Heap → Prop} {m₀ : Str → Option Value} {news : List (Addr × Obj)} (J : Nat → (Str → Option Value) → List (Addr × Obj) → Prop)
    {s₂ : Shared} (W : Walks prog w A I fp [I] n P St) (hSt : ∀ i h, St i h → ∃ o, h.get? I = some o) (hfI : I ∈ fp) (hL : env.locals ∉ fp) (hI : h₀.get? I = none) (hn : ∀ p ∈ news, p.1 ≠ I) (hst : St 0 s₂.heap) (F : Fr h₀ env.locals s₂.heap m₀) (N : News h₀ env.locals s₂.heap news) (hj : J 0 m₀ news)
    (turn : ∀ i v m₁ news₁ h tk own, i < n → P i v → J i m₁ news₁ → (∀ p ∈ news₁, p.1 ≠ I) → (∀ p ∈ own, p.1 ∈ fp) → (∃ o, (I, o) ∈ own) → Fr h₀ env.locals h (fun y => if y = x then some v else m₁ y) → News h₀ env.locals h (own ++ news₁) →
      wpAny (model prog w) A (execs body env) (TurnEnd h₀ env.locals I own (J (i + 1)) { s₂ with heap := h, toks := tk } Q) E { s₂ with heap := h, toks := tk })
    (done : ∀ m₁ news₁ h tk, J n m₁ news₁ → Fr h₀ env.locals h m₁ → News h₀ env.locals h news₁ → (∀ p ∈ news₁, p.1 ≠ I) → Q .next { s₂ with heap := h, toks := tk }) :
    LoopAtV prog w A h₀ env x body Q E (.ref I) s₂ := by
  refine ⟨I, fp, [I], n, P, St, m₀, news, J, rfl, W, hL, fun b hb => (List.mem_singleton.mp hb) ▸ hI, fun p hp hq => hn p hp (List.mem_singleton.mp hq), hst, F, N, hj, ?_, ?_⟩
  · rintro i v m₁ news₁ s₁ own ⟨hh', tk', rfl⟩ hin hP hJ hoff hown _ hall hst' F₁ N₁
    obtain ⟨oI, hoI⟩ := hSt _ _ hst'
    refine wpAny_mono (turn i v m₁ news₁ hh' tk' own hin hP hJ (fun p hp q => hoff p hp (List.mem_singleton.mpr q)) hown ⟨oI, hall I hfI hI oI hoI⟩ F₁ N₁) (fun f s₂ p => ?_) fun _ _ e => e
    cases f with
    | ret v => exact .ret p
    | brk => exact .brk p
    | next =>
      obtain ⟨h', tk, m', news', e, F', N', hI', hJ'⟩ := p
      exact .next ⟨rfl, h', tk, m', news', e, F', N', fun q hq hq' => hI' q hq (List.mem_singleton.mp hq'), hJ'⟩
    | cont =>
      obtain ⟨h', tk, m', news', e, F', N', hI', hJ'⟩ := p
      exact .cont ⟨rfl, h', tk, m', news', e, F', N', fun q hq hq' => hI' q hq (List.mem_singleton.mp hq'), hJ'⟩
  · rintro h' tk m' news' F' N' ha hJ
    exact done m' news' h' tk hJ F' N' fun p hp q => ha p hp (List.mem_singleton.mpr q)
theorem fresh_size (F : Fr h₀ env.locals s.heap m) : h₀.get? s.heap.objs.size = none := by
  cases q : h₀.get? s.heap.objs.size with
  | none => rfl
  | some o => exact absurd (Heap.lt_size (F.keep _ _ q)) (Nat.lt_irrefl _)
theorem iter_tup {D : Addr} {vs : List Value} {m₀ : Str → Option Value} {news : List (Addr × Obj)} (J : Nat → (Str → Option Value) → List (Addr × Obj) → Prop)
    (hh : A.handled = none) (hm : (D, tupO vs) ∈ news) (F : Fr h₀ env.locals s.heap m₀) (N : News h₀ env.locals s.heap news) (hj : J 0 m₀ news)
    (turn : ∀ I i v m₁ news₁ h tk own, vs[i]? = some v → J i m₁ news₁ → (∀ p ∈ news₁, p.1 ≠ I) → (∀ p ∈ own, p.1 = I ∨ p.1 = D) → (∃ o, (I, o) ∈ own) → Fr h₀ env.locals h (fun y => if y = x then some v else m₁ y) → News h₀ env.locals h (own ++ news₁) →
      wpAny (model prog w) A (execs body env) (TurnEnd h₀ env.locals I own (J (i + 1)) { s with heap := h, toks := tk } Q) E { s with heap := h, toks := tk })
    (done : ∀ m₁ news₁ h tk, J vs.length m₁ news₁ → Fr h₀ env.locals h m₁ → News h₀ env.locals h news₁ → Q .next { s with heap := h, toks := tk }) :
    wpAny (model prog w) A (pyIter (.ref D)) (fun it s₂ => LoopAtV prog w A h₀ env x body Q E it s₂) E s := by
  have ht : s.heap.IsTuple D vs.toArray := ⟨_, (N _ hm).1, rfl, _, rfl⟩
  have hlt : D < s.heap.objs.size := Heap.lt_size (N _ hm).1
  refine wpAny_pyIter_tuple ht ?_
  have W := Walks.tuple (prog := prog) (w := w) hh s.heap.objs.size D (Nat.ne_of_lt hlt) vs.toArray
  rw [List.size_toArray] at W
  refine iter_W J W (fun _ _ h => let ⟨o, ho, _⟩ := h.1; ⟨o, ho⟩) (List.Mem.head _) ?_ (fresh_size F) (fun p hp => Nat.ne_of_lt (Heap.lt_size (N p hp).1)) ⟨⟨_, Heap.get?_push_size _ rfl, rfl, rfl⟩, ht.at fun o e => Heap.get?_push_of_some _ e⟩ (F.push _) (fun p hp => ⟨Heap.get?_push_of_some _ (N p hp).1, (N p hp).2⟩) hj ?_ ?_
  · intro hq
    rcases List.mem_cons.mp hq with e | hq
    · exact absurd F.ns.lt (e ▸ Nat.lt_irrefl _)
    · exact (N _ hm).2.1 (List.mem_singleton.mp hq).symm
  · intro i v m₁ news₁ h tk own hin hP hJ hn hown hIo F₁ N₁
    refine turn _ i v m₁ news₁ h tk own (by simpa using hP) hJ hn (fun p hp => ?_) hIo F₁ N₁
    rcases List.mem_cons.mp (hown p hp) with e | e
    · exact Or.inl e
    · exact Or.inr (List.mem_singleton.mp e)
  · intro m₁ news₁ h tk hJ F₁ N₁ _
    exact done m₁ news₁ h tk hJ F₁ N₁
theorem iter_lst {l : Addr} {vs : List Value} {m₀ : Str → Option Value} {news : List (Addr × Obj)} (J : Nat → (Str → Option Value) → List (Addr × Obj) → Prop)
    (hh : A.handled = none) (hl : s.heap.IsList l vs.toArray) (hlL : l ≠ env.locals) (F : Fr h₀ env.locals s.heap m₀) (N : News h₀ env.locals s.heap news) (hj : J 0 m₀ news)
    (turn : ∀ I i v m₁ news₁ h tk own, vs[i]? = some v → J i m₁ news₁ → (∀ p ∈ news₁, p.1 ≠ I) → (∀ p ∈ own, p.1 = I ∨ p.1 = l) → (∃ o, (I, o) ∈ own) → Fr h₀ env.locals h (fun y => if y = x then some v else m₁ y) → News h₀ env.locals h (own ++ news₁) →
      wpAny (model prog w) A (execs body env) (TurnEnd h₀ env.locals I own (J (i + 1)) { s with heap := h, toks := tk } Q) E { s with heap := h, toks := tk })
    (done : ∀ m₁ news₁ h tk, J vs.length m₁ news₁ → Fr h₀ env.locals h m₁ → News h₀ env.locals h news₁ → Q .next { s with heap := h, toks := tk }) :
    wpAny (model prog w) A (pyIter (.ref l)) (fun it s₂ => LoopAtV prog w A h₀ env x body Q E it s₂) E s := by
  obtain ⟨ol, hol, hol'⟩ := id hl
  have hlt : l < s.heap.objs.size := Heap.lt_size hol
  refine wpAny_pyIter_list hl ?_
  have W := Walks.list (prog := prog) (w := w) hh s.heap.objs.size l (Nat.ne_of_lt hlt) vs.toArray
  rw [List.size_toArray] at W
  refine iter_W J W (fun _ _ h => let ⟨o, ho, _⟩ := h.1; ⟨o, ho⟩) (List.Mem.head _) ?_ (fresh_size F) (fun p hp => Nat.ne_of_lt (Heap.lt_size (N p hp).1)) ⟨⟨_, Heap.get?_push_size _ rfl, rfl, rfl⟩, hl.at fun o e => Heap.get?_push_of_some _ e⟩ (F.push _) (fun p hp => ⟨Heap.get?_push_of_some _ (N p hp).1, (N p hp).2⟩) hj ?_ ?_
  · intro hq
    rcases List.mem_cons.mp hq with e | hq
    · exact absurd F.ns.lt (e ▸ Nat.lt_irrefl _)
    · exact hlL (List.mem_singleton.mp hq).symm
  · intro i v m₁ news₁ h tk own hin hP hJ hn hown hIo F₁ N₁
    refine turn _ i v m₁ news₁ h tk own (by simpa using hP) hJ hn (fun p hp => ?_) hIo F₁ N₁
    rcases List.mem_cons.mp (hown p hp) with e | e
    · exact Or.inl e
    · exact Or.inr (List.mem_singleton.mp e)
  · intro m₁ news₁ h tk hJ F₁ N₁ _
    exact done m₁ news₁ h tk hJ F₁ N₁
theorem iter_rng {r : Addr} {n : Nat} {t u v : Tok} {m₀ : Str → Option Value} {news : List (Addr × Obj)} (J : Nat → (Str → Option Value) → List (Addr × Obj) → Prop)
    (hh : A.handled = none) (hr : s.heap.get? r = some (rangeO 0 (n : Int) t u v)) (hn : n ≤ 1000) (F : Fr h₀ env.locals s.heap m₀) (N : News h₀ env.locals s.heap news) (hj : J 0 m₀ news)
    (turn : ∀ I i t' m₁ news₁ h tk own, i < n → J i m₁ news₁ → (∀ p ∈ news₁, p.1 ≠ I) → (∀ p ∈ own, p.1 = I) → (∃ o, (I, o) ∈ own) → Fr h₀ env.locals h (fun y => if y = x then some (.int (i : Int) t') else m₁ y) → News h₀ env.locals h (own ++ news₁) →
      wpAny (model prog w) A (execs body env) (TurnEnd h₀ env.locals I own (J (i + 1)) { s with heap := h, toks := tk } Q) E { s with heap := h, toks := tk })
    (done : ∀ m₁ news₁ h tk, J n m₁ news₁ → Fr h₀ env.locals h m₁ → News h₀ env.locals h news₁ → Q .next { s with heap := h, toks := tk }) :
    wpAny (model prog w) A (pyIter (.ref r)) (fun it s₂ => LoopAtV prog w A h₀ env x body Q E it s₂) E s := by
  have hz : Builtin.Range.rangeSize 0 (n : Int) 1 = (n : Int) := by
    unfold Builtin.Range.rangeSize
    rw [if_pos (by decide)]
    split <;> omega
  have hsm : Builtin.Range.small 0 (n : Int) 1 = true := by
    have f : ∀ k : Int, 0 ≤ k → k ≤ 2000 → Builtin.Range.rangeFitsLong k = true := fun k h1 h2 => by
      unfold Builtin.Range.rangeFitsLong
      simp only [Bool.and_eq_true, decide_eq_true_eq]
      omega
    unfold Builtin.Range.small
    rw [hz, f 0 (by omega) (by omega), f (n : Int) (by omega) (by omega), f 1 (by omega) (by omega), if_pos (by decide), f ((n : Int) + (1 - 1)) (by omega) (by omega)]
    simp
  refine wpAny_pyIter_range hr hsm ?_
  have W := Walks.range (prog := prog) (w := w) hh s.heap.objs.size 0 1 n
  refine iter_W J W (fun _ _ h => ⟨_, h⟩) (List.Mem.head _) ?_ (fresh_size F) (fun p hp => Nat.ne_of_lt (Heap.lt_size (N p hp).1)) ?_ (F.push _) (fun p hp => ⟨Heap.get?_push_of_some _ (N p hp).1, (N p hp).2⟩) hj ?_ ?_
  · intro hq
    exact absurd F.ns.lt ((List.mem_singleton.mp hq) ▸ Nat.lt_irrefl _)
  · show Heap.get? _ _ = some _
    rw [hz]
    simpa using Heap.get?_push_size s.heap rfl
  · intro i v m₁ news₁ h tk own hin hP hJ hn hown hIo F₁ N₁
    obtain ⟨t', rfl⟩ := hP
    refine turn _ i t' m₁ news₁ h tk own hin hJ hn (fun p hp => List.mem_singleton.mp (hown p hp)) hIo ?_ N₁
    have e : (0 : Int) + (i : Int) * 1 = (i : Int) := by omega
    rw [e] at F₁
    exact F₁
  · intro m₁ news₁ h tk hJ F₁ N₁ _
    exact done m₁ news₁ h tk hJ F₁ N₁
end
end Mine

end

-- part MCheck
section
open PySem PySem.W PyProof.Rows PySem.Calls
namespace Mine
set_option maxRecDepth 100000
set_option maxHeartbeats 8000000
theorem fillC : (fun (_ : OpenLaw) (_ : Params → Frag) => True) PySem.Challenge.rw_dm0046_01 Mine.hd.heap_39 := by
  k_fill
  trivial
/-- what is due. -/
inductive Dd
  | ok | key | ty (m : Str)
def Fi.dd : Fi → Dd
  | .nokey => .key
  | φ => match φ.item with
    | some θ => if θ.isS then .ok else .ty (lineW θ)
    | none => .ok
def argW (θ : Th) : Str := Str.ofString "all arguments must be str, not: " ++ θ.look
def Th.dd (θ : Th) : Dd := if θ.isS then .ok else .ty (argW θ)
def firstD : List Dd → Dd
  | [] => .ok
  | .ok :: r => firstD r
  | .key :: _ => .key
  | .ty m :: _ => .ty m
theorem Fi.dd_ok {φ : Fi} (h : φ.dd = .ok) : φ.truthy = false ∨ (φ.truthy = true ∧ ∃ θ, φ.item = some θ ∧ θ.isS = true) := by
  cases φ with
  | first θ =>
    refine Or.inr ⟨rfl, θ, rfl, ?_⟩
    cases q : θ.isS with
    | true => rfl
    | false => simp [Fi.dd, Fi.item, q] at h
  | nokey => cases h
  | text z => exact Or.inr ⟨rfl, _, rfl, rfl⟩
  | octs z => cases h
  | rng z => cases h
  | empty => exact Or.inl rfl
theorem Fi.dd_key {φ : Fi} (h : φ.dd = .key) : φ = .nokey := by
  cases φ with
  | first θ => cases q : θ.isS <;> simp [Fi.dd, Fi.item, q] at h
  | nokey => rfl
  | text z => cases h
  | octs z => cases h
  | rng z => cases h
  | empty => cases h
theorem Fi.dd_ty {φ : Fi} {m : Str} (h : φ.dd = .ty m) : φ.truthy = true ∧ ∃ θ, φ.item = some θ ∧ θ.isS = false ∧ m = lineW θ := by
  cases φ with
  | first θ =>
    refine ⟨rfl, θ, rfl, ?_⟩
    cases q : θ.isS with
    | true => simp [Fi.dd, Fi.item, q] at h
    | false => simp [Fi.dd, Fi.item, q] at h; exact ⟨rfl, h.symm⟩
  | nokey => cases h
  | text z => cases h
  | octs z => cases h; exact ⟨rfl, _, rfl, rfl, rfl⟩
  | rng z => cases h; exact ⟨rfl, _, rfl, rfl, rfl⟩
  | empty => cases h
theorem RaisedS.sub {base G : Heap} {l : List Env} {e t : Addr} {cls : Value} {vs : List Value} {news news' : List (Addr × Obj)} {h : Heap} (hs : ∀ p ∈ news', p ∈ news) (R : RaisedS base G l e cls t vs news h) : RaisedS base G l e cls t vs news' h := by
  obtain ⟨⟨B, a, b, c, d⟩, k⟩ := R
  exact ⟨⟨B, a, b, fun q hq => c q (hs q hq), d⟩, k⟩
theorem RaisedSN.sub {base G : Heap} {l : List Env} {e : Addr} {cls : Value} {news news' : List (Addr × Obj)} {h : Heap} (hs : ∀ p ∈ news', p ∈ news) (R : RaisedSN base G l e cls news h) : RaisedSN base G l e cls news' h := by
  obtain ⟨B, a0, a, b, c, d⟩ := R
  exact ⟨B, a0, a, b, fun q hq => c q (hs q hq), d⟩
theorem firstD_app : ∀ {l r : List Dd}, firstD l = .ok → firstD (l ++ r) = firstD r
  | [], _, _ => rfl
  | .ok :: l, r, h => firstD_app (l := l) h
  | .key :: _, _, h => by cases h
  | .ty _ :: _, _, h => by cases h
theorem firstD_at {θs : List Th} {i : Nat} {θ : Th} (hp : firstD ((θs.take i).map Th.dd) = .ok) (hθ : θs[i]? = some θ) (hS : θ.isS = false) : firstD (θs.map Th.dd) = .ty (argW θ) := by
  obtain ⟨hl, he⟩ := List.getElem?_eq_some_iff.mp hθ
  have e : θs = θs.take i ++ θ :: θs.drop (i + 1) := by rw [← he, ← List.drop_eq_getElem_cons hl, List.take_append_drop]
  rw [e, List.map_append, firstD_app hp, List.map_cons]
  simp only [Th.dd, hS, Bool.false_eq_true, if_false, firstD]
theorem firstD_next {θs : List Th} {i : Nat} {θ : Th} (hp : firstD ((θs.take i).map Th.dd) = .ok) (hθ : θs[i]? = some θ) (hS : θ.isS = true) : firstD ((θs.take (i + 1)).map Th.dd) = .ok := by
  rw [List.take_add_one, hθ, List.map_append, firstD_app hp]
  simp only [Option.toList, List.map_cons, List.map_nil, Th.dd, hS, if_true, firstD]
theorem litA : (Str.ofString "lines to compare must be str, not ").length = 34 := by decide +kernel
theorem litB : (Str.ofString " (").length = 2 := by decide +kernel
theorem litC : (Str.ofString ")").length = 1 := by decide +kernel
theorem litD : (Str.ofString "all arguments must be str, not: ").length = 32 := by decide +kernel
local macro_rules | `(tactic| walk_at "m1") => `(tactic| first | (k_unfold; (try dsimp only)) | walk1 | (dsimp only; walk1))
/- the head of the test, with the file hq -/
set_option hygiene false in
local macro_rules | `(tactic| walk_at "mTruth") => `(tactic| (
    repeat ((fail_if_success (with_reducible show wpAny _ _ (truthy _) _ _ _)); walk_at "m1")
    refine truthy_fi N' hq ?_
    intro tk
    rw [hp]))
set_option hygiene false in
local macro_rules | `(tactic| walk_at "mItem") => `(tactic| (
    repeat ((fail_if_success (with_reducible show wpAny _ _ (subscriptTail _ _ _ _) _ _ _)); walk_at "m1")
    refine item_fi N' hq hi ?_
    intro v tk hv ok))
set_option hygiene false in
local macro_rules | `(tactic| walk_at "mInst") => `(tactic| (
    repeat ((fail_if_success (with_reducible show wpAny _ _ (call (Value.builtin "isinstance") _ _) _ _ _)); walk_at "m1")
    refine isinst_th N' (X'.keeps F'.keep) hv ?_
    intro tk
    rw [hS]))
set_option hygiene false in
local macro_rules | `(tactic| walk_at "mFail") => `(tactic| (
    walk_at "mTruth"
    simp only [if_true]
    walk_at "mItem"
    walk_at "mInst"
    have hkl := θ.kind_len
    have hll := Th.look_len ok
    have hl1 := litA
    have hl2 := litB
    have hl3 := litC
    walk_at "mItem"
    repeat ((fail_if_success (with_reducible show wpAny _ _ (call (Value.type "type") _ _) _ _ _)); walk_at "m1")
    refine type_th N' hv ?_
    repeat ((fail_if_success (with_reducible show wpAny _ _ (getAttr _ _ _) _ _ _)); walk_at "m1")
    refine name_th F' X' ?_
    intro tk u1
    refine SB.convS_str ?_ (Nat.le_trans hkl (by rw [sizeLine_eq]; decide))
    intro t3 k3
    refine formatField_str ?_ (Nat.le_trans hkl (by rw [sizeLine_eq]; decide))
    intro t4 k4
    walk_at "mItem"
    repeat ((fail_if_success (with_reducible show wpAny _ _ (pyReprObj _) _ _ _)); walk_at "m1")
    refine repr_th F' N' hv ok hS rfl (by show u + 3 + 10 < 9900; omega) ?_
    intro h2 u2 tk2 F2 N2
    repeat ((fail_if_success (with_reducible show wpAny _ _ (leaving _ _) _ _ _)); walk_at "m1")
    refine leave_raiseS B' (Heap.MadeExc.of (by assumption)) F2 N2 ?_ rfl
    intro h3 t5 RS RK US
    clear RK))
/- a file that passes -/
set_option hygiene false in
local macro_rules | `(tactic| walk_at "mPass") => `(tactic| (
    refine cut_toks (fun fl => fl = Flow.next) ?_ ?_
    · rcases hsp with hp | ⟨hp, θ, hi, hS⟩
      · walk_at "mTruth"
        simp only [Bool.false_eq_true, if_false]
        repeat (walk_at "m1")
      · walk_at "mTruth"
        simp only [if_true]
        walk_at "mItem"
        walk_at "mInst"
        repeat (walk_at "m1")
    intro fl tk hfl
    subst hfl
    dsimp only))
set_option hygiene false in
local macro_rules | `(tactic| walk_at "mKey") => `(tactic| (
    have hp : Fi.nokey.truthy = true := rfl
    walk_at "mTruth"
    simp only [if_true]
    repeat ((fail_if_success (with_reducible show wpAny _ _ (subscriptTail _ _ _ _) _ _ _)); walk_at "m1")
    refine item_key N' hq rfl ?_
    intro h2 e NE
    refine leave_newS B' NE F' N' ?_ rfl
    intro h3 RS RN US
    clear RN))
theorem check_code {w : World} {d u : Nat} {outer : List Env} {env : Env} {s : Shared} {mean : ExcName → Option Value} {mg mb : Str → Option Value} {R : Result → Shared → Prop}
    {A₀ : Around} {base h₀ : Heap} {L : Addr} {m : Str → Option Value} {news : List (Addr × Obj)} {x y : Value} {vs : List Value} {φ ψ : Fi} {θs : List Th}
    (B : Below A₀ base outer h₀) (F : Fr h₀ L s.heap m) (N : News h₀ L s.heap news) (X : (Mine.hd.heap_39 w.params).In h₀) (T : Top Mine.hd.view_39 (looseW Mine.hd.view_39 []) mean mg mb h₀) (hd : d < 400) (hu : u < 80)
    (hf : env.frame = some L) (hke : env.scope.kind = .function)
    (hx : Fi.Is w news x φ) (hy : Fi.Is w news y ψ) (hvl : vs.length ≤ 1000) (hvs : ∀ (i : Nat) (v : Value), vs[i]? = some v → ∃ θ : Th, θs[i]? = some θ ∧ θ.Is news v ∧ θ.ok) (hln : vs.length = θs.length)
    (hok : firstD (φ.dd :: ψ.dd :: θs.map Th.dd) = .ok → ∀ h' tk, Fr h₀ L h' m → News h₀ L h' news → R (.ok (.ret .none)) { s with heap := h', toks := tk })
    (hty : ∀ msg, firstD (φ.dd :: ψ.dd :: θs.map Th.dd) = .ty msg → ∀ e t tk' h' tk g, Fr h₀ L g m → RaisedS base g (env :: outer) e (.type "TypeError") t [.str msg tk'] news h' → g.UpToSlots h' → R (.error (.ref e)) { s with heap := h', toks := tk })
    (hky : firstD (φ.dd :: ψ.dd :: θs.map Th.dd) = .key → ∀ e h' tk g, Fr h₀ L g m → RaisedSN base g (env :: outer) e (.type "KeyError") news h' → g.UpToSlots h' → R (.error (.ref e)) { s with heap := h', toks := tk }) :
    codeAny (model PySem.Challenge.rw_dm0046_01.row.prog w) (AR d u (env :: outer)) (.call (.ref 21) ⟨x :: y :: vs, []⟩) R s := by
  refine' restV (vs := vs) (binds := fun t => [(Str.ofString "a", x), (Str.ofString "b", y), (Str.ofString "args", t)]) B F X N T ?kA hf hke ?k6 ?k7 ?k8 hvl ?kP ?kB ?_ ?c2 ?c3 ?c4 ?c5
  case kA => exact rfl
  case k6 => k_is
  case k7 => k_is
  case k8 => show d < recursionLimit; rw [show recursionLimit = 1000 from rfl]; omega
  case kP => cases vs <;> exact rfl
  case kB => exact fun _ => locs rfl
  case c5 => decide
  case c2 => exact rfl
  case c3 => exact rfl
  case c4 => exact rfl
  intro D' g' L' h' l1 FG' F' N' B' X' T'
  k_fold
  have hx' : Fi.Is w (led N') x φ := hx.mono fun p hp => List.Mem.tail _ hp
  have hy' : Fi.Is w (led N') y ψ := hy.mono fun p hp => List.Mem.tail _ hp
  dsimp only [led] at hx' hy'
  repeat ((fail_if_success (with_reducible show wpAny _ _ (exec (Stmt.If _ _ _ _) _) _ _ _)); walk_at "m1")
  rcases hda : φ.dd with _ | _ | msg
  · have hq := hx'
    have hsp := Fi.dd_ok hda
    walk_at "mPass"
    clear hsp hq
    repeat ((fail_if_success (with_reducible show wpAny _ _ (exec (Stmt.If _ _ _ _) _) _ _ _)); walk_at "m1")
    have hq := hy'
    rcases hdb : ψ.dd with _ | _ | msg
    · have hsp := Fi.dd_ok hdb
      walk_at "mPass"
      clear hsp hq
      repeat ((fail_if_success (with_reducible show wpAny _ _ (exec (Stmt.For _ _ _ _ _) _) _ _ _)); walk_at "m1")
      refine For_invV g' rfl rfl ?_
      walk_at "m1"
      refine iter_tup (fun i _ nw₁ => nw₁ = (D', tupO vs) :: news ∧ firstD ((θs.take i).map Th.dd) = .ok) rfl (List.Mem.head _) F' N' ⟨rfl, rfl⟩ ?_ ?_
      · rintro I i v m₁ news₁ h1 tk1 own hv ⟨rfl, hpre⟩ hnI hown hIo F1 N1
        obtain ⟨θ, hθ, his, ok⟩ := hvs i v hv
        have his' : θ.Is (led N1) v := his.mono fun p hp => List.mem_append_right _ (List.Mem.tail _ hp)
        dsimp only [led] at his'
        repeat ((fail_if_success (with_reducible show wpAny _ _ (call (Value.builtin "isinstance") _ _) _ _ _)); walk_at "m1")
        refine isinst_th N1 (X'.keeps F1.keep) his' ?_
        intro tk
        rcases hS : θ.isS with _ | _
        · have hll := Th.look_len ok
          have hl4 := litD
          repeat ((fail_if_success (with_reducible show wpAny _ _ (pyReprObj _) _ _ _)); walk_at "m1")
          refine repr_th F1 N1 his' ok hS rfl (by show u + 3 + 10 < 9900; omega) ?_
          intro h2 u2 tk2 F2 N2
          repeat ((fail_if_success (with_reducible show wpAny _ _ (leaving _ _) _ _ _)); walk_at "m1")
          refine leave_raiseS B' (Heap.MadeExc.of (by assumption)) F2 N2 ?_ rfl
          intro h3 t5 RS RK US
          rw [Str.empty_append] at RS
          exact hty (argW θ) (by simp only [firstD, hda, hdb]; exact firstD_at hpre hθ hS) _ _ _ _ _ _ FG' (RaisedS.sub (fun p hp => List.mem_append_right _ (List.Mem.tail _ hp)) RS) US
        · repeat ((fail_if_success (with_reducible show TurnEnd _ _ _ _ _ _ _ _ _)); walk_at "m1")
          exact TurnEnd.intro F1 N1 hnI ⟨rfl, firstD_next hpre hθ hS⟩
      · rintro m₁ news₁ h1 tk1 ⟨rfl, hpre⟩ F1 N1
        rw [hln, List.take_length] at hpre
        dsimp only
        repeat ((fail_if_success (with_reducible show LeaveK _ _ _ _ _ _ _)); walk_at "m1")
        refine leaveK_ F1 N1 ?_
        intro Fk Nk
        exact hok (by simp only [firstD, hda, hdb]; exact hpre) _ _ Fk (fun p hp => Nk p (List.Mem.tail _ hp))
    · have e := Fi.dd_key hdb
      subst e
      walk_at "mKey"
      exact hky (by simp only [firstD, hda, hdb]) _ _ _ _ FG' (RaisedSN.sub (fun p hp => List.Mem.tail _ hp) RS) US
    · obtain ⟨hp, θ, hi, hS, hm⟩ := Fi.dd_ty hdb
      walk_at "mFail"
      rw [Str.empty_append] at RS
      exact hty msg (by simp only [firstD, hda, hdb]) _ _ _ _ _ _ FG' (RaisedS.sub (fun p hp => List.Mem.tail _ hp) (by rw [hm]; exact RS)) US
  · have hq := hx'
    have e := Fi.dd_key hda
    subst e
    walk_at "mKey"
    exact hky (by simp only [firstD, hda]) _ _ _ _ FG' (RaisedSN.sub (fun p hp => List.Mem.tail _ hp) RS) US
  · have hq := hx'
    obtain ⟨hp, θ, hi, hS, hm⟩ := Fi.dd_ty hda
    walk_at "mFail"
    rw [Str.empty_append] at RS
    exact hty msg (by simp only [firstD, hda]) _ _ _ _ _ _ FG' (RaisedS.sub (fun p hp => List.Mem.tail _ hp) (by rw [hm]; exact RS)) US
end Mine

end

-- part MTold
section
open PySem PySem.W PyProof.Rows PySem.Calls
namespace Mine
set_option maxRecDepth 100000
set_option maxHeartbeats 8000000
theorem fillD : (fun (_ : OpenLaw) (_ : Params → Frag) => True) PySem.Challenge.rw_dm0046_01 Mine.hd.heap_39 := by
  k_fill
  trivial
def told : Dd → Option Str
  | .ok => none
  | .key => some (Str.ofString "no line 0")
  | .ty m => some m
local macro_rules | `(tactic| walk_at "m1") => `(tactic| first | (k_unfold; (try dsimp only)) | walk1 | (dsimp only; walk1))
theorem told_code {w : World} {d u : Nat} {cn : Str} {cs : Scope} {a : Addr} {ccd : Value} {s : Shared} {mean : ExcName → Option Value} {mg mb : Str → Option Value} {R : Result → Shared → Prop}
    {A₀ : Around} {h₀ : Heap} {L lt : Addr} {lo : Obj} {ln : Nat} {m : Str → Option Value} {news : List (Addr × Obj)} {x y : Value} {vs : List Value} {φ ψ : Fi} {θs : List Th} {t0 : Tok}
    (B : Below A₀ h₀ [] h₀) (F : Fr h₀ L s.heap m) (N : News h₀ L s.heap news) (X : (Mine.hd.heap_39 w.params).In h₀) (T : Top Mine.hd.view_39 (looseW Mine.hd.view_39 []) mean mg mb h₀) (hd : d < 350) (hu : u < 60)
    (hck : cs.kind = .function) (hm : (lt, lo) ∈ news) (hlc : lo.cls = .type "list") (hld : lo.data = .seq (x :: y :: vs).toArray ln)
    (hx : Fi.Is w news x φ) (hy : Fi.Is w news y ψ) (hvl : vs.length ≤ 1000) (hvs : ∀ (i : Nat) (v : Value), vs[i]? = some v → ∃ θ : Th, θs[i]? = some θ ∧ θ.Is news v ∧ θ.ok) (hln : vs.length = θs.length)
    (h : ∀ v h' tk, DueOpt (told (firstD (φ.dd :: ψ.dd :: θs.map Th.dd))) v → Fr h₀ L h' m → News h₀ L h' news → R (.ok (.ret v)) { s with heap := h', toks := tk }) :
    codeAny (model PySem.Challenge.rw_dm0046_01.row.prog w) (AR d u [envOf cn cs L a ccd]) (.call (.ref 42) ⟨[.ref lt], []⟩) R s := by
  refine' code_defS0 B F X N T ?kA ?k6 ?k7 ?k8 ?k9 ?kB ?_ hck ?c2 ?c3 ?c4 ?c5
  case kA => exact rfl
  case k6 => k_is
  case k7 => k_is
  case k8 => show d < recursionLimit; rw [show recursionLimit = 1000 from rfl]; omega
  case k9 => exact BindsTo.of_eq rfl
  case c5 => decide
  case kB => exact locs rfl
  case c2 => exact rfl
  case c3 => exact rfl
  case c4 => exact rfl
  intro g' L' h' FG' F' N' B' X' T' D'
  k_fold
  repeat ((fail_if_success (with_reducible show StarOf _ _ _ _ _ _)); walk_at "m1")
  refine star_seq F' N' hm hlc hld (Or.inl rfl) (ws := x :: y :: vs) (by simp) (by simp only [List.size_toArray, List.length_cons]; rw [sizeLine_eq]; omega) ?_
  intro h2 F2 N2
  refine ⟨X'.keeps F2.keep, ?_⟩
  dsimp only [List.nil_append]
  refine wpAny_call (check_code (d := d + 1) (u := u + 3) B' F2 N2 X' T' (by omega) (by omega) rfl rfl hx hy hvl hvs hln ?_ ?_ ?_)
  · intro hD h3 tk3 F3 N3
    dsimp only
    k_unfold
    refine leaveS0_ F3 N3 KtsTurn.refl ?_
    intro Fk Nk
    exact h .none _ _ (by rw [hD]; rfl) Fk Nk
  · intro msg hD e t tk' h3 tk3 g Fg RS US
    dsimp only
    refine' caught_SB (T' := "TypeError") RS Fg B' US X T D' KtsTurn.refl ?ex PyProof.Rows.Boot.«TypeError» ?hn PySem.F.isExc_TypeError PySem.F.notTuple_TypeError ?hs ?_
    case ex => k_is
    case hn => decide
    case hs => kts_sub
    intro h4 g4 nw4 tk4 T4 F4 NG4 G4 N4 B4 X4 P4 D4
    repeat (walk_at "m1")
    exact h _ _ _ (by rw [hD]; exact ⟨_, rfl⟩) (by assumption) (by assumption)
  · intro hD e h3 tk3 g Fg RS US
    dsimp only
    repeat (walk_at "m1")
    exact h _ _ _ (by rw [hD]; exact ⟨_, rfl⟩) (by assumption) (by assumption)
end Mine

end

-- part MComp
section
open PySem PySem.W PyProof.Rows PySem.Calls PyProof.Rows.LCg
namespace Mine
set_option maxRecDepth 100000
set_option maxHeartbeats 8000000
section
variable {prog : Program} {w : World} {A : Around} {E : Value → Shared → Prop} {s : Shared} {h₀ : Heap} {L : Addr} {m : Str → Option Value} {env : Env}
/-- the items of a list are two-item lists of the ledger, and fs are their firsts. -/
def Firsts (nw : List (Addr × Obj)) (its : List Value) (fs : List Value) : Prop :=
  fs.length = its.length ∧ ∀ (i : Nat) (v : Value), its[i]? = some v → ∃ (t : Addr) (v₁ v₂ : Value), v = .ref t ∧ (t, listO [v₁, v₂]) ∈ nw ∧ fs[i]? = some v₁
theorem assign_Tuple_list {elts : List Expr} {x1} {pos : Pos} {t : Addr} {items : Array Value} {Q : Unit → Shared → Prop} (hh : A.handled = none) (ht : s.heap.IsList t items)
    (hn : (assignEach elts env).length = items.size) (hstar : (assignEach elts env).findIdx? (·.1) = none)
    (h : ∀ h', Heap.ExtBut s.heap.objs.size s.heap h' → wpAny (model prog w) A (assignInOrder ((assignEach elts env).map (·.2)) items.toList) Q E { s with heap := h' }) :
    wpAny (model prog w) A (assign (.Tuple elts x1 pos) env (.ref t)) Q E s := by
  rw [assign_Tuple]
  refine wpAny_bind (wpAny_standAt ?_)
  unfold unpack
  rw [hn, hstar]
  exact wpAny_bind (wpAny_holding (kun_itemsOf hh ht h))
theorem comp_block {iter : Expr} {x x₂ : Str} {pe px px₂ tp : Pos} {tk} {scope : Scope} {cl : List (Str × Addr)} {pos : Pos} {s₂ : Shared} {I ax : Addr} {its fs : List Value} {k : Nat} {news : List (Addr × Obj)} {RR : Value → Addr → Result → Shared → Prop}
    (hsz : its.length ≤ sizeLine) (hm : (ax, W.listOf its.toArray k) ∈ news) (hF : Firsts news its fs)
    (hcell : ∀ y ∈ scope.names, y.2 ≠ .cell) (hkind : scope.kind = .function) (hx : scope.names.lookup x = some .local) (hx₂ : scope.names.lookup x₂ = some .local) (hxx : x ≠ x₂) (hxd : (x == ("__debug__" : Str)) = false) (hh : A.handled = none)
    (hst : s₂.heap.IsListIter I ax 0) (F : Fr h₀ L s₂.heap m) (N : News h₀ L s₂.heap news) (hIL : L ≠ I) (hI₀ : h₀.get? I = none) (off : ∀ p ∈ news, p.1 ≠ I)
    (hRR : ∀ D C h tk m', Fr h₀ L h m → News h₀ L h ((D, lst fs) :: news) → (∀ p ∈ news, p.1 ≠ D) → h.Ns C m' → h₀.get? C = none → h₀.get? D = none → C ≠ L → D ≠ L → C ≠ D → (∀ p ∈ news, p.1 ≠ C) → RR (.ref D) C (.ok .next) { s₂ with heap := h, toks := tk }) :
    wpAny (model prog w) A (newList []) (fun acc s₃ => wpAny (model prog w) A (newFunctionEnv scope env.globals cl [] env.qual none .none (some env)) (fun cenv s₄ =>
      codeAny (model prog w) A (.compStart (.ListComp (.Name x pe) [⟨.Tuple [.Name x px, .Name x₂ px₂] tk tp, iter, [], 0⟩] scope pos) 0 (.ref I) acc { cenv with scope := relabel scope env }) (RR acc cenv.locals) s₄) E s₃) E s₂ := by
  refine wpAny_newObj_type (wpAny_newFunctionEnv hcell (by intro y hy; simp at hy) (fun h₁ hns₁ hsb₁ => ?_) hkind)
  dsimp only at hns₁ hsb₁ ⊢
  generalize hH2 : s₂.heap.push { cls := .type "list", dict := none, data := .seq ([] : List Value).toArray } = H2 at hns₁ hsb₁ ⊢
  have hC : H2.objs.size = s₂.heap.objs.size + 1 := by rw [← hH2, Heap.size_push]
  generalize hCe : H2.objs.size = C at *
  generalize hDe : s₂.heap.objs.size = D at *
  have hDltC : D < C := hC ▸ Nat.lt_succ_self _
  have hDC : D ≠ C := Nat.ne_of_lt hDltC
  have lt : ∀ {b o}, s₂.heap.get? b = some o → b < D := fun e => hDe ▸ Heap.lt_size e
  have old : ∀ b o, s₂.heap.get? b = some o → h₁.get? b = some o := fun b o e => hsb₁.extBut b o (Nat.ne_of_lt (Nat.lt_trans (lt e) hDltC)) (Heap.get?_push_of_some _ (hH2 ▸ Heap.get?_push_of_some _ e))
  have hacc : h₁.get? D = some (lst []) := hsb₁.extBut _ _ hDC (Heap.get?_push_of_some _ (hH2 ▸ hDe ▸ Heap.get?_push_size _ rfl))
  have fresh₀ : ∀ a, D ≤ a → h₀.get? a = none := fun a ha => by
    cases e : h₀.get? a with
    | none => rfl
    | some o' => exact absurd (lt (F.keep a o' e)) (Nat.not_lt.mpr ha)
  have hD₀ := fresh₀ D (Nat.le_refl _)
  have hC₀ := fresh₀ C (Nat.le_of_lt hDltC)
  have hLlt : L < D := hDe ▸ F.ns.lt
  have hDL : D ≠ L := Nat.ne_of_gt hLlt
  have hCL : C ≠ L := Nat.ne_of_gt (Nat.lt_trans hLlt hDltC)
  have hIlt : I < D := by obtain ⟨_, e, _⟩ := hst; exact lt e
  have hIC : I < C := Nat.lt_trans hIlt hDltC
  have offD : ∀ p ∈ news, p.1 ≠ D := fun p hp => Nat.ne_of_lt (lt (N p hp).1)
  have offC : ∀ p ∈ news, p.1 ≠ C := fun p hp => Nat.ne_of_lt (Nat.lt_trans (lt (N p hp).1) hDltC)
  have loop : ∀ s₃ : Shared, s₃ = { s₂ with heap := h₁, toks := s₂.toks + ([] : List (Str × Value)).length } →
      codeAny (model prog w) A (.compLoop (.ListComp (.Name x pe) [⟨.Tuple [.Name x px, .Name x₂ px₂] tk tp, iter, [], 0⟩] scope pos) 0 (.ref I) (.ref D) (compEnvC scope cl C env))
        (RR (.ref D) C) s₃ := by
    rintro s₃ rfl
    refine LCp.codeAny_compLoop_pair
      (fun k s' => ∃ h' tk i m', s' = { s₂ with heap := h', toks := tk } ∧ i ≤ its.length ∧ k = its.length + 1 - i ∧ h'.IsListIter I ax i ∧ Fr h₀ L h' m ∧ h'.Ns C m' ∧ News h₀ L h' ((D, lst (fs.take i)) :: news)) ?_ (its.length + 1)
      ⟨h₁, _, 0, _, rfl, Nat.zero_le _, rfl, hst.at fun o e => old _ o e, F.keeps old, hns₁, fun p hp => ?_⟩
    · rintro k s' ⟨h', tk, i, m', rfl, hi, rfl, hit, F', hn', N'⟩
      have hl : h'.IsList ax its.toArray := News.isList N' (List.Mem.tail _ hm)
      by_cases hlt : i < its.length
      · refine wpAny_pyNext_list_item hit hl (x := its[i]) (by simp [hlt]) fun h₂ hit₂ hs₂ => ?_
        obtain ⟨t, v₁, v₂, hv, hmt, hf⟩ := hF.2 i its[i] (by simp [hlt])
        rw [hv]
        have k2 : ∀ b o, b ∉ [I] → h'.get? b = some o → h₂.get? b = some o := fun b o hb e => hs₂.extBut b o (by simpa using hb) e
        have N₂ : News h₀ L h₂ ((D, lst (fs.take i)) :: news) := news_but N' k2 fun p hp => by
          rcases List.mem_cons.mp hp with rfl | hp
          · exact Nat.ne_of_gt hIlt
          · exact off p hp
        have ht : h₂.IsList t #[v₁, v₂] := News.isList N₂ (List.Mem.tail _ hmt)
        refine wpAny_letOwnedTupleGo_listiter hit₂ ?_
        refine assign_Tuple_list hh ht rfl rfl fun h₅ he => ?_
        have he' : ∀ b o, h₂.get? b = some o → h₅.get? b = some o := fun b o e => he b o (Nat.ne_of_lt (Heap.lt_size e)) e
        refine assignInOrder_cons (wpAny_assign_Name (wpAny_storeName_local (lookup_relabel_local hx) ((hn'.at' fun o e => hs₂.extBut _ o (show C ≠ I from Nat.ne_of_gt hIC) e).at' fun o e => he' _ o e) (fun h₆ hn₆ hs₆ => ?_) (by simp [compEnvC, relabel, hkind])))
        refine assignInOrder_cons (wpAny_assign_Name (wpAny_storeName_local (lookup_relabel_local hx₂) hn₆ (fun h₃ hn₃ hs₃ => ?_) (by simp [compEnvC, relabel, hkind])))
        refine assignInOrder_nil ?_
        have old3 : ∀ b o, b ≠ C → h₂.get? b = some o → h₃.get? b = some o := fun b o hb e => hs₃.extBut b o hb (hs₆.extBut b o hb (he' b o e))
        have F₃ : Fr h₀ L h₃ m := (((fr_but F' k2 hIL hI₀).keeps he').change hs₆ hCL hC₀).change hs₃ hCL hC₀
        refine ldVarK (v := v₁) hn₃ (by simp [hxx]) ?_ (by simp [compEnvC, relabel, hkind]) (lookup_relabel_local hx) hxd
        have zD := old3 _ _ hDC (N₂ _ (List.Mem.head _)).1
        have hlen : (fs.take i).length = i := by rw [List.length_take, hF.1]; omega
        refine append_at (hsz := by show (fs.take i).toArray.size ≤ sizeLine; rw [List.size_toArray, hlen]; omega) zD fun h₅ hs₅ hD₅ => ?_
        refine ⟨its.length + 1 - (i + 1), by omega, h₅, _, i + 1, _, rfl, hlt, rfl, (hit₂.at fun o e => old3 _ o (Nat.ne_of_lt hIC) e).at fun o e => hs₅.extBut _ o (Nat.ne_of_lt hIlt) e, F₃.change hs₅ hDL hD₀, hn₃.sameBut hs₅ (Ne.symm hDC), fun p hp => ?_⟩
        rcases List.mem_cons.mp hp with rfl | hp
        · refine ⟨hD₅.trans (congrArg some ((lst_snoc (fs.take i) v₁).trans ?_)), hDL, hD₀⟩
          rw [List.take_add_one, hf]; rfl
        · have z := N₂ p (List.Mem.tail _ hp)
          exact ⟨hs₅.extBut _ _ (offD p hp) (old3 _ _ (offC p hp) z.1), z.2⟩
      · obtain rfl : i = its.length := Nat.le_antisymm hi (Nat.not_lt.mp hlt)
        refine wpAny_pyNext_list_end hh hit hl (by simp) fun h₂ he₂ => ?_
        have k2 : ∀ b o, b ∉ [I] → h'.get? b = some o → h₂.get? b = some o := fun b o hb e => he₂ b o (by simpa using hb) e
        rw [← hF.1, List.take_length] at N'
        exact hRR _ _ h₂ _ _ (fr_but F' k2 hIL hI₀) (news_but N' k2 fun p hp => by
          rcases List.mem_cons.mp hp with rfl | hp
          · exact Nat.ne_of_gt hIlt
          · exact off p hp) offD (hn'.at' fun o e => he₂ _ o (show C ≠ I from Nat.ne_of_gt hIC) e) hC₀ hD₀ hCL hDL (Ne.symm hDC) offC
    · rcases List.mem_cons.mp hp with rfl | hp
      · exact ⟨hacc, hDL, hD₀⟩
      · exact ⟨old _ _ (N p hp).1, (N p hp).2⟩
  exact codeAny_compStart_list (loop _ rfl) (wpAny_pyIter_listiter (hst.at fun o e => old _ o e) (loop _ rfl))
theorem comp_first {iter : Expr} {x x₂ y : Str} {pe px px₂ tp py : Pos} {tk} {scope : Scope} {cl : List (Str × Addr)} {pos spos : Pos} {Q : Flow → Shared → Prop} {ax : Addr} {its fs : List Value} {k : Nat} {news : List (Addr × Obj)}
    (F : Fr h₀ L s.heap m) (N : News h₀ L s.heap news) (hm : (ax, W.listOf its.toArray k) ∈ news) (hF : Firsts news its fs) (hsz : its.length ≤ sizeLine) (hLe : env.locals = L)
    (hsw : swapsWith (.ListComp (.Name x pe) [⟨.Tuple [.Name x px, .Name x₂ px₂] tk tp, iter, [], 0⟩] scope pos) (some (.Name y py)) spos.line env = pure true)
    (hclos : closureFor scope env = pure cl) (hcell : ∀ z ∈ scope.names, z.2 ≠ .cell) (hkind : scope.kind = .function)
    (hnames : ∀ z ∈ scope.names, z.2 = .local → scope.names.lookup z.1 = some .local) (hx : scope.names.lookup x = some .local) (hx₂ : scope.names.lookup x₂ = some .local) (hxx : x ≠ x₂) (hxd : (x == ("__debug__" : Str)) = false)
    (hy : env.kindOf y = some .local) (hp : (env.scope.kind == .class || (env.scope.kind == .module && env.locals != env.globals)) = false) (hh : A.handled = none)
    (hs : ∀ x, foldedSetIterable iter env x = pure x)
    (h : wpAny (model prog w) A (eval iter env) (fun v s' => v = .ref ax ∧ s' = s) E s)
    (fin : ∀ D h' tk, Fr h₀ L h' (fun z => if z = y then some (.ref D) else m z) → News h₀ L h' ((D, lst fs) :: news) → (∀ p ∈ news, p.1 ≠ D) → Q .next { s with heap := h', toks := tk }) :
    wpAny (model prog w) A (exec (.Assign [.Name y py] (.ListComp (.Name x pe) [⟨.Tuple [.Name x px, .Name x₂ px₂] tk tp, iter, [], 0⟩] scope pos) spos) env) Q E s := by
  subst hLe
  rw [exec_Assign_Name_used _ _ _ _ hsw]
  refine wpAny_bind (wpAny_standAt (wpAny_bind ?_))
  show wpAny _ A (do let _ ← comprehension (.ListComp (.Name x pe) [⟨.Tuple [.Name x px, .Name x₂ px₂] tk tp, iter, [], 0⟩] scope pos) scope env _ (newList []) false (eval iter env) (some (assign (.Name y py) env))) _ _ s
  refine wpAny_bind (wpAny_mono (wpAny_comprehension_free (use := some (assign (.Name y py) env)) (Q := fun _ s' => Q .next s') rfl hs hclos hkind hnames
    (wpAny_mono h (fun xv s₁ h₁ => ?_) fun _ _ e => e)) (fun _ s' hq => wpAny_pure (wpAny_pure hq)) fun _ _ e => e)
  obtain ⟨rfl, rfl⟩ := h₁
  have hl : s₁.heap.IsList ax its.toArray := News.isList N hm
  refine wpAny_pyIter_list hl ?_
  have up : ∀ b o, s₁.heap.get? b = some o → (s₁.heap.push { cls := .type "list_iterator", data := .fields #[.ref ax, .int 0 0] }).get? b = some o := fun b o e => Heap.get?_push_of_some _ e
  refine comp_block hsz hm hF hcell hkind hx hx₂ hxx hxd hh ⟨_, Heap.get?_push_size _ rfl, rfl, rfl⟩ (F.keeps up) (N.grown up) (Nat.ne_of_lt F.ns.lt) (next_is_new F) (fun p hp => Nat.ne_of_lt (Heap.lt_size (N p hp).1)) ?_
  intro D C h' tk m' F' N' o1 hn hC₀ hD₀ hCL hDL hCD offC
  show wpAny _ A (assign (.Name y py) env (.ref D)) _ _ _
  refine wpAny_assign_Name (wpAny_storeName_local hy F'.ns (fun h₂ hn₂ hs₂ => ?_) hp)
  have hL₀ : h₀.get? env.locals = none := Heap.get?_none_of_le F'.above
  have F₂ : Fr h₀ env.locals h₂ (fun z => if z = y then some (.ref D) else m z) := ⟨hn₂, fun b o e => hs₂.extBut b o (fun q => by rw [q, hL₀] at e; cases e) (F'.keep b o e), F'.above⟩
  refine ⟨m', hn.sameBut hs₂ hCL, fun h'' hs'' => fin D h'' _ (F₂.change hs'' hCL hC₀) (fun p hp => ?_) o1⟩
  have z : h₂.get? p.1 = some p.2 := hs₂.extBut _ _ (N' p hp).2.1 (N' p hp).1
  refine ⟨hs''.extBut _ _ ?_ z, (N' p hp).2⟩
  rcases List.mem_cons.mp hp with rfl | hp
  · exact Ne.symm hCD
  · exact offC p hp
end
end Mine

end

-- part MTail
section
open PySem PySem.W PyProof.Rows PySem.Calls
namespace Mine
set_option maxRecDepth 100000
set_option maxHeartbeats 1000000
theorem intW_line (z : Int) : intW z = lineW (.i z) := by
  show Str.ofString "lines to compare must be str, not " ++ (Str.ofString "int (" ++ numS z ++ Str.ofString ")") = Str.ofString "lines to compare must be str, not " ++ Str.ofString "int" ++ Str.ofString " (" ++ numS z ++ Str.ofString ")"
  rw [show Str.ofString "int (" = Str.ofString "int" ++ Str.ofString " (" by decide +kernel]
  simp only [Str.append_assoc]
theorem told_fi (φ : Fi) : told φ.dd = φ.due := by
  cases φ with
  | first θ => cases q : θ.isS <;> simp [Fi.dd, Fi.item, Fi.due, told, q]
  | nokey => rfl
  | text z => rfl
  | octs z => exact congrArg some (intW_line z).symm
  | rng z => exact congrArg some (intW_line z).symm
  | empty => rfl
theorem told_ok {d : Dd} (h : told d = none) : d = .ok := by
  cases d with
  | ok => rfl
  | key => cases h
  | ty m => cases h
theorem firstD_head {d : Dd} {r : List Dd} (h : d ≠ .ok) : firstD (d :: r) = d := by
  cases d with
  | ok => exact absurd rfl h
  | key => rfl
  | ty m => rfl
/-- the first fault, where the faults ahead of place i are mended. -/
theorem firstD_mid {ds D0 : List Dd} {i : Nat} {d : Dd} (h1 : firstD (ds.take i) = .ok) (h2 : ds.drop i = D0.drop i) (hd : D0[i]? = some d) (hne : d ≠ .ok) : firstD ds = d := by
  obtain ⟨hl, he⟩ := List.getElem?_eq_some_iff.mp hd
  rw [← List.take_append_drop i ds, firstD_app h1, h2, List.drop_eq_getElem_cons hl, he, firstD_head hne]
theorem drop_next {ds D0 : List Dd} {i : Nat} (h2 : ds.drop i = D0.drop i) : ds.drop (i + 1) = D0.drop (i + 1) := by
  rw [← List.drop_drop, ← List.drop_drop, h2]
theorem at_of_drop {ds D0 : List Dd} {i : Nat} (h2 : ds.drop i = D0.drop i) : ds[i]? = D0[i]? := by
  have e : ∀ l : List Dd, l[i]? = (l.drop i)[0]? := fun l => by simp
  rw [e, e, h2]
theorem firstD_skip {ds D0 : List Dd} {i : Nat} (h1 : firstD (ds.take i) = .ok) (h2 : ds.drop i = D0.drop i) (hd : D0[i]? = some .ok) : firstD (ds.take (i + 1)) = .ok := by
  rw [List.take_add_one, at_of_drop h2, hd, firstD_app h1]
  rfl
theorem firstD_set {ds D0 : List Dd} {i : Nat} (h1 : firstD (ds.take i) = .ok) (h2 : ds.drop i = D0.drop i) (hi : i < ds.length) : firstD ((ds.set i .ok).take (i + 1)) = .ok := by
  rw [List.take_add_one, List.take_set, List.set_eq_of_length_le (by rw [List.length_take]; exact Nat.min_le_left _ _), firstD_app h1]
  simp [hi, firstD]
theorem drop_set {ds D0 : List Dd} {i : Nat} (h2 : ds.drop i = D0.drop i) : (ds.set i .ok).drop (i + 1) = D0.drop (i + 1) := by
  rw [List.drop_set_of_lt (Nat.lt_succ_self _), drop_next h2]
/-- the things, with what is due of each. -/
def Line (w : World) (nw : List (Addr × Obj)) (us : List Value) (ds : List Dd) : Prop :=
  ∃ x y vs φ ψ θs, us = x :: y :: vs ∧ ds = Fi.dd φ :: Fi.dd ψ :: List.map Th.dd θs ∧ Fi.Is w nw x φ ∧ Fi.Is w nw y ψ ∧ vs.length = θs.length ∧ ∀ (i : Nat) (v : Value), vs[i]? = some v → ∃ θ : Th, θs[i]? = some θ ∧ θ.Is nw v ∧ θ.ok
theorem Line.len {w : World} {nw : List (Addr × Obj)} {us : List Value} {ds : List Dd} (h : Line w nw us ds) : us.length = ds.length := by
  obtain ⟨x, y, vs, φ, ψ, θs, rfl, rfl, _, _, hl, _⟩ := h
  simp [hl]
theorem Line.mono {w : World} {nw nw' : List (Addr × Obj)} {us : List Value} {ds : List Dd} (hs : ∀ p ∈ nw, p ∈ nw') (h : Line w nw us ds) : Line w nw' us ds := by
  obtain ⟨x, y, vs, φ, ψ, θs, e1, e2, hx, hy, hl, hv⟩ := h
  exact ⟨x, y, vs, φ, ψ, θs, e1, e2, hx.mono hs, hy.mono hs, hl, fun i v q => let ⟨θ, a, b, c⟩ := hv i v q; ⟨θ, a, b.mono hs, c⟩⟩
theorem Line.set1 {w : World} {nw : List (Addr × Obj)} {us : List Value} {ds : List Dd} {i : Nat} {a : Addr} {t : Tok} (h : Line w nw us ds) (hi : i < 2) (hm : (a, listO [.str (Str.ofString "a") t, .none]) ∈ nw) :
    Line w nw (us.set i (.ref a)) (ds.set i .ok) := by
  obtain ⟨x, y, vs, φ, ψ, θs, rfl, rfl, hx, hy, hl, hv⟩ := h
  have hf : Fi.Is w nw (.ref a) (.first (.s (Str.ofString "a"))) := ⟨a, _, [.none], rfl, ⟨t, rfl⟩, trivial, by decide, Or.inl hm⟩
  match i, hi with
  | 0, _ => exact ⟨.ref a, y, vs, .first (.s (Str.ofString "a")), ψ, θs, rfl, rfl, hf, hy, hl, hv⟩
  | 1, _ => exact ⟨x, .ref a, vs, φ, .first (.s (Str.ofString "a")), θs, rfl, rfl, hx, hf, hl, hv⟩
theorem Line.set2 {w : World} {nw : List (Addr × Obj)} {us : List Value} {ds : List Dd} {i : Nat} {t : Tok} (h : Line w nw us ds) (hi : 2 ≤ i) : Line w nw (us.set i (.str (Str.ofString "a") t)) (ds.set i .ok) := by
  obtain ⟨x, y, vs, φ, ψ, θs, rfl, rfl, hx, hy, hl, hv⟩ := h
  obtain ⟨j, rfl⟩ : ∃ j, i = j + 2 := ⟨i - 2, by omega⟩
  refine ⟨x, y, vs.set j (.str (Str.ofString "a") t), φ, ψ, θs.set j (.s (Str.ofString "a")), rfl, ?_, hx, hy, by simp [hl], ?_⟩
  · rw [List.map_set]; rfl
  · intro k v q
    rw [List.getElem?_set] at q ⊢
    by_cases hk : j = k
    · subst hk
      simp only [if_true] at q ⊢
      by_cases hj : j < vs.length
      · rw [if_pos hj] at q
        rw [if_pos (hl ▸ hj)]
        exact ⟨_, rfl, ⟨t, (Option.some.inj q).symm⟩, trivial⟩
      · rw [if_neg hj] at q; cases q
    · rw [if_neg hk] at q ⊢
      exact hv k v q
section
variable {prog : Program} {w : World} {A : Around} {E : Value → Shared → Prop} {s : Shared} {h₀ : Heap} {L D : Addr} {m : Str → Option Value} {R : List (Addr × Obj)}
theorem set_K {us : List Value} {n i : Nat} {t : Tok} {v : Value} {Q : Unit → Shared → Prop} (F : Fr h₀ L s.heap m) (N : News h₀ L s.heap ((D, W.listOf us.toArray n) :: R)) (hU : ∀ p ∈ R, p.1 ≠ D) (hi : i < us.length) (hb : us.length ≤ 1000)
    (h : ∀ h', Fr h₀ L h' m → News h₀ L h' ((D, W.listOf (us.set i v).toArray n) :: R) → Q () { s with heap := h' }) : wpAny (model prog w) A (setItem (.ref D) (.int (i : Int) t) v) Q E s := by
  have z := N _ (List.Mem.head _)
  refine ki_setAt z.1 (Int.natCast_nonneg _) (by omega) (by rw [List.size_toArray]; omega) (h _ (F.change (Heap.SameBut.update ..) z.2.1 z.2.2) (ki_turn (pre := []) _ N (by simp) hU ?_ ?_))
  · show us.toArray.setIfInBounds i v = (us.set i v).toArray
    apply Array.toList_inj.mp
    simp
  · simp
end
theorem told_call {w : World} {d u : Nat} {cn : Str} {cs : Scope} {a : Addr} {ccd : Value} {s : Shared} {mean : ExcName → Option Value} {mg mb : Str → Option Value} {Q : Value → Shared → Prop} {E : Value → Shared → Prop}
    {A₀ : Around} {h₀ : Heap} {L lt : Addr} {ln : Nat} {m : Str → Option Value} {news : List (Addr × Obj)} {us : List Value} {ds : List Dd}
    (B : Below A₀ h₀ [] h₀) (F : Fr h₀ L s.heap m) (N : News h₀ L s.heap news) (X : (Mine.hd.heap_39 w.params).In h₀) (T : Top Mine.hd.view_39 (looseW Mine.hd.view_39 []) mean mg mb h₀) (hd : d < 350) (hu : u < 60)
    (hck : cs.kind = .function) (hm : (lt, W.listOf us.toArray ln) ∈ news) (hl : Line w news us ds) (hb : us.length ≤ 1000)
    (h : ∀ v h' tk, DueOpt (told (firstD ds)) v → Fr h₀ L h' m → News h₀ L h' news → Q v { s with heap := h', toks := tk }) :
    wpAny (model PySem.Challenge.rw_dm0046_01.row.prog w) (AR d u [envOf cn cs L a ccd]) (call (.ref 42) [.ref lt]) Q E s := by
  obtain ⟨x, y, vs, φ, ψ, θs, rfl, rfl, hx, hy, hl, hv⟩ := hl
  have hvl : vs.length ≤ 1000 := by simp only [List.length_cons] at hb; omega
  exact wpAny_call (told_code (t0 := 0) (ln := ln) B F N X T hd hu hck hm rfl rfl hx hy hvl hv hl h)
/-- what the entries of places bear. -/
def Plc (nw : List (Addr × Obj)) (Qs : List Value) (D0 : List Dd) : Prop :=
  Qs.length = D0.length ∧ ∀ (i : Nat) (q : Value), Qs[i]? = some q → ∃ (a : Addr) (v D : Value) (d : Dd), q = .ref a ∧ (a, listO [v, D]) ∈ nw ∧ D0[i]? = some d ∧ DueOpt (told d) D
theorem Plc.mono {nw nw' : List (Addr × Obj)} {Qs : List Value} {D0 : List Dd} (hs : ∀ p ∈ nw, p ∈ nw') (h : Plc nw Qs D0) : Plc nw' Qs D0 :=
  ⟨h.1, fun i q hq => let ⟨a, v, D, d, e, hm, r⟩ := h.2 i q hq; ⟨a, v, D, d, e, hs _ hm, r⟩⟩
end Mine

end

-- part MLaw
section
open PySem PySem.W PyProof.Rows PySem.Calls
namespace Mine
set_option maxRecDepth 100000
set_option maxHeartbeats 8000000
theorem fillL : (fun (_ : OpenLaw) (_ : Params → Frag) => True) PySem.Challenge.rw_dm0046_01 Mine.hd.heap_39 := by
  k_fill
  trivial
theorem file_call {w : World} {d u : Nat} {fr : List Env} {s : Shared} {mean : ExcName → Option Value} {mg mb : Str → Option Value} {n : Int} {t : Tok} {Q : Value → Shared → Prop} {E : Value → Shared → Prop}
    {h₀ : Heap} {L : Addr} {m : Str → Option Value} {news : List (Addr × Obj)}
    (F : Fr h₀ L s.heap m) (N : News h₀ L s.heap news) (X : (Mine.hd.heap_39 w.params).In h₀) (T : Top Mine.hd.view_39 (looseW Mine.hd.view_39 []) mean mg mb h₀) (hd : d < 400) (hu : u < 80)
    (h : ∀ h' tk nw l x D φ, Fr h₀ L h' m → News h₀ L h' (nw ++ news) → (l, listO [x, D]) ∈ nw → Fi.Is w nw x φ → DueOpt φ.due D → (∀ p ∈ nw, ∀ q ∈ news, p.1 ≠ q.1) → Q (.ref l) { s with heap := h', toks := tk }) :
    wpAny (model PySem.Challenge.rw_dm0046_01.row.prog w) (AR d u fr) (call (.ref 35) [.int n t]) Q E s := by
  refine wpAny_call (file_code (X.keeps F.keep) (T.keeps F.keep) hd hu ?_)
  intro h' tk nw l x D φ kp ft hm his hdu
  exact h h' tk nw l x D φ (F.keeps kp) (News.app (ft.toNews F) (N.grown kp)) hm his hdu (fun p hp q hq => ne_of_fresh (ft p hp).2 (N q hq).1)
local macro_rules | `(tactic| walk_at "call type:range") => `(tactic| (k_here; k_dflt (refine' range1_K ?F ?N ?_; (case F => k_asm); (case N => k_asm)); intro r' h' tk' t' u' v' F' N' l1; (try k_lt l1); (try k_sweep)))
local macro_rules | `(tactic| walk_at "m1") => `(tactic| first | (k_unfold; (try dsimp only)) | walk1 | (dsimp only; walk1))
abbrev mapOf {h₀ h : Heap} {L : Addr} {m : Str → Option Value} (_ : Fr h₀ L h m) : Str → Option Value := m
theorem pack {h₀ h : Heap} {L pl : Addr} {lo : Obj} {n1 n2 n3 : List (Addr × Obj)} (N : News h₀ L h ((pl, lo) :: (n2 ++ (n1 ++ n3)))) (l1 : ∀ p ∈ n2 ++ (n1 ++ n3), p.1 < pl) :
    ∃ R, News h₀ L h ((pl, lo) :: R) ∧ (∀ p ∈ n1, p ∈ R) ∧ (∀ p ∈ n2, p ∈ R) ∧ (∀ p ∈ n3, p ∈ R) ∧ ∀ p ∈ R, p.1 ≠ pl :=
  ⟨_, N, fun _ hp => List.mem_append_right _ (List.mem_append_left _ hp), fun _ hp => List.mem_append_left _ hp, fun _ hp => List.mem_append_right _ (List.mem_append_right _ hp), fun p hp => Nat.ne_of_lt (l1 p hp)⟩
/-- the four names that the first loop stores. -/
abbrev shp (u m : Str → Option Value) : Str → Option Value := fun z => if z = Str.ofString "look" then u z else if z = Str.ofString "kind" then u z else if z = Str.ofString "thing" then u z else if z = Str.ofString "x" then u z else m z
theorem shp_of {m' m : Str → Option Value} (h : ∀ z, z ≠ Str.ofString "look" → z ≠ Str.ofString "kind" → z ≠ Str.ofString "thing" → z ≠ Str.ofString "x" → m' z = m z) : m' = shp m' m := by
  funext z
  unfold shp
  split
  · rfl
  split
  · rfl
  split
  · rfl
  split
  · rfl
  · exact h z (by assumption) (by assumption) (by assumption) (by assumption)
/-- the name that the second loop stores. -/
abbrev shk (u m : Str → Option Value) : Str → Option Value := fun z => if z = Str.ofString "k" then u z else m z
theorem shk_of {m' m : Str → Option Value} (h : ∀ z, z ≠ Str.ofString "k" → m' z = m z) : m' = shk m' m := by
  funext z
  unfold shk
  split
  · rfl
  · exact h z (by assumption)
theorem nm {α : Type} (a : α) : ∃ b, b = a := ⟨a, rfl⟩
abbrev headA {h₀ h : Heap} {L a : Addr} {o : Obj} {r : List (Addr × Obj)} (_ : News h₀ L h ((a, o) :: r)) : Addr := a
theorem News.tail' {h₀ h : Heap} {L : Addr} {p : Addr × Obj} {r : List (Addr × Obj)} (N : News h₀ L h (p :: r)) : News h₀ L h r := fun q hq => N q (List.Mem.tail _ hq)
theorem News.sub {h₀ h : Heap} {L : Addr} {n n' : List (Addr × Obj)} (N : News h₀ L h n) (hs : ∀ p ∈ n', p ∈ n) : News h₀ L h n' := fun q hq => N q (hs q hq)
theorem swapA {h₀ h : Heap} {L : Addr} {x y : Addr × Obj} {own R : List (Addr × Obj)} (N : News h₀ L h (x :: (own ++ y :: R))) : News h₀ L h (y :: x :: (own ++ R)) := News.sub N (by
  intro p hp
  simp only [List.mem_cons, List.mem_append] at hp ⊢
  rcases hp with hp | hp | hp | hp
  · exact Or.inr (Or.inr (Or.inl hp))
  · exact Or.inl hp
  · exact Or.inr (Or.inl hp)
  · exact Or.inr (Or.inr (Or.inr hp)))
theorem swapB {h₀ h : Heap} {L : Addr} {x y : Addr × Obj} {own R : List (Addr × Obj)} (N : News h₀ L h (y :: x :: (own ++ R))) : News h₀ L h (own ++ y :: x :: R) := News.sub N (by
  intro p hp
  simp only [List.mem_cons, List.mem_append] at hp ⊢
  rcases hp with hp | hp | hp | hp
  · exact Or.inr (Or.inr (Or.inl hp))
  · exact Or.inl hp
  · exact Or.inr (Or.inl hp)
  · exact Or.inr (Or.inr (Or.inr hp)))
theorem swapC {h₀ h : Heap} {L : Addr} {y : Addr × Obj} {own R : List (Addr × Obj)} (N : News h₀ L h (own ++ y :: R)) : News h₀ L h (y :: (own ++ R)) := News.sub N (by
  intro p hp
  simp only [List.mem_cons, List.mem_append] at hp ⊢
  rcases hp with hp | hp | hp
  · exact Or.inr (Or.inl hp)
  · exact Or.inl hp
  · exact Or.inr (Or.inr hp))
theorem swapD {h₀ h : Heap} {L : Addr} {y : Addr × Obj} {own R : List (Addr × Obj)} (N : News h₀ L h (y :: (own ++ R))) : News h₀ L h (own ++ y :: R) := News.sub N (by
  intro p hp
  simp only [List.mem_cons, List.mem_append] at hp ⊢
  rcases hp with hp | hp | hp
  · exact Or.inr (Or.inl hp)
  · exact Or.inl hp
  · exact Or.inr (Or.inr hp))
theorem ints_at {vs : List Value} {ns : List Int} (h : IntsAre vs ns) {i : Nat} {v : Value} (hv : vs[i]? = some v) : ∃ n t, v = .int n t := by
  induction h generalizing i with
  | nil => simp at hv
  | cons n t _ ih =>
    cases i with
    | zero => exact ⟨n, t, by simpa using hv.symm⟩
    | succ i => exact ih (by simpa using hv)
/-- an entry of places: a list of a thing and what is due. -/
def Ent (nw : List (Addr × Obj)) (q : Value) (P : Value → Prop) (du : Option Str) : Prop := ∃ a v D, q = .ref a ∧ (a, listO [v, D]) ∈ nw ∧ P v ∧ DueOpt du D
def Ents (nw : List (Addr × Obj)) (qs : List Value) (θs : List Th) : Prop := qs.length = θs.length ∧ ∀ (i : Nat) (q : Value), qs[i]? = some q → ∃ θ : Th, θs[i]? = some θ ∧ θ.ok ∧ Ent nw q (fun v => θ.Is nw v) (told θ.dd)
theorem Ents.mono {nw nw' : List (Addr × Obj)} {qs : List Value} {θs : List Th} (hs : ∀ p ∈ nw, p ∈ nw') (h : Ents nw qs θs) : Ents nw' qs θs :=
  ⟨h.1, fun i q hq => let ⟨θ, a, b, ad, v, D, e, hm, his, hd⟩ := h.2 i q hq; ⟨θ, a, b, ad, v, D, e, hs _ hm, his.mono hs, hd⟩⟩
theorem Ents.push {nw : List (Addr × Obj)} {qs : List Value} {θs : List Th} {q : Value} {θ : Th} (h : Ents nw qs θs) (ok : θ.ok) (e : Ent nw q (fun v => θ.Is nw v) (told θ.dd)) : Ents nw (qs ++ [q]) (θs ++ [θ]) := by
  refine ⟨by simp [h.1], fun i q' hq => ?_⟩
  by_cases hi : i < qs.length
  · rw [List.getElem?_append_left hi] at hq
    obtain ⟨θ', a, b⟩ := h.2 i q' hq
    exact ⟨θ', by rw [List.getElem?_append_left (by rw [← h.1]; exact hi)]; exact a, b⟩
  · rw [List.getElem?_append_right (by omega)] at hq
    have h0 : i - qs.length = 0 := by
      cases hk : i - qs.length with
      | zero => rfl
      | succ k => rw [hk] at hq; simp at hq
    rw [h0] at hq
    simp at hq
    subst hq
    refine ⟨θ, ?_, ok, e⟩
    rw [List.getElem?_append_right (by rw [← h.1]; omega), ← h.1, h0]
    rfl
theorem Ents.nil (nw : List (Addr × Obj)) : Ents nw [] [] := ⟨rfl, fun i q h => by simp at h⟩
theorem Ents.firsts {nw : List (Addr × Obj)} : ∀ {qs : List Value} {θs : List Th}, Ents nw qs θs → ∃ ws : List Value, Firsts nw qs ws ∧ ws.length = θs.length ∧ ∀ (i : Nat) (v : Value), ws[i]? = some v → ∃ θ : Th, θs[i]? = some θ ∧ θ.Is nw v ∧ θ.ok
  | [], [], _ => ⟨[], ⟨rfl, fun i v h => by simp at h⟩, rfl, fun i v h => by simp at h⟩
  | [], _ :: _, h => by have := h.1; simp at this
  | _ :: _, [], h => by have := h.1; simp at this
  | q :: qs, θ :: θs, h => by
    obtain ⟨ws, hf, hl, hw⟩ := Ents.firsts (qs := qs) (θs := θs) ⟨by have := h.1; simpa using this, fun i q' hq => by simpa using h.2 (i + 1) q' (by simpa using hq)⟩
    obtain ⟨θ', e, ok, a, v, D, rfl, hm, his, hd⟩ := h.2 0 q rfl
    obtain rfl : θ = θ' := Option.some.inj e
    refine ⟨v :: ws, ⟨by simp [hf.1], fun i u hu => ?_⟩, by simp [hl], fun i u hu => ?_⟩
    · cases i with
      | zero => exact ⟨a, v, D, by simpa using hu.symm, hm, rfl⟩
      | succ i => simpa using hf.2 i u (by simpa using hu)
    · cases i with
      | zero =>
        obtain rfl : v = u := by simpa using hu
        exact ⟨θ, rfl, his, ok⟩
      | succ i => simpa using hw i u (by simpa using hu)
theorem start {w : World} {nw : List (Addr × Obj)} {qs : List Value} {θs : List Th} {x0 x1 D0 D1 : Value} {p0 p1 : Addr} {φ ψ : Fi} (h : Ents nw qs θs) (hφ : Fi.Is w nw x0 φ) (hψ : Fi.Is w nw x1 ψ) (hm0 : (p0, listO [x0, D0]) ∈ nw) (hm1 : (p1, listO [x1, D1]) ∈ nw) (hd0 : DueOpt φ.due D0) (hd1 : DueOpt ψ.due D1) :
    ∃ (ws : List Value) (ds : List Dd), Firsts nw (.ref p0 :: .ref p1 :: qs) ws ∧ Line w nw ws ds ∧ Plc nw (.ref p0 :: .ref p1 :: qs) ds := by
  obtain ⟨ws, hf, hl, hw⟩ := h.firsts
  refine ⟨x0 :: x1 :: ws, φ.dd :: ψ.dd :: θs.map Th.dd, ⟨by simp [hf.1], ?_⟩, ⟨x0, x1, ws, φ, ψ, θs, rfl, rfl, hφ, hψ, hl, hw⟩, by simp [h.1], ?_⟩
  · intro i v hv
    match i with
    | 0 => exact ⟨p0, x0, D0, by simpa using hv.symm, hm0, rfl⟩
    | 1 => exact ⟨p1, x1, D1, by simpa using hv.symm, hm1, rfl⟩
    | i + 2 => simpa using hf.2 i v (by simpa using hv)
  · intro i v hv
    match i with
    | 0 => exact ⟨p0, x0, D0, φ.dd, by simpa using hv.symm, hm0, rfl, by rw [told_fi]; exact hd0⟩
    | 1 => exact ⟨p1, x1, D1, ψ.dd, by simpa using hv.symm, hm1, rfl, by rw [told_fi]; exact hd1⟩
    | i + 2 =>
      obtain ⟨θ, e, ok, a, v', D, e', hm, his, hd⟩ := h.2 i v (by simpa using hv)
      exact ⟨a, v', D, θ.dd, e', hm, by simp [e], hd⟩
/-- what the walk of the law must end in. -/
def EndOk (s₁ : Shared) (L : Addr) (f : Flow) (s' : Shared) : Prop := ∃ h' tk m', f = .ret (.bool true) ∧ s' = { s₁ with heap := h', toks := tk } ∧ Fr s₁.heap L h' m'
theorem all : PySem.Challenge.rw_dm0046_01.Holds := Mine.hd (by
  k_go0
  rename Fr _ _ _ _ => F
  rename News _ _ _ _ => N
  rename Top _ _ _ _ _ _ => T
  rename Below _ _ _ _ => B0
  rename Frag.In _ _ => X
  rename IntsAre _ _ => hI
  rename Heap.IsList _ _ _ => hl
  rename Shared => s₁
  rename (¬ _ < _) => hlen
  refine wpAny_mono (Q := EndOk s₁ s₁.heap.objs.size) (E := fun _ _ => False) ?_ ?_ (fun _ _ x => x.elim)
  rotate_left
  · rintro f s' ⟨h', tk, m', rfl, rfl, F'⟩
    clear F
    wrow_close
  have hlen63 : (_ : List Int).length ≤ 63 := Nat.le_of_not_lt (fun q => hlen (by exact_mod_cast q))
  repeat ((fail_if_success (with_reducible show wpAny _ _ (call (Value.ref 35) _ _) _ _ _)); walk_at "m1")
  rename Fr _ _ _ _ => F
  rename News _ _ _ _ => N
  refine file_call (d := 1 + claimMargin + 1) (u := 4 + 3) F N X T (by decide) (by decide) ?_
  intro h1 tk1 nw1 p0 x0 D0 φ F1 N1 hm0 hφ hd0 hne0
  clear F N
  repeat ((fail_if_success (with_reducible show wpAny _ _ (call (Value.ref 35) _ _) _ _ _)); walk_at "m1")
  refine file_call (d := 1 + claimMargin + 1) (u := 4 + 3) F1 N1 X T (by decide) (by decide) ?_
  intro h2 tk2 nw2 p1 x1 D1 ψ F2 N2 hm1 hψ hd1 hne1
  clear F1 N1
  repeat ((fail_if_success (with_reducible show wpAny _ _ (exec (Stmt.For _ _ _ _ _) _) _ _ _)); walk_at "m1")
  rename Fr _ _ _ _ => F
  rename News _ _ _ _ => N
  rename IntsAre _ _ => hnI
  obtain ⟨R0, N0, s1, s2, s3, ne0⟩ := pack N (by assumption)
  have hnum := News.isList N0 (List.Mem.tail _ (s3 _ (List.Mem.head _)))
  have hφ0 : Fi.Is _ R0 x0 φ := hφ.mono s1
  have hψ0 : Fi.Is _ R0 x1 ψ := hψ.mono s2
  have hm00 := s1 _ hm0
  have hm10 := s2 _ hm1
  clear N hφ hψ hm0 hm1 s1 s2 s3 hne0 hne1
  obtain ⟨pl, hpl⟩ := nm (headA N0)
  dsimp only [headA] at hpl
  subst hpl
  refine For_invV s₁.heap rfl rfl ?_
  repeat ((fail_if_success (with_reducible show wpAny _ _ (pyIter _) _ _ _)); walk_at "m1")
  rename Fr _ _ _ _ => F1
  rename News _ _ _ _ => N1
  rename IntsAre _ _ => hwI
  obtain ⟨ls, hls⟩ := nm (headA N1)
  dsimp only [headA] at hls
  subst hls
  have hplls : pl ≠ ls := Nat.ne_of_lt (by assumption : pl < ls ∧ AllLt ls R0).1
  refine iter_lst (fun i m₁ nw₁ => ∃ ln qs rest θs u, nw₁ = (pl, W.listOf (Value.ref p0 :: Value.ref p1 :: qs).toArray ln) :: rest ∧ (∀ p ∈ R0, p ∈ rest) ∧ (∀ p ∈ rest, p.1 ≠ pl) ∧ θs.length = i ∧ Ents rest qs θs ∧ m₁ = shp u (mapOf F1))
    rfl (News.isList N1 (List.Mem.head _)) (N1 _ (List.Mem.head _)).2.1 F1 (News.tail' N1) ⟨0, [], R0, [], mapOf F1, rfl, fun _ h => h, ne0, rfl, Ents.nil _, shp_of (fun _ _ _ _ _ => rfl)⟩ ?_ ?_
  · rintro I i v m₁ news₁ h3 tk3 own hv ⟨ln, qs, rest, θs, u, rfl, hsub, hne, hli, hents, rfl⟩ hnI' hown ⟨oI, hIo⟩ F3 N3
    obtain ⟨n, t, rfl⟩ := ints_at hwI hv
    dsimp only [shp, mapOf] at F3
    repeat ((fail_if_success (with_reducible show wpAny _ _ (call (Value.ref 28) _ _) _ _ _)); walk_at "m1")
    refine thing_call (d := 1 + claimMargin + 1) (u := 4 + 3) F3 N3 X T (by decide) (by decide) ?_
    intro h4 tk4 nw4 l4 v4 θ t1 t2 F4 N4 hl4 his ok hne4
    repeat ((fail_if_success (with_reducible show wpAny _ _ (getMethod _ _ _) _ _ _)); walk_at "m1")
    rename Fr _ _ _ _ => F5
    rename News _ _ _ _ => N5
    refine listMethod_K N5 (List.mem_append_right _ (List.mem_append_right _ (List.Mem.head _))) PySem.F.slot_list_append PySem.F.type_list_append ?_
    have hkl := θ.kind_len
    have hll := Th.look_len ok
    have hl1 := litD
    repeat ((fail_if_success (with_reducible show wpAny _ _ (eval (Expr.IfExp _ _ _ _) _) _ _ _)); walk_at "m1")
    refine cut_toks (fun v => DueOpt (told θ.dd) v) ?_ ?_
    · repeat' (walk_at "m1")
      · rw [show θ.dd = .ok by simp only [Th.dd, Th.kind_str (by assumption), if_true]]
        exact rfl
      · rw [show θ.dd = .ty (argW θ) by simp only [Th.dd, Th.kind_not (by assumption), Bool.false_eq_true, if_false]]
        exact ⟨_, rfl⟩
    intro D tk5 hD
    repeat ((fail_if_success (with_reducible show wpAny _ _ (call (Value.builtin "list.append") _ _) _ _ _)); walk_at "m1")
    rename Fr _ _ _ _ => F6
    rename News _ _ _ _ => N6
    obtain ⟨q, hq⟩ := nm (headA N6)
    dsimp only [headA] at hq
    subst hq
    have hlt : ∀ p ∈ nw4 ++ (own ++ (pl, W.listOf (Value.ref p0 :: Value.ref p1 :: qs).toArray ln) :: rest), p.1 < q := by assumption
    have hqpl : q ≠ pl := Nat.ne_of_gt (hlt _ (List.mem_append_right _ (List.mem_append_right _ (List.Mem.head _))))
    have hqI : q ≠ I := Nat.ne_of_gt (hlt _ (List.mem_append_right _ (List.mem_append_left _ hIo)))
    have hplI : pl ≠ I := hnI' _ (List.Mem.head _)
    have N7 : News s₁.heap s₁.heap.objs.size _ ((pl, W.listOf (Value.ref p0 :: Value.ref p1 :: qs).toArray ln) :: ((q, listO [v4, D]) :: (nw4 ++ (own ++ rest)))) := News.sub N6 (by
      intro p hp
      simp only [List.mem_cons, List.mem_append] at hp ⊢
      rcases hp with hp | hp | hp | hp | hp
      · exact Or.inr (Or.inr (Or.inr (Or.inl hp)))
      · exact Or.inl hp
      · exact Or.inr (Or.inl hp)
      · exact Or.inr (Or.inr (Or.inl hp))
      · exact Or.inr (Or.inr (Or.inr (Or.inr hp))))
    have hU : ∀ p ∈ (q, listO [v4, D]) :: (nw4 ++ (own ++ rest)), p.1 ≠ pl := by
      intro p hp
      simp only [List.mem_cons, List.mem_append] at hp
      rcases hp with rfl | hp | hp | hp
      · exact hqpl
      · exact hne4 p hp _ (List.mem_append_right _ (List.Mem.head _))
      · rcases hown p hp with e | e
        · rw [e]; exact hplI.symm
        · rw [e]; exact hplls.symm
      · exact hne p hp
    have hib : i < 1000 := by
      have a1 := (List.getElem?_eq_some_iff.mp hv).1
      have a2 := hwI.length
      simp only [List.length_drop, List.length_append, List.length_cons, List.length_nil] at a2
      omega
    refine append_K F6 N7 (Upd.head hU) ?_ (by simp only [List.size_toArray, List.length_cons]; rw [hents.1, hli, sizeLine_eq]; omega)
    intro h7 F7 N8
    rw [List.push_toArray] at N8
    repeat ((fail_if_success (with_reducible show TurnEnd _ _ _ _ _ _ _ _ _)); walk_at "m1")
    have hents' : Ents ((q, listO [v4, D]) :: (nw4 ++ rest)) (qs ++ [Value.ref q]) (θs ++ [θ]) :=
      (hents.mono (fun p hp => List.Mem.tail _ (List.mem_append_right _ hp))).push ok ⟨q, v4, D, rfl, List.Mem.head _, his.mono (fun p hp => List.Mem.tail _ (List.mem_append_left _ hp)), hD⟩
    refine TurnEnd.intro (news' := (pl, W.listOf (Value.ref p0 :: Value.ref p1 :: (qs ++ [Value.ref q])).toArray (ln + 1)) :: ((q, listO [v4, D]) :: (nw4 ++ rest))) F7 (News.sub N8 ?_) ?_
      ⟨ln + 1, qs ++ [Value.ref q], (q, listO [v4, D]) :: (nw4 ++ rest), θs ++ [θ], _, rfl, fun p hp => List.Mem.tail _ (List.mem_append_right _ (hsub p hp)), ?_, by simp [hli], hents', shp_of ?_⟩
    · intro p hp
      simp only [List.mem_cons, List.mem_append] at hp ⊢
      rcases hp with hp | hp | hp | hp | hp
      · exact Or.inr (Or.inr (Or.inr (Or.inl hp)))
      · exact Or.inl hp
      · exact Or.inr (Or.inl hp)
      · exact Or.inr (Or.inr (Or.inl hp))
      · exact Or.inr (Or.inr (Or.inr (Or.inr hp)))
    · intro p hp
      simp only [List.mem_cons, List.mem_append] at hp
      rcases hp with rfl | rfl | hp | hp
      · exact hplI
      · exact hqI
      · exact hne4 p hp _ (List.mem_append_left _ hIo)
      · exact hnI' p (List.Mem.tail _ hp)
    · intro p hp
      simp only [List.mem_cons, List.mem_append] at hp
      rcases hp with rfl | hp | hp
      · exact hqpl
      · exact hne4 p hp _ (List.mem_append_right _ (List.Mem.head _))
      · exact hne p hp
    · intro z e1 e2 e3 e4
      simp [e1, e2, e3, e4]
  · rintro m₁ news₁ h8 tk8 ⟨ln, qs, rest, θs, u, rfl, hsub, hne, hli, hents, rfl⟩ F8 N8
    have hwl := hwI.length
    simp only [List.length_drop, List.length_append, List.length_cons, List.length_nil] at hwl
    have hqb : qs.length ≤ 100 := by rw [hents.1, hli]; omega
    obtain ⟨ws, ds, hF, hL, hP⟩ := start hents (hφ0.mono hsub) (hψ0.mono hsub) (hsub _ hm00) (hsub _ hm10) hd0 hd1
    obtain ⟨Qs, hQs⟩ := nm (Value.ref p0 :: Value.ref p1 :: qs)
    have hQl : Qs.length ≤ 110 := by rw [hQs]; simp only [List.length_cons]; omega
    rw [← hQs] at N8 hF hP
    clear hφ0 hψ0 hm00 hm10 hsub hwl hli hents hqb hQs hd0 hd1 N1 hnum
    dsimp only [shp, mapOf] at F8
    dsimp only
    change Fr s₁.heap s₁.heap.objs.size _ _ at F8
    change News s₁.heap s₁.heap.objs.size _ _ at N8
    repeat ((fail_if_success (with_reducible show wpAny _ _ (exec (Stmt.Assign _ _ _) _) _ _ _)); walk_at "m1")
    refine comp_first F8 N8 (List.Mem.head _) ⟨hF.1, fun i v hv => let ⟨t, a, b, e, hm, r⟩ := hF.2 i v hv; ⟨t, a, b, e, List.Mem.tail _ hm, r⟩⟩ (by rw [sizeLine_eq]; omega) (by rfl) (by with_unfolding_all rfl) (by with_unfolding_all rfl) (by decide) (by rfl) (by decide) (by rfl) (by rfl) (by decide) (by decide) (by rfl) (by rfl) (by rfl) (by intro _; rfl) ?_ ?_
    · repeat (walk_at "m1")
    intro lt h9 tk9 F9 N9 hne9
    change News s₁.heap s₁.heap.objs.size h9 ((lt, W.listOf ws.toArray ws.length) :: (pl, W.listOf Qs.toArray ln) :: rest) at N9
    have hP9 : Plc ((pl, W.listOf Qs.toArray ln) :: rest) Qs ds := hP.mono fun _ h => List.Mem.tail _ h
    have hL9 : Line _ ((pl, W.listOf Qs.toArray ln) :: rest) ws ds := hL.mono fun _ h => List.Mem.tail _ h
    clear F8 N8 hP hL hF hne
    dsimp only [shp] at F9
    dsimp only
    repeat ((fail_if_success (with_reducible show wpAny _ _ (exec (Stmt.For _ _ _ _ _) _) _ _ _)); walk_at "m1")
    refine For_invV s₁.heap rfl rfl ?_
    repeat ((fail_if_success (with_reducible show wpAny _ _ (call (Value.builtin "len") _ _) _ _ _)); walk_at "m1")
    refine len_list (News.isList N9 (List.Mem.tail _ (List.Mem.head _))) (by rw [List.size_toArray]; omega) ?_
    repeat ((fail_if_success (with_reducible show wpAny _ _ (pyIter _) _ _ _)); walk_at "m1")
    rename Fr _ _ _ _ => F10
    rename News _ _ _ _ => N10
    have hz : Qs.toArray.size = Qs.length := List.size_toArray ..
    rw [hz] at N10
    clear hz
    refine iter_rng (fun i m₁ nw₁ => ∃ us es n R u, nw₁ = (lt, W.listOf us.toArray n) :: R ∧ (∀ p ∈ (pl, W.listOf Qs.toArray ln) :: rest, p ∈ R) ∧ (∀ p ∈ R, p.1 ≠ lt) ∧ Line _ R us es ∧ es.length = ds.length ∧ firstD (es.take i) = .ok ∧ es.drop i = ds.drop i ∧ m₁ = shk u (mapOf F10))
      rfl (N10 _ (List.Mem.head _)).1 (by omega) F10 (News.tail' N10) ⟨ws, ds, ws.length, _, mapOf F10, rfl, fun _ h => h, hne9, hL9, rfl, rfl, rfl, shk_of (fun _ _ => rfl)⟩ ?_ ?_
    · rintro I i t' m₁ news₁ h11 tk11 own hi ⟨us, es, n, R, u', rfl, hsub, hne, hLn, hel, hfo, hdr, rfl⟩ hnI' hown ⟨oI, hIo⟩ F11 N11
      dsimp only [shk, mapOf] at F11
      obtain ⟨q, hq⟩ : ∃ q, Qs[i]? = some q := ⟨_, List.getElem?_eq_getElem hi⟩
      obtain ⟨a, v, D, d, rfl, hma, hd, hD⟩ := hP9.2 i q hq
      have hpl := List.mem_append_right own (List.Mem.tail (lt, W.listOf us.toArray n) (hsub _ (List.Mem.head _)))
      have hma' := List.mem_append_right own (List.Mem.tail (lt, W.listOf us.toArray n) (hsub _ hma))
      repeat ((fail_if_success (with_reducible show wpAny _ _ (subscriptTail _ _ _ _) _ _ _)); walk_at "m1")
      refine item_at (News.isList N11 hpl) (Int.natCast_nonneg _) (by omega) hq ?_
      repeat ((fail_if_success (with_reducible show wpAny _ _ (subscriptTail _ _ _ _) _ _ _)); walk_at "m1")
      refine item_at (News.isList N11 hma') (by decide) (by decide) rfl ?_
      have hul : us.length ≤ 1000 := by rw [hLn.len, hel, ← hP9.1]; omega
      have hie : i < es.length := by rw [hel, ← hP9.1]; exact hi
      have hLo : Line _ (own ++ ((lt, W.listOf us.toArray n) :: R)) us es := hLn.mono fun _ h => List.mem_append_right _ (List.Mem.tail _ h)
      cases htd : told d with
      | none =>
        rw [htd] at hD
        obtain rfl : D = .none := hD
        obtain rfl := told_ok htd
        repeat ((fail_if_success (with_reducible show TurnEnd _ _ _ _ _ _ _ _ _)); walk_at "m1")
        exact TurnEnd.intro F11 N11 hnI' ⟨us, es, n, R, _, rfl, hsub, hne, hLn, hel, firstD_skip hfo hdr hd, drop_next hdr, shk_of (fun z hz => by simp [hz])⟩
      | some msg =>
        rw [htd] at hD
        obtain ⟨tD, rfl⟩ := hD
        have hfd : firstD es = d := firstD_mid hfo hdr hd (fun e => by rw [e] at htd; cases htd)
        repeat ((fail_if_success (with_reducible show wpAny _ _ (call (Value.ref 42) _ _) _ _ _)); walk_at "m1")
        refine told_call (h₀ := s₁.heap) (d := 1 + claimMargin + 1) (u := 4 + 3) B0 F11 N11 X T (by decide) (by decide) rfl (List.mem_append_right _ (List.Mem.head _)) hLo hul ?_
        intro v12 h12 tk12 hv12 F12 N12
        rw [hfd, htd] at hv12
        obtain ⟨t12, rfl⟩ := hv12
        clear F11 N11
        repeat ((fail_if_success (with_reducible show wpAny _ _ (subscriptTail _ _ _ _) _ _ _)); walk_at "m1")
        refine item_at (News.isList N12 hpl) (Int.natCast_nonneg _) (by omega) hq ?_
        repeat ((fail_if_success (with_reducible show wpAny _ _ (subscriptTail _ _ _ _) _ _ _)); walk_at "m1")
        refine item_at (News.isList N12 hma') (by decide) (by decide) rfl ?_
        have hbb : (msg != msg) = false := by rw [bne, str_beq_self]; rfl
        repeat ((fail_if_success (with_reducible show wpAny _ _ (truthy _) _ _ _)); walk_at "m1")
        rw [hbb]
        repeat ((fail_if_success (with_reducible show wpAny _ _ (eval (Expr.IfExp _ _ _ _) _) _ _ _)); walk_at "m1")
        repeat' ((fail_if_success (with_reducible show wpAny _ _ (setItem _ _ _) _ _ _)); walk_at "m1")
        · rename Fr _ _ _ _ => F13
          rename News _ _ _ _ => N13
          obtain ⟨q, hqq⟩ := nm (headA N13)
          dsimp only [headA] at hqq
          subst hqq
          have hlt : ∀ p ∈ own ++ (lt, W.listOf us.toArray n) :: R, p.1 < q := by assumption
          have hi2 : i < 2 := by
            have hh2 : (i : Int) < 2 := by assumption
            omega
          have hqlt : q ≠ lt := Nat.ne_of_gt (hlt _ (List.mem_append_right _ (List.Mem.head _)))
          have hqI : q ≠ I := Nat.ne_of_gt (hlt _ (List.mem_append_left _ hIo))
          have hltI : lt ≠ I := hnI' _ (List.Mem.head _)
          refine set_K F13 (swapA N13) ?_ (by rw [hLn.len]; exact hie) hul ?_
          · intro p hp
            rcases List.mem_cons.mp hp with rfl | hp
            · exact hqlt
            · rcases List.mem_append.mp hp with hp | hp
              · rw [hown p hp]; exact hltI.symm
              · exact hne p hp
          · intro h14 F14 N14
            repeat ((fail_if_success (with_reducible show TurnEnd _ _ _ _ _ _ _ _ _)); walk_at "m1")
            refine TurnEnd.intro F14 (swapB N14) ?_ ⟨us.set i (.ref q), es.set i .ok, n, _, _, rfl, fun p hp => List.Mem.tail _ (hsub p hp), ?_, (hLn.mono fun _ h => List.Mem.tail _ h).set1 hi2 (List.Mem.head _), by rw [List.length_set]; exact hel, firstD_set hfo hdr hie, drop_set hdr, shk_of (fun z hz => by simp [hz])⟩
            · intro p hp
              simp only [List.mem_cons] at hp
              rcases hp with rfl | rfl | hp
              · exact hltI
              · exact hqI
              · exact hnI' p (List.Mem.tail _ hp)
            · intro p hp
              rcases List.mem_cons.mp hp with rfl | hp
              · exact hqlt
              · exact hne p hp
        · have hi2 : 2 ≤ i := by
            have hh2 : ¬ (i : Int) < 2 := by assumption
            omega
          have hltI : lt ≠ I := hnI' _ (List.Mem.head _)
          refine set_K F12 (swapC N12) ?_ (by rw [hLn.len]; exact hie) hul ?_
          · intro p hp
            rcases List.mem_append.mp hp with hp | hp
            · rw [hown p hp]; exact hltI.symm
            · exact hne p hp
          · intro h14 F14 N14
            repeat ((fail_if_success (with_reducible show TurnEnd _ _ _ _ _ _ _ _ _)); walk_at "m1")
            refine TurnEnd.intro F14 (swapD N14) ?_ ⟨us.set i _, es.set i .ok, n, R, _, rfl, hsub, hne, hLn.set2 hi2, by rw [List.length_set]; exact hel, firstD_set hfo hdr hie, drop_set hdr, shk_of (fun z hz => by simp [hz])⟩
            intro p hp
            rcases List.mem_cons.mp hp with rfl | hp
            · exact hltI
            · exact hnI' p (List.Mem.tail _ hp)
    · rintro m₁ news₁ h11 tk11 ⟨us, es, n, R, u', rfl, hsub, hne, hLn, hel, hfo, hdr, rfl⟩ F11 N11
      dsimp only [shk, mapOf] at F11
      dsimp only
      have hul : us.length ≤ 1000 := by rw [hLn.len, hel, ← hP9.1]; omega
      have hfd : firstD es = .ok := by rw [hP9.1, ← hel, List.take_length] at hfo; exact hfo
      repeat ((fail_if_success (with_reducible show wpAny _ _ (call (Value.ref 42) _ _) _ _ _)); walk_at "m1")
      refine told_call (h₀ := s₁.heap) (d := 1 + claimMargin + 1) (u := 4 + 3) B0 F11 N11 X T (by decide) (by decide) rfl (List.Mem.head _) (hLn.mono fun _ h => List.Mem.tail _ h) hul ?_
      intro v12 h12 tk12 hv12 F12 N12
      rw [hfd] at hv12
      obtain rfl : v12 = .none := hv12
      clear F11 N11
      repeat ((fail_if_success (with_reducible show EndOk _ _ _ _)); walk_at "m1")
      exact ⟨_, _, _, rfl, rfl, F12⟩
  )
end Mine

end

theorem PySem.Challenge.cw_dm0046_01_holds : PySem.Challenge.rw_dm0046_01.Holds :=
  Mine.all
