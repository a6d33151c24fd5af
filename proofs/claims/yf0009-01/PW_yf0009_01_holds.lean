import PyProof.Rows.All
import Wide.All
import OpenK.AllK
import Wide.FinOn
import KE.KMinBuiltin
import Lean
import PySem.Challenge.RW_yf0009_01
section
open PySem PySem.W PyProof.Rows
set_option Elab.async false
set_option maxRecDepth 100000
set_option maxHeartbeats 8000000
namespace Mine
open_top hd for PySem.Challenge.rw_yf0009_01
end Mine
end
section
open PySem PySem.W PyProof.Rows
set_option Elab.async false
set_option maxRecDepth 100000
set_option maxHeartbeats 8000000
namespace Mine
/-- a def's contract: called anywhere below, on values vs, where the ledger fits pre, it hands back R and leaves all that stood -/
def Claim (w : World) (k : Nat) (f : Addr) (vs : List Value) (pre : List (Addr × Obj) → Prop) (R : Tok → Value) : Prop :=
  ∀ (mean : ExcName → Option Value) (mg mb : Str → Option Value) (news : List (Addr × Obj)) (dp un : Nat) (gd : Option (List Code)) (cn : Str) (cs : Scope) (a : Addr) (ccd : Value) (cl : List (Str × Addr)) (outer : List Env) (A₀ : Around) (base h₀ : Heap) (L : Addr) (m : Str → Option Value) (s : Shared) (Q E : Value → Shared → Prop),
    Below A₀ base outer h₀ → Fr h₀ L s.heap m → (hd.heap_39 w.params).In h₀ → News h₀ L s.heap news → Top hd.view_39 (looseW hd.view_39 []) mean mg mb h₀ → cs.kind = .function →
    pre news → dp + k < recursionLimit → un + 8 * k < cLine → CbRet h₀ L m news s Q R →
    wpAny (model PySem.Challenge.rw_yf0009_01.row.prog w) (ktrTop dp un gd cn cs L a ccd cl outer) (call (.ref f) vs) Q E s
theorem Claim.use {w : World} {k : Nat} {f : Addr} {vs : List Value} {pre : List (Addr × Obj) → Prop} {R : Tok → Value} {mean : ExcName → Option Value} {mg mb : Str → Option Value} {news : List (Addr × Obj)} {dp un : Nat} {gd : Option (List Code)} {cn : Str} {cs : Scope} {a : Addr} {ccd : Value} {cl : List (Str × Addr)} {outer : List Env} {A₀ : Around} {base h₀ : Heap} {L : Addr} {m : Str → Option Value} {s : Shared} {Q E : Value → Shared → Prop}
    (C : Claim w k f vs pre R) (B : Below A₀ base outer h₀) (F : Fr h₀ L s.heap m) (X : (hd.heap_39 w.params).In h₀) (N : News h₀ L s.heap news) (T : Top hd.view_39 (looseW hd.view_39 []) mean mg mb h₀) (hk : cs.kind = .function)
    (hp : pre news) (hd : dp + k < recursionLimit) (hu : un + 8 * k < cLine) (ret : ∀ (t : Tok) (h' : Heap) (tk' : Nat), Fr h₀ L h' m → News h₀ L h' news → Q (R t) { s with heap := h', toks := tk' }) :
    wpAny (model PySem.Challenge.rw_yf0009_01.row.prog w) (ktrTop dp un gd cn cs L a ccd cl outer) (call (.ref f) vs) Q E s :=
  C mean mg mb news dp un gd cn cs a ccd cl outer A₀ base h₀ L m s Q E B F X N T hk hp hd hu ret

theorem gen_toks {α : Type} {M : Model} {A : Around} {t : Sem α} {Q : α → Shared → Prop} {E : Value → Shared → Prop} {heap : Heap} {gens : Array GenState} {drawn : Drawn} {toks : Nat} {os : OsState} (h0 : 0 < toks)
    (h : ∀ tk, 0 < tk → wpAny M A t Q E ⟨heap, gens, drawn, tk, os⟩) : wpAny M A t Q E ⟨heap, gens, drawn, toks, os⟩ := h toks h0

theorem ge_ok (w : World) (x y : Int) (t u : Tok) : Claim w 1 35 [.int x t, .int y u] (fun _ => True) (fun _ => .bool (decide (y ≤ x))) := by
  unfold Claim
  k_fill
  dsimp only [CbRet]
  intros
  rename_i hret
  refine wpAny_call ?_
  k_dflt cell_enter
  k_steps
  all_goals cb_end hret
theorem lt_ok (w : World) (x y : Str) (t u : Tok) : Claim w 1 28 [.str x t, .str y u] (fun _ => True) (fun _ => .bool (decide (x.cps.toList < y.cps.toList))) := by
  unfold Claim
  k_fill
  dsimp only [CbRet]
  intros
  rename_i hret
  refine wpAny_call ?_
  k_dflt cell_enter
  k_steps
  all_goals cb_end hret
theorem iadd_ok (w : World) (x y : Int) (t u : Tok) : Claim w 1 56 [.int x t, .int y u] (fun _ => True) (fun t => .int (x + y) t) := by
  unfold Claim
  k_fill
  dsimp only [CbRet]
  intros
  rename_i hret
  refine wpAny_call ?_
  k_dflt cell_enter
  k_steps
  all_goals cb_end hret
theorem imod_ok (w : World) (x y : Int) (t u : Tok) : Claim w 1 63 [.int x t, .int y u] (fun _ => 0 < y) (fun t => .int (x.fmod y) t) := by
  unfold Claim
  k_fill
  dsimp only [CbRet]
  intros
  rename_i hret
  refine wpAny_call ?_
  k_dflt cell_enter
  k_steps
  all_goals cb_end hret
theorem plain_ok (w : World) (x : Str) (t : Tok) : Claim w 1 98 [.str x t] (fun _ => True) (fun t => .str x t) := by
  unfold Claim
  k_fill
  dsimp only [CbRet]
  intros
  rename_i hret
  refine wpAny_call ?_
  k_dflt cell_enter
  k_steps
  all_goals cb_end hret
def revS (x : Str) : Str := ⟨x.cps.reverse⟩
theorem rev_next {b : Str} {n : Nat} {pre : List Int} (h : b.cps.toList.map Int.ofNat = pre.reverse) : ((⟨#[n]⟩ : Str) ++ b).cps.toList.map Int.ofNat = (pre ++ [(n : Int)]).reverse := by
  rw [Str.cps_append, Array.toList_append, List.map_append, h, List.reverse_append]
  rfl
theorem rev_len {b : Str} {pre : List Int} (h : b.cps.toList.map Int.ofNat = pre.reverse) : b.length = pre.length := by
  have := congrArg List.length h
  simpa [Str.length] using this
theorem rev_done {x b : Str} (h : b.cps.toList.map Int.ofNat = (KStt.codes x).reverse) : b = revS x := by
  refine Str.ext' (Array.toList_inj.mp ?_)
  have h2 : b.cps.toList.map Int.ofNat = (revS x).cps.toList.map Int.ofNat := by
    rw [h]; simp [revS, KStt.codes]
  exact (List.map_inj_right (fun a b h => Int.ofNat.inj h)).mp h2
theorem mirror_ok (w : World) (x : Str) (t : Tok) : Claim w 1 117 [.str x t] (fun _ => x.length ≤ 100) (fun t => .str (revS x) t) := by
  unfold Claim
  k_fill
  dsimp only [CbRet]
  intros
  rename_i hret
  k_with "pyIter str" => k_state (fun pre back => back.cps.toList.map Int.ofNat = pre.reverse ∧ back.length = pre.length) "back"
  k_with "state" => first | exact ⟨rfl, rfl⟩ | exact ⟨rev_next (by assumption), rev_len (rev_next (by assumption))⟩
  refine wpAny_call ?_
  k_dflt cell_enter
  k_steps
  all_goals (exact cb_retS hret (rev_done (by assumption)) (by assumption) (by assumption))
end Mine
end
section
open PySem PySem.W PyProof.Rows Builtin
set_option Elab.async false
set_option maxRecDepth 100000
set_option maxHeartbeats 8000000
namespace Mine.HA
theorem kind_hasattr : builtinKind "hasattr" = none := by decide +kernel
theorem plain_hasattr : plainId "hasattr" = true := by decide +kernel
theorem entry_hasattr : entryFor table "hasattr" = some Builtin.«hasattr» := entryFor_of_tree (by kernel_rfl)
theorem args_hasattr (a b : Value) : argsOk "hasattr" ⟨[a, b], []⟩ := by unfold argsOk; kernel_rfl
theorem lk_str_getitem : typeLookup (.type "str") "__getitem__" = pure (some (.builtin "str.__getitem__")) := by rw [typeLookup_type, builtinLookup_eq_fast]; kernel_rfl
theorem typeOf_str_getitem : typeOf (.builtin "str.__getitem__") = pure (.type "wrapper_descriptor") := by kernel_rfl
theorem slot_wd_get : Slot "wrapper_descriptor" "__get__" "wrapper_descriptor.__get__" :=
  .of (owner := "wrapper_descriptor") (n := "__get__") (by rw [typeLookup_type, builtinLookup_eq_fast]; kernel_rfl) (by decide +kernel) (by decide +kernel) (by decide +kernel)
    (by first | exact .inl (by decide +kernel) | exact .inr (by decide +kernel)) (by rw [isSubtype_type]; kernel_rfl)
theorem lk_wd_set : typeLookup (.type "wrapper_descriptor") "__set__" = pure none := by rw [typeLookup_type, builtinLookup_eq_fast]; kernel_rfl
theorem lk_wd_delete : typeLookup (.type "wrapper_descriptor") "__delete__" = pure none := by rw [typeLookup_type, builtinLookup_eq_fast]; kernel_rfl
theorem entry_wd_get : entryFor table "wrapper_descriptor.__get__" = some Builtin.«wrapper_descriptor.__get__» := entryFor_of_tree (by kernel_rfl)
theorem args_wd_get (a b c : Value) : argsOk "wrapper_descriptor.__get__" ⟨[a, b, c], []⟩ := by unfold argsOk; kernel_rfl
theorem owner_str_getitem : (".".intercalate ("str.__getitem__".cutAt '.').dropLast) = "str" := by
  have e0 : "str.__getitem__".cutAt '.' = ["str", "__getitem__"] := by first | rfl | decide +kernel
  rw [e0]; decide +kernel
theorem sub_str_owner : isSubtype (.type "str") (.type (".".intercalate ("str.__getitem__".cutAt '.').dropLast)) = pure true := by
  rw [owner_str_getitem, isSubtype_type]; kernel_rfl
section
variable {prog : Program} {w : World} {A : Around} {E : Value → Shared → Prop} {h : Heap} {g : Array GenState} {d : Drawn} {t : Nat} {os : OsState} {x : Str} {u : Tok}
theorem wd_get_str {R : Result → Shared → Prop} (hq : ∀ o, o.isFreed = false → R (.ok (.ret (.ref h.objs.size))) ⟨h.push o, g, d, t, os⟩) :
    codeAny (model prog w) A (.call (.builtin "wrapper_descriptor.__get__") ⟨[.builtin "str.__getitem__", .str x u, .type "str"], []⟩) R ⟨h, g, d, t, os⟩ := by
  have hT : (⟨h, g, d, t, os⟩ : Shared).TypeIs (.str x u) "str" := rfl
  have hT5 : (⟨h, g, d, t, os⟩ : Shared).TypeIs (.builtin "str.__getitem__") "wrapper_descriptor" := typeOf_str_getitem
  have f8 := sub_str_owner
  refine codeAny_call_builtin slot_wd_get.plain entry_wd_get (slot_wd_get.check _ _ _ _ _ _ _ _ hT5 (args_wd_get _ _ _) ?_)
  repeat (any_goals (first | assumption | wp_step))
  exact hq _ rfl
theorem getitem_entry_str {tk : Tok} {Q : Fin → Shared → Prop} (hq : ∀ o, o.isFreed = false → Q (.done (.ret (.ref h.objs.size))) ⟨h.push o, g, d, t, os⟩) :
    wpAny (model prog w) A (Builtin.«object.__getattribute__» ⟨[.str x u, .str "__getitem__" tk], []⟩) Q E ⟨h, g, d, t, os⟩ := by
  have hT : (⟨h, g, d, t, os⟩ : Shared).TypeIs (.str x u) "str" := rfl
  have hT5 : (⟨h, g, d, t, os⟩ : Shared).TypeIs (.builtin "str.__getitem__") "wrapper_descriptor" := typeOf_str_getitem
  have f4 := lk_str_getitem
  have f5 := typeOf_str_getitem
  have f6 := slot_wd_get.lookup
  have f7 := lk_wd_set
  have f9 := lk_wd_delete
  repeat (any_goals (first | assumption | wp_step))
  exact wd_get_str fun o ho => wpAny_pure (hq o ho)
theorem getitem_call_str {tk : Tok} {R : Result → Shared → Prop} (hq : ∀ o, o.isFreed = false → R (.ok (.ret (.ref h.objs.size))) ⟨h.push o, g, d, t, os⟩) :
    codeAny (model prog w) A (.call (.builtin "object.__getattribute__") ⟨[.str x u, .str "__getitem__" tk], []⟩) R ⟨h, g, d, t, os⟩ :=
  codeAny_call_builtin F.slot_str_getattribute.plain F.entry_object_getattribute (F.slot_str_getattribute.check _ _ _ _ _ _ _ _ (show (⟨h, g, d, t, os⟩ : Shared).TypeIs (.str x u) "str" from rfl) (F.args_object_getattribute_2 _ _) (getitem_entry_str hq))
theorem getitem_by_str {tk : Tok} {Q : Value → Shared → Prop} (hq : ∀ o, o.isFreed = false → Q (.ref h.objs.size) ⟨h.push o, g, d, t, os⟩) : wpAny (model prog w) A (getAttrBy (.str x u) (.str "__getitem__" tk) false) Q E ⟨h, g, d, t, os⟩ := by
  have hT : (⟨h, g, d, t, os⟩ : Shared).TypeIs (.str x u) "str" := rfl
  have f2 := F.slot_str_getattribute.lookup
  have f3 := F.slot_str_getattribute.bind (.str x u)
  repeat (any_goals (first | assumption | wp_step))
  refine getitem_call_str fun o ho => ?_
  repeat (any_goals (first | assumption | wp_step))
  exact hq o ho
theorem hasattr_str {Q : Value → Shared → Prop} {tk : Tok} (hq : ∀ o, o.isFreed = false → Q (.bool true) ⟨h.push o, g, d, t, os⟩) : wpAny (model prog w) A (call (.builtin "hasattr") [.str x u, .str "__getitem__" tk]) Q E ⟨h, g, d, t, os⟩ := by
  refine Calls.call_function_entry kind_hasattr plain_hasattr entry_hasattr (args_hasattr _ _) ?_
  unfold Builtin.«hasattr»
  refine wpAny_bind (wpAny_of_eq (a := [.str x u, .str "__getitem__" tk]) (by first | rfl | kernel_rfl) ?_)
  dsimp only
  refine wpAny_bind (wpAny_of_eq (a := ()) (by first | rfl | kernel_rfl) ?_)
  have hT : (⟨h, g, d, t, os⟩ : Shared).TypeIs (.str x u) "str" := rfl
  have f2 := F.slot_str_getattribute.lookup
  have f3 := lk_str_getitem
  repeat (any_goals (first | assumption | with_reducible apply getitem_by_str | wp_step))
  exact fun o ho => wpAny_pure (wpAny_pure ⟨_, rfl, hq o ho⟩)
end
theorem hasattr_fr {prog : Program} {w : World} {A : Around} {E : Value → Shared → Prop} {s : Shared} {h₀ : Heap} {L : Addr} {m : Str → Option Value} {news : List (Addr × Obj)} {x : Str} {u tk : Tok} {Q : Value → Shared → Prop}
    (F : Fr h₀ L s.heap m) (N : News h₀ L s.heap news) (h : ∀ h', Fr h₀ L h' m → News h₀ L h' news → Q (.bool true) { s with heap := h' }) :
    wpAny (model prog w) A (call (.builtin "hasattr") [.str x u, .str "__getitem__" tk]) Q E s := by
  obtain ⟨hh, g, d, t, os⟩ := s
  exact hasattr_str fun o ho => h _ (F.push o) fun p hp => (N.push F o ho) p (.tail _ hp)
end Mine.HA
end
section
open PySem PySem.W PyProof.Rows
set_option Elab.async false
set_option maxRecDepth 100000
set_option maxHeartbeats 8000000
namespace Mine
local macro_rules | `(tactic| walk_at "call builtin:hasattr") => `(tactic| (k_here; (with_reducible show wpAny _ _ (call (Value.builtin "hasattr") [Value.str _ _, Value.str _ _]) _ _ _); k_dflt (refine' HA.hasattr_fr ?F ?N ?_; (case F => k_asm); (case N => k_asm); k_whole); intro h' F' N'; (try k_sweep)))
theorem concat_ok (w : World) (x y : Str) (t u : Tok) : Claim w 1 42 [.str x t, .str y u] (fun _ => x.length + y.length ≤ 1000) (fun t => .str (x ++ y) t) := by
  unfold Claim
  k_fill
  dsimp only [CbRet]
  intros
  rename_i hret
  refine wpAny_call ?_
  k_dflt cell_enter
  k_steps
  all_goals cb_end hret
end Mine
end
section
open PySem PySem.W PyProof.Rows
set_option Elab.async false
set_option maxRecDepth 100000
set_option maxHeartbeats 8000000
namespace Mine
def rep (c : Nat) (z : List Nat) (l : List Nat) : List Nat := l.flatMap fun n => if n = c then z else [n]
theorem rep_append (c : Nat) (z a b : List Nat) : rep c z (a ++ b) = rep c z a ++ rep c z b := by simp [rep]
theorem rep_free (c : Nat) (z : List Nat) : ∀ l : List Nat, c ∉ l → rep c z l = l
  | [], _ => rfl
  | k :: r, h => by
    have h1 : ¬ k = c := fun e => h (e ▸ List.mem_cons_self ..)
    have h2 := rep_free c z r fun m => h (List.mem_cons_of_mem _ m)
    show (if k = c then z else [k]) ++ rep c z r = k :: r
    rw [if_neg h1, h2]; rfl
theorem rep_join (c : Nat) (z : List Nat) : ∀ parts : List Str, (∀ p ∈ parts, c ∉ p.cps.toList) → rep c z (Str.join ⟨#[c]⟩ parts).cps.toList = (Str.join ⟨z.toArray⟩ parts).cps.toList
  | [], _ => rfl
  | [p], h => rep_free c z _ (h p (List.mem_singleton.mpr rfl))
  | p :: q :: r, h => by
    have ih := rep_join c z (q :: r) fun a ha => h a (List.mem_cons_of_mem _ ha)
    show rep c z (p ++ ⟨#[c]⟩ ++ Str.join ⟨#[c]⟩ (q :: r)).cps.toList = (p ++ ⟨z.toArray⟩ ++ Str.join ⟨z.toArray⟩ (q :: r)).cps.toList
    simp only [Str.cps_append, Array.toList_append]
    rw [rep_append, rep_append, ih, rep_free c z _ (h p (List.mem_cons_self ..))]
    show p.cps.toList ++ rep c z [c] ++ _ = _
    simp [rep]
def txt (l : List Nat) : Str := ⟨l.toArray⟩
theorem txt_cps (l : List Nat) : (txt l).cps.toList = l := rfl
theorem txt_of (x : Str) : txt x.cps.toList = x := rfl
theorem txt_length (l : List Nat) : (txt l).length = l.length := by simp [txt, Str.length]
theorem replace_rep (x : Str) (c : Nat) (z : List Nat) : Txt.replace x ⟨#[c]⟩ ⟨z.toArray⟩ = txt (rep c z x.cps.toList) := by
  refine Str.ext' (Array.toList_inj.mp ?_)
  rw [StrLaws.replace_one, txt_cps, ← rep_join c z _ (StrLaws.split_free x c), StrLaws.join_split]
theorem rep_length (c : Nat) (z : List Nat) (k : Nat) (hz : z.length ≤ k) (hk : 1 ≤ k) : ∀ l : List Nat, (rep c z l).length ≤ k * l.length
  | [] => by simp [rep]
  | n :: r => by
    have ih := rep_length c z k hz hk r
    have e : rep c z (n :: r) = (if n = c then z else [n]) ++ rep c z r := rfl
    rw [e, List.length_append, List.length_cons, Nat.mul_add]
    split
    · omega
    · simp only [List.length_singleton]; omega

local macro_rules | `(tactic| walk_at "call builtin:str.replace") => `(tactic| (k_here; (with_reducible show wpAny _ _ (call (Value.builtin "str.replace") [Value.str _ _, Value.str _ _, Value.str _ _]) _ _ _); k_dflt (refine' SC.replace ?u ?v ?uv ?yz ?b ?_; (case u => (show @Ne Nat _ _); omega); (case v => (show @Ne Nat _ _); omega); (case uv => (show @Ne Nat _ _); omega); (case yz => assumption); (case b => assumption)); intro _ _))
local macro_rules | `(tactic| walk_at "execs cons") => `(tactic| (k_here; (with_reducible show wpAny _ _ _ _ _ (Shared.mk _ _ _ (_ + 1) _)); refine gen_toks (by omega) ?_; intro tkP hTkP))
local macro_rules | `(tactic| walk_at "eval Name") => `(tactic| (k_here; refine' ld ?k1 ?k2 ?_ ?k3 ?k4; (case k1 => k_asm); (case k2 => assumption); (case k3 => assumption); (case k4 => assumption)))
local macro_rules | `(tactic| walk_at "storeName") => `(tactic| (k_here; refine' stN ?k1 ?k2 ?_ ?k3 ?k4; (case k1 => k_asm); (case k2 => k_asm); (case k3 => assumption); (case k4 => assumption); intro h' F' N'))
local macro_rules | `(tactic| walk_at "execs nil") => `(tactic| (k_here; (with_reducible show wpAny _ _ _ _ _ (Shared.mk _ _ _ (_ + 1) _)); refine gen_toks (by omega) ?_; intro tkP hTkP))
local macro_rules | `(tactic| walk_at "eval Call Attribute") => `(tactic| (k_here; refine MethodCall_ ?_ (by assumption)))
def esc (c r x : Str) : Str := txt (rep (c.cps.getD 0 0) r.cps.toList x.cps.toList)
theorem esc_length (c r x : Str) (hr : r.length ≤ 6) : (esc c r x).length ≤ 6 * x.length := by
  unfold esc
  rw [txt_length]
  exact rep_length _ _ 6 (by simpa [Str.length] using hr) (by omega) x.cps.toList
theorem found_one_not (x : Str) (k : Nat) : (Builtin.Str.occurrences x ⟨#[k]⟩ 0 x.length 1).isEmpty = true ↔ k ∉ x.cps.toList := by
  have h := StrLaws.found_one x k
  constructor
  · intro e hm
    rw [e, decide_eq_true hm] at h
    exact absurd h (by decide)
  · intro e
    rw [decide_eq_false e] at h
    simpa using h
theorem esc_step {pl : Sem Bool} {w : World} {A : Around} {E : Value → Shared → Prop} {s : Shared} {h₀ : Heap} {L a : Addr} {m : Str → Option Value} {news : List (Addr × Obj)} {name : Str} {scope : Scope} {cd : Value} {c r x : Str} {t : Tok} {p1 p2 p3 p4 p5 p6 p7 p8 p9 p10 p11 : Pos} {Q : Flow → Shared → Prop}
    (F : Fr h₀ L s.heap m) (X : (hd.heap_39 w.params).In h₀) (N : News h₀ L s.heap news) (hm : m "text" = some (.str x t)) (hs : scope.kind = .function) (hl : (envOf name scope L a cd).kindOf "text" = some .local) (h0 : 0 < s.toks) (hcr : (c == r) = false) (hck : c = ⟨#[c.cps.getD 0 0]⟩)
    (hr : r.length ≤ 6) (hx : x.length ≤ 2000000)
    (he : eval (.Call (.Attribute (.Name "text" p5) "replace" p6) [.Constant (.str c) 0 p7, .Constant (.str r) 0 p8] [] p9) (envOf name scope L a cd) = (do
      let ov ← eval (.Name "text" p5) (envOf name scope L a cd)
      standAt p6.atName
      let (f, first) ← holding [ov] (getMethod ov "replace" pl)
      callWith p9 f first (backTo p9 (starEach [.Constant (.str c) 0 p7, .Constant (.str r) 0 p8] (envOf name scope L a cd))) []))
    (h : ∀ y t' h' tk', y = esc c r x → y.length ≤ 6 * x.length → 0 < tk' → Fr h₀ L h' (fun z => if z = "text" then some (.str y t') else m z) → News h₀ L h' news → Q .next { s with heap := h', toks := tk' }) :
    wpAny (model PySem.Challenge.rw_yf0009_01.row.prog w) A (exec (.If (.Compare (.Constant (.str c) 0 p1) [.In] [.Name "text" p2] p3) [.Assign [.Name "text" p4] (.Call (.Attribute (.Name "text" p5) "replace" p6) [.Constant (.str c) 0 p7, .Constant (.str r) 0 p8] [] p9) p10] [] p11) (envOf name scope L a cd)) Q E s := by
  have hb : x.length + (x.length + 1) * r.length ≤ 16777216 := by
    have h1 : (x.length + 1) * r.length ≤ (x.length + 1) * 6 := Nat.mul_le_mul_left _ hr
    omega
  k_fill
  k_steps
  · refine h _ t _ _ rfl (esc_length c r x hr) (by assumption) ?_ N
    have e : esc c r x = x := by
      have hq : (Builtin.Str.occurrences x c 0 x.length 1).isEmpty = true := by assumption
      rw [hck] at hq
      unfold esc
      rw [rep_free _ _ _ ((found_one_not x _).mp hq), txt_of]
    have em : (fun y => if y = Str.ofString "text" then some (Value.str (esc c r x) t) else m y) = m := by
      funext y
      by_cases hy : y = Str.ofString "text"
      · rw [if_pos hy, hy, hm, e]
      · rw [if_neg hy]
    rw [em]
    exact F
  · have er : Txt.replace x c r = esc c r x := by
      have q := replace_rep x (c.cps.getD 0 0) r.cps.toList
      rw [← hck] at q
      exact q
    rename Fr h₀ L _ _ => F9
    rw [er] at F9
    exact h _ _ _ _ rfl (esc_length c r x hr) (by assumption) F9 (by assumption)
def htmlS (x : Str) : Str := esc "\"" "&quot;" (esc ">" "&gt;" (esc "&" "&amp;" x))
def cdataS (x : Str) : Str := esc "\r" "&#xD;" (esc ">" "&gt;" (esc "<" "&lt;" (esc "&" "&amp;" x)))
def attribS (x : Str) : Str := esc "\r" "&#xD;" (esc "\n" "&#xA;" (esc "\t" "&#x9;" (esc "\"" "&quot;" (esc "<" "&lt;" (esc "&" "&amp;" x)))))
end Mine
end
section
open PySem PySem.W PyProof.Rows
set_option Elab.async false
set_option maxRecDepth 100000
set_option maxHeartbeats 8000000
namespace Mine
local macro_rules | `(tactic| walk_at "execs cons") => `(tactic| (k_here; (with_reducible show wpAny _ _ _ _ _ (Shared.mk _ _ _ (_ + _) _)); refine gen_toks (by first | omega | exact Nat.add_pos_right _ (Nat.zero_lt_succ _)) ?_; intro tkP hTkP))
local macro_rules | `(tactic| walk_at "exec If") => `(tactic| (k_here; k_dflt (refine' esc_step ?F ?X ?N ?m ?s ?l ?z ?cr ?ck ?r ?x ?e ?_; (case F => k_asm); (case X => k_asm); (case N => k_asm); (case m => exact rfl); (case s => exact rfl); (case l => exact rfl); (case z => (dsimp only; omega)); (case cr => decide +kernel); (case ck => decide +kernel); (case r => decide +kernel); (case x => omega); (case e => exact rfl)); intro yE t' h' tk' hyE hyL hTk' F' N'))
theorem html_ok (w : World) (x : Str) (t : Tok) : Claim w 1 77 [.str x t] (fun _ => x.length ≤ 100) (fun t => .str (htmlS x) t) := by
  unfold Claim
  k_fill
  dsimp only [CbRet]
  intros
  rename_i hret
  refine wpAny_call ?_
  k_dflt cell_enter
  refine gen_toks (Nat.add_pos_right _ (Nat.zero_lt_succ _)) ?_
  intro tkP hTkP
  k_steps
  all_goals (exact cb_retS hret (by subst_vars; rfl) (by assumption) (by assumption))
theorem cdata_ok (w : World) (x : Str) (t : Tok) : Claim w 1 84 [.str x t] (fun _ => x.length ≤ 100) (fun t => .str (cdataS x) t) := by
  unfold Claim
  k_fill
  dsimp only [CbRet]
  intros
  rename_i hret
  refine wpAny_call ?_
  k_dflt cell_enter
  refine gen_toks (Nat.add_pos_right _ (Nat.zero_lt_succ _)) ?_
  intro tkP hTkP
  k_steps
  all_goals (exact cb_retS hret (by subst_vars; rfl) (by assumption) (by assumption))
theorem attrib_ok (w : World) (x : Str) (t : Tok) : Claim w 1 91 [.str x t] (fun _ => x.length ≤ 100) (fun t => .str (attribS x) t) := by
  unfold Claim
  k_fill
  dsimp only [CbRet]
  intros
  rename_i hret
  refine wpAny_call ?_
  k_dflt cell_enter
  refine gen_toks (Nat.add_pos_right _ (Nat.zero_lt_succ _)) ?_
  intro tkP hTkP
  k_steps
  all_goals (exact cb_retS hret (by subst_vars; rfl) (by assumption) (by assumption))
end Mine
end
section
open PySem PySem.W PyProof.Rows Builtin
set_option Elab.async false
set_option maxRecDepth 100000
set_option maxHeartbeats 8000000
namespace Mine.CA
abbrev emptyD : Obj := { cls := .type "dict", data := .dict #[] }
theorem sub_dict_dict : isSubtype (.type "dict") (.type "dict") = pure true := by rw [isSubtype_type]; kernel_rfl
section
variable {prog : Program} {w : World} {A : Around} {E : Value → Shared → Prop} {s : Shared} {Q : Addr → Shared → Prop}
theorem merge_empty {d D : Addr} {o : Obj} {n : Nat} {Q : Unit → Shared → Prop} (hD : s.heap.get? D = some o) (hc : o.cls = .type "dict") (hd : o.data = .dict #[] n) (hm : (D == sysModules) = false) (h1 : s.heap.get? d = some emptyD) (h : Q () s) :
    wpAny (model prog w) A (mergeMapping d (.ref D) true) Q E s := by
  have hT : s.TypeIs (.ref D) "dict" := ⟨o, hD, hc⟩
  have f1 := sub_dict_dict
  have f2 := PySem.F.slot_dict_iter.lookup
  obtain ⟨hh, g, dd, t, os⟩ := s
  obtain ⟨oc, od, odt, osl⟩ := o
  simp only at hc hd
  subst hc hd
  unfold mergeMapping
  repeat (any_goals (first | assumption | wp_step))
theorem merged_empty {f : Value} {Y : Sem Value} (hY : wpAny (model prog w) A Y (fun v s₁ => ∃ D o n, v = .ref D ∧ s₁.heap.get? D = some o ∧ o.cls = .type "dict" ∧ o.data = .dict #[] n ∧ (D == sysModules) = false ∧ s₁.heap.get? s.heap.objs.size = some emptyD ∧ Q s.heap.objs.size s₁) E { s with heap := s.heap.push emptyD }) :
    wpAny (model prog w) A (mergedKeywords f [(none, Y)]) Q E s := by
  unfold mergedKeywords
  refine wpAny_bind (wpAny_alloc ?_)
  refine wpAny_bind (wpAny_holding ?_)
  refine wpAny_bind ?_
  refine wpAny_bind ?_
  repeat (any_goals (first | with_reducible exact wpAny_mono hY ?_ (fun _ _ x => x) | wp_step))
  refine wpAny_mono hY (fun v s₁ hq => ?_) fun _ _ x => x
  obtain ⟨D, o, n, rfl, h1, h2, h3, h4, h5, hq⟩ := hq
  refine wpAny_bind (wpAny_onRaise ?_)
  refine wpAny_holding (wpAny_tryCatch (wpAny_onRaise ?_))
  refine merge_empty h1 h2 h3 h4 h5 ?_
  repeat (any_goals (first | assumption | wp_step))
theorem keywords_none {f : Value} {d : Addr} {Q : List (Str × Value) → Shared → Prop} (h1 : s.heap.get? d = some emptyD) (h : Q [] s) : wpAny (model prog w) A (keywordsIn f d) Q E s := by
  obtain ⟨hh, g, dd, t, os⟩ := s
  unfold keywordsIn
  repeat (any_goals (first | assumption | wp_step))
abbrev tupO (vs : List Value) : Obj := { cls := .type "tuple", data := .seq vs.toArray }
variable {h₀ : Heap} {L C D : Addr} {m : Str → Option Value} {news : List (Addr × Obj)} {o : Obj} {n : Nat} {vs : List Value}
theorem evalArgs_both {f : Value} {X Y : Sem Value} {Q : Args → Shared → Prop} (F : Fr h₀ L s.heap m) (N : News h₀ L s.heap news) (hC : (C, tupO vs) ∈ news) (hD : (D, o) ∈ news) (hc : o.cls = .type "dict") (hd : o.data = .dict #[] n) (hm : (D == sysModules) = false) (hz : vs.length ≤ sizeLine)
    (hX : ∀ Q, Q (.ref C) s → wpAny (model prog w) A X Q E s) (hY : ∀ Q s', Fr h₀ L s'.heap m → Q (.ref D) s' → wpAny (model prog w) A Y Q E s') (h : ∀ h', Fr h₀ L h' m → News h₀ L h' news → Q ⟨vs, []⟩ { s with heap := h' }) :
    wpAny (model prog w) A (evalArgs f true [(true, X)] [(none, Y)]) Q E s := by
  unfold evalArgs
  have F' := F.push (emptyD)
  have N' := N.push F emptyD
  refine wpAny_bind (hX _ (wpAny_bind (wpAny_pure ?_)))
  refine wpAny_holding ?_
  refine wpAny_bind (merged_empty (hY _ _ F' ⟨D, o, n, rfl, (N' _ (.tail _ hD)).1, hc, hd, hm, (N' _ (.head _)).1, ?_⟩))
  have st := star_seq (ws := vs) (prog := prog) (w := w) (A := A) (E := E) (s := { s with heap := s.heap.push emptyD }) (Q := fun ws s' => wpAny (model prog w) A (do return (⟨ws, ← holding (.ref s.heap.objs.size :: ws) (keywordsIn f s.heap.objs.size)⟩ : Args)) Q E s') F' N' (.tail _ hC) rfl rfl (.inr rfl) (by simp) (by simpa using hz) ?_
  · unfold StarOf at st
    refine wpAny_bind (wpAny_bind (wpAny_mono st (fun b s2 hb => ?_) fun _ _ x => x))
    obtain ⟨rfl, hb⟩ := hb
    refine wpAny_ite ?_
    rw [if_neg (by decide)]
    exact wpAny_holding hb
  · intro h' F2 N2
    exact wpAny_bind (wpAny_holding (keywords_none (N2 _ (.head _)).1 (wpAny_pure (h h' F2 fun p hp => N2 p (.tail _ hp)))))

theorem callWith_both {K : Frag} {f : Value} {pos : Pos} {X Y : Sem Value} {Q : Value → Shared → Prop} (F : Fr h₀ L s.heap m) (X₀ : K.In h₀) (N : News h₀ L s.heap news) (hk : keepIn K f = true) (hC : (C, tupO vs) ∈ news) (hD : (D, o) ∈ news) (hc : o.cls = .type "dict") (hd : o.data = .dict #[] n) (hm : (D == sysModules) = false) (hz : vs.length ≤ sizeLine)
    (hX : ∀ Q, Q (.ref C) s → wpAny (model prog w) A X Q E s) (hY : ∀ Q s', Fr h₀ L s'.heap m → Q (.ref D) s' → wpAny (model prog w) A Y Q E s') (h : ∀ h', Fr h₀ L h' m → News h₀ L h' news → wpAny (model prog w) A (call f vs) Q E { s with heap := h' }) :
    wpAny (model prog w) A (callWith pos f [] [(true, X)] [(none, Y)]) Q E s := by
  unfold callWith
  refine wpAny_bind (wpAny_holding (evalArgs_both F N hC hD hc hd hm hz hX hY fun h' F' N' => wpAny_bind (wpAny_standAt ?_)))
  obtain ⟨k, hk', LK⟩ := keeps_K hk h' (X₀.keeps F'.keep)
  refine wpAny_bind (LK.here ?_)
  have tail : ∀ {t : Sem Value}, wpAny (model prog w) A t Q E { s with heap := h' } → wpAny (model prog w) A (t >>= fun r => holding [r] point >>= fun _ => pure r) Q E { s with heap := h' } :=
    fun ht => wpAny_bind (wpAny_mono ht (fun r s₂ hr => wpAny_bind (wpAny_holding (wpAny_point (wpAny_pure hr)))) fun _ _ x => x)
  have h1 : wpAny (model prog w) A (call f ([] ++ vs) []) Q E { s with heap := h' } := h h' F' N'
  have marked (mk : Value) : wpAny (model prog w) A (callMarked mk f ([] ++ vs) []) Q E { s with heap := h' } := by unfold callMarked; exact Calls.wpAny_keep h1
  rcases hk' with rfl | rfl | rfl <;> dsimp only <;> first | exact tail (marked _) | exact tail (wpAny_operating h1)
end
end Mine.CA
end
section
open PySem PySem.W PyProof.Rows
set_option Elab.async false
set_option maxRecDepth 100000
set_option maxHeartbeats 8000000
namespace Mine
theorem dict_nil {prog : Program} {w : World} {o : Obj} (h : o.IsDictOf (strKind prog w) []) : ∃ n, o.cls = .type "dict" ∧ o.data = .dict #[] n := by
  obtain ⟨es, ep, he, hd, _, hp, _⟩ := h
  have e : es = #[] := by
    cases hl : es.toList with
    | nil => exact Array.toList_inj.mp hl
    | cons a r => rw [hl] at hp; cases hp
  subst e
  exact ⟨ep, he.1, hd⟩
theorem call_ok (w : World) (f : Addr) (x : Str) (t : Tok) (P : Prop) (R : Tok → Value) (hf : keepIn (hd.heap_39 w.params) (.ref f) = true) (C : Claim w 1 f [.str x t] (fun _ => P) R) : Claim w 2 49 [.ref f, .str x t] (fun _ => P) R := by
  unfold Claim
  k_fill
  dsimp only [CbRet]
  intro mean mg mb news dp un gd cn cs a ccd cl outer A₀ base h₀ L m s Q E B F X N T hk hP hdp hun hret
  refine wpAny_call ?_
  refine' kp_both ?k1 ?k2 ?k3 ?k4 ?k5 ?kA ?kF ?kK ?k6 ?k7 ?k8 ?kV ?kX ?kQ ?kM ?kN ?kD ?kR ?kP ?kS ?kT ?kB ?_ ?c2 ?c3 ?c4 ?c5
  (case kA => exact rfl); (case kF => exact rfl); (case kK => assumption); (case k1 => k_asm); (case k2 => k_asm); (case k3 => k_asm); (case k4 => k_asm); (case k5 => k_asm); (case k6 => k_is); (case k7 => k_is); (case k8 => ktr_room); (case kV => kp_lit); (case kX => kp_lit); (case kQ => exact rfl); (case kM => exact rfl); (case kN => exact rfl); (case kD => kp_flats); (case kR => exact rfl); (case kP => exact rfl); (case kS => exact fun _ => rfl); (case kT => exact fun _ _ => rfl); (case kB => exact fun _ _ => locs rfl); (case c5 => decide); (case c2 => exact rfl); (case c3 => exact rfl); (case c4 => exact rfl)
  intro C' D' o' g' L' h' tk' l1 l2 lo' hs' fs' FG' F' N' B' X' T'
  (try k_lt l1); (try k_lt2 l2); (try dsimp only); (try k_lift B'); (try k_fold)
  k_steps
  obtain ⟨n', hc', hd'⟩ := dict_nil hs'
  refine CA.callWith_both (vs := [.str x t]) F' X' N' hf (.tail _ (.head _)) (.head _) hc' hd' lo' (Nat.le_of_ble_eq_true rfl) ?_ ?_ ?_
  · intro Q hq
    exact wpAny_bind (ld F' rfl (wpAny_bind (wpAny_standAt (wpAny_pure hq))))
  · intro Q s' F2 hq
    exact wpAny_bind (ld F2 rfl (wpAny_bind (wpAny_standAt (wpAny_pure hq))))
  · intro h2 F2 N2
    refine Claim.use C B' F2 X' N2 T' ?_ hP ?_ ?_ ?_
    · exact rfl
    · ktr_room
    · ktr_units
    · intro t9 h9 tk9 F9 N9
      k_steps
      rename News h₀ L _ _ => N8
      exact hret t9 h9 tk9 (by assumption) (cb_drop N8 fun p hp => .tail _ (.tail _ hp))
end Mine
end
section
open PySem PySem.W PyProof.Rows
set_option Elab.async false
set_option maxRecDepth 100000
set_option maxHeartbeats 8000000
namespace Mine
local macro_rules | `(tactic| walk_at "call ref") => `(tactic| (k_here; (with_reducible show wpAny _ _ (call (Value.ref 42) _ _) _ _ _); k_dflt (refine' Claim.use (concat_ok _ _ _ _ _) ?cl1 ?cl2 ?cl3 ?cl4 ?cl5 ?cl6 ?cl7 ?cl8 ?cl9 ?_; (case cl1 => k_asm); (case cl2 => k_asm); (case cl3 => k_asm); (case cl4 => k_asm); (case cl5 => k_asm); (case cl6 => first | exact rfl | assumption); (case cl8 => ktr_room); (case cl9 => ktr_units); (case cl7 => ((try dsimp only); omega))); intro t9 h9 tk9 F9 N9; (try dsimp only); (try k_fold)))
local macro_rules | `(tactic| walk_at "call ref") => `(tactic| (k_here; (with_reducible show wpAny _ _ (call (Value.ref 35) _ _) _ _ _); k_dflt (refine' Claim.use (ge_ok _ _ _ _ _) ?cl1 ?cl2 ?cl3 ?cl4 ?cl5 ?cl6 ?cl7 ?cl8 ?cl9 ?_; (case cl1 => k_asm); (case cl2 => k_asm); (case cl3 => k_asm); (case cl4 => k_asm); (case cl5 => k_asm); (case cl6 => first | exact rfl | assumption); (case cl8 => ktr_room); (case cl9 => ktr_units); (case cl7 => trivial)); intro t9 h9 tk9 F9 N9; (try dsimp only); (try k_fold)))
local macro_rules | `(tactic| walk_at "call ref") => `(tactic| (k_here; (with_reducible show wpAny _ _ (call (Value.ref 56) _ _) _ _ _); k_dflt (refine' Claim.use (iadd_ok _ _ _ _ _) ?cl1 ?cl2 ?cl3 ?cl4 ?cl5 ?cl6 ?cl7 ?cl8 ?cl9 ?_; (case cl1 => k_asm); (case cl2 => k_asm); (case cl3 => k_asm); (case cl4 => k_asm); (case cl5 => k_asm); (case cl6 => first | exact rfl | assumption); (case cl8 => ktr_room); (case cl9 => ktr_units); (case cl7 => trivial)); intro t9 h9 tk9 F9 N9; (try dsimp only); (try k_fold)))
local macro_rules | `(tactic| walk_at "call ref") => `(tactic| (k_here; (with_reducible show wpAny _ _ (call (Value.ref 63) _ _) _ _ _); k_dflt (refine' Claim.use (imod_ok _ _ _ _ _) ?cl1 ?cl2 ?cl3 ?cl4 ?cl5 ?cl6 ?cl7 ?cl8 ?cl9 ?_; (case cl1 => k_asm); (case cl2 => k_asm); (case cl3 => k_asm); (case cl4 => k_asm); (case cl5 => k_asm); (case cl6 => first | exact rfl | assumption); (case cl8 => ktr_room); (case cl9 => ktr_units); (case cl7 => ((try dsimp only); omega))); intro t9 h9 tk9 F9 N9; (try dsimp only); (try k_fold)))

def wordIt (a b : Int) (one other : Str) : Nat → Str × Int
  | 0 => (Str.ofString "", 0)
  | n + 1 => ((wordIt a b one other n).1 ++ (if a ≤ (wordIt a b one other n).2 then other else one), ((wordIt a b one other n).2 + b).fmod (a + b))
theorem str_len_append (x y : Str) : (x ++ y).length = x.length + y.length := by simp [Str.length, Str.cps_append]
theorem word_st {a b : Int} {one other w x : Str} {c k : Int} {pre : List Int} (h1 : w = (wordIt a b one other pre.length).1) (h2 : c = (wordIt a b one other pre.length).2) (h3 : w.length = pre.length) (hab : 0 < a + b) (hx : x = if a ≤ c then other else one) (hl : x.length = 1) :
    (w ++ x) = (wordIt a b one other (pre ++ [k]).length).1 ∧ (c + b).fmod (a + b) = (wordIt a b one other (pre ++ [k]).length).2 ∧ (w ++ x).length = (pre ++ [k]).length ∧ 0 ≤ (c + b).fmod (a + b) ∧ (c + b).fmod (a + b) < a + b := by
  have e : (pre ++ [k]).length = pre.length + 1 := by simp
  rw [e, wordIt, ← h1, ← h2, ← hx, str_len_append, h3, hl]
  exact ⟨rfl, rfl, rfl, Int.fmod_nonneg_of_pos _ hab, Int.fmod_lt_of_pos _ hab⟩
theorem word_ok (w : World) (a b : Int) (one other : Str) (t1 t2 t3 t4 : Tok) : Claim w 3 110 [.int a t1, .int b t2, .str one t3, .str other t4] (fun _ => 0 < a ∧ 0 < b ∧ a + b ≤ 12 ∧ one.length = 1 ∧ other.length = 1) (fun t => .str (wordIt a b one other (a + b).toNat).1 t) := by
  unfold Claim
  k_fill
  dsimp only [CbRet]
  intros
  rename_i hp hdp hun hret
  obtain ⟨ha, hb, hab, h1, h2⟩ := hp
  k_with "state" => first | exact word_st (by assumption) (by assumption) (by assumption) (by omega) (by rw [if_pos (by assumption)]) h2 | exact word_st (by assumption) (by assumption) (by assumption) (by omega) (by rw [if_neg (by omega)]) h1
  refine wpAny_call ?_
  k_dflt cell_enter
  repeat' (first | (k_unfold; (try dsimp only)) | (k_end; wrow_close) | ((fail_if_success (with_reducible show wpAny _ _ (pyIter (Value.ref _)) _ _ _)); walk1) | ((fail_if_success (with_reducible show wpAny _ _ (pyIter (Value.ref _)) _ _ _)); dsimp only; walk1) | (leave1; try dsimp only) | fail "no step")
  k_state (fun pre word count => word = (wordIt a b one other pre.length).1 ∧ count = (wordIt a b one other pre.length).2 ∧ word.length = pre.length ∧ 0 ≤ count ∧ count < a + b) "word" "count"
  all_goals k_steps
  have e : ∀ x, x = (wordIt a b one other (rangeKs 0 (a + b - 0).toNat).length).1 → x = (wordIt a b one other (a + b).toNat).1 := by
    intro x hx
    rw [rangeKs_length, Int.sub_zero] at hx
    exact hx
  exact cb_retS hret (e _ (by assumption)) (by assumption) (by assumption)
end Mine
end
section
open PySem PySem.W PyProof.Rows Builtin
set_option Elab.async false
set_option maxRecDepth 100000
set_option maxHeartbeats 8000000
namespace Mine.FI
theorem slot_filter_init : Slot "filter" "__init__" "object.__init__" :=
  .of (owner := "object") (n := "__init__") (by rw [typeLookup_type, builtinLookup_eq_fast]; kernel_rfl) (by decide +kernel) (by decide +kernel) (by decide +kernel)
    (by first | exact .inl (by decide +kernel) | exact .inr (by decide +kernel)) (by rw [isSubtype_type]; kernel_rfl)
theorem slot_filter_next : Slot "filter" "__next__" "filter.__next__" :=
  .of (owner := "filter") (n := "__next__") (by rw [typeLookup_type, builtinLookup_eq_fast]; kernel_rfl) (by decide +kernel) (by decide +kernel) (by decide +kernel)
    (by first | exact .inl (by decide +kernel) | exact .inr (by decide +kernel)) (by rw [isSubtype_type]; kernel_rfl)
theorem slot_filter_iter : Slot "filter" "__iter__" "filter.__iter__" :=
  .of (owner := "filter") (n := "__iter__") (by rw [typeLookup_type, builtinLookup_eq_fast]; kernel_rfl) (by decide +kernel) (by decide +kernel) (by decide +kernel)
    (by first | exact .inl (by decide +kernel) | exact .inr (by decide +kernel)) (by rw [isSubtype_type]; kernel_rfl)
theorem entry_filter_iter : entryFor table "filter.__iter__" = some Builtin.«dict_keyiterator.__iter__» :=
  entryFor_alias (id' := "dict_keyiterator.__iter__") (by kernel_rfl) (by first | rfl | decide +kernel) (by decide +kernel) (by kernel_rfl)
theorem entry_filter_next : entryFor table "filter.__next__" = some Builtin.«filter.__next__» := entryFor_of_tree (by kernel_rfl)
theorem args_filter_next (a : Value) : argsOk "filter.__next__" ⟨[a], []⟩ := by unfold argsOk; kernel_rfl
theorem args_filter_iter (a : Value) : argsOk "filter.__iter__" ⟨[a], []⟩ := by unfold argsOk; kernel_rfl
theorem mro_filter : mroOf (.type "filter") = pure [.type "filter", .type "object"] := by rw [mroOf_type]; kernel_rfl
theorem lookup_filter_new : typeLookup (.type "filter") "__new__" = pure (some (.builtin "filter.__new__")) := by rw [typeLookup_type, builtinLookup_eq_fast]; kernel_rfl
theorem called_filter : TypeCalled "filter" "filter.__new__" "object.__init__" :=
  ⟨by decide +kernel, by decide +kernel, ⟨_, _, mro_filter⟩, madeBy_type mro_filter lookup_filter_new (by decide +kernel), by decide +kernel, by rw [isSubtype_type]; kernel_rfl, slot_filter_init⟩
theorem typeCall_filter (a b : Value) : checkTypeCall "filter" ⟨[a, b], []⟩ = pure () := by kernel_rfl
theorem newCall_filter (a b : Value) : checkBuiltinCall "filter.__new__" ⟨[.type "filter", a, b], []⟩ = pure () := by kernel_rfl
theorem entry_filter_new : entryFor table "filter.__new__" = some Builtin.«filter.__new__» := entryFor_of_tree (by kernel_rfl)
theorem args_object_init_3 (a b c : Value) : argsOk "object.__init__" ⟨[a, b, c], []⟩ := by unfold argsOk; kernel_rfl
theorem sub_filter : isSubtype (.type "filter") (.type "filter") = pure true := by rw [isSubtype_type]; kernel_rfl
abbrev valIter (d : Addr) (n ep : Nat) : Obj := { cls := .type "dict_valueiterator", data := .fields #[.ref d, .int 0 0, .int n 0, .int ep 0] }
abbrev filterO (I : Addr) : Obj := { cls := .type "filter", data := .fields #[.none, .ref I] }
section
variable {prog : Program} {w : World} {A : Around} {E : Value → Shared → Prop}
theorem iter_values {s : Shared} {v d : Addr} {o : Obj} {es : Array DictEntry} {ep : Nat} {Q : Value → Shared → Prop} (hv : s.heap.IsValuesView v d) (ho : s.heap.get? d = some o) (hd : o.data = .dict es ep)
    (hQ : Q (.ref s.heap.objs.size) { s with heap := s.heap.push (valIter d es.size ep) }) : wpAny (model prog w) A (pyIter (.ref v)) Q E s := by
  obtain ⟨hh, g, dd, t, os⟩ := s
  obtain ⟨⟨ovc, ovd, ovt, ovs⟩, hov, hcv, hdv⟩ := id hv
  obtain ⟨oc, od, odt, osl⟩ := o
  simp only at hcv hdv hd
  subst hcv hdv hd
  refine wpAny_pyIter_slot hv.typeIs F.slot_dict_values_iter (wpAny_call_entry F.slot_dict_values_iter hv.typeIs F.entry_dict_values_iter ?_ (F.args_dict_values_iter_1 _))
  have hown : Builtin.Dict_items.ownsTuple "dict_valueiterator" = false := by decide
  repeat (any_goals (first | assumption | wp_step))
  simp only [hown, Bool.false_eq_true, if_false] at *
  exact ⟨_, rfl, "dict_valueiterator", _, ⟨_, Heap.get?_push_size _ rfl, rfl⟩, F.slot_dict_valueiterator_next.lookup, hQ⟩
theorem meets_filter_new (v d : Addr) (n ep : Nat) :
    Meets (Builtin.«filter.__new__» ⟨[.type "filter", .none, .ref v], []⟩) (fun _ R s => s.heap.IsValuesView v d ∧ (∃ o es, s.heap.get? d = some o ∧ o.data = .dict es ep ∧ es.size = n) ∧
      R (.ok (.ret (.ref (s.heap.push (valIter d n ep)).objs.size))) { s with heap := (s.heap.push (valIter d n ep)).push (filterO s.heap.objs.size) }) :=
  .of_wp fun prog w A R s ⟨hv, ⟨o, es, ho, hd, hn⟩, h⟩ => by
    subst hn
    obtain ⟨hp, g, dd, tk, os⟩ := s
    have hsub := sub_filter
    repeat (any_goals (first | assumption | with_reducible refine iter_values hv ho hd ?_ | wp_step))
    exact ⟨_, rfl, h⟩
theorem call_filter {s : Shared} {v d : Addr} {o : Obj} {es : Array DictEntry} {ep : Nat} {Q : Value → Shared → Prop} (hv : s.heap.IsValuesView v d) (ho : s.heap.get? d = some o) (hd : o.data = .dict es ep)
    (hQ : Q (.ref (s.heap.objs.size + 1)) { s with heap := (s.heap.push (valIter d es.size ep)).push (filterO s.heap.objs.size) }) : wpAny (model prog w) A (call (.type "filter") [.none, .ref v]) Q E s := by
  refine callType_new called_filter (by decide) (typeCall_filter _ _) (newCall_filter _ _) (fun obj => args_object_init_3 obj _ _) entry_filter_new
    (meets_filter_new v d es.size ep) ⟨hv, ⟨o, es, ho, hd, rfl⟩, ?_⟩
  have hz : (s.heap.push (valIter d es.size ep)).objs.size = s.heap.objs.size + 1 := Heap.size_push ..
  show _ ∧ _
  rw [hz]
  have he := Heap.get?_push_size (s.heap.push (valIter d es.size ep)) (o := filterO s.heap.objs.size) rfl
  rw [hz] at he
  exact ⟨⟨_, he, rfl⟩, hQ⟩
end
end Mine.FI
end
section
open PySem PySem.W PyProof.Rows Builtin
set_option Elab.async false
set_option maxRecDepth 100000
set_option maxHeartbeats 8000000
namespace Mine.FI
theorem wp_false {α : Type} (M : Model) (Γ : Ctx) (t : Sem α) : ∀ (p : Pos) (s : Shared), Sem.wp M Γ t (fun _ _ _ => False) (fun _ _ _ => False) p s → False := by
  induction t with
  | pure a => intro p s h; rw [Sem.wp] at h; exact h
  | raise e => intro p s h; rw [Sem.wp] at h; exact h
  | unsupported | finish | yield | fork | await | register => intro p s h; rw [Sem.wp] at h; exact h
  | rule _ k ih | «at» _ k ih | alloc _ k ih | loadIfAlive _ k ih | point _ k ih | fresh k ih | ask k ih | os _ _ k ih | handled _ k ih | newGen _ k ih | stack k ih | thread k ih => intro p s h; rw [Sem.wp] at h; exact ih _ _ _ h
  | load a _ k ih | genState a k ih => intro p s h; rw [Sem.wp] at h; obtain ⟨o, ho, h⟩ := h; exact ih _ _ _ h
  | update a _ f k ih | choose _ _ k ih => intro p s h; rw [Sem.wp] at h; exact ih _ _ _ h.2
  | call c h g l k ih => intro p s h; rw [Sem.wp] at h; obtain ⟨r, s', _, h⟩ := h; exact ih _ _ _ h
  | resume g r l k ih => intro p s h; rw [Sem.wp] at h; obtain ⟨r, s', _, h⟩ := h; exact ih _ _ _ h
theorem of_pyNext {M : Model} {A : Around} {it : Value} {Q : Option Value → Shared → Prop} {E : Value → Shared → Prop} {s : Shared}
    (h : wpAny M A (pyNext it) (fun r s' => ∃ x, r = some x ∧ Q (some x) s') (fun _ _ => False) s) : wpAny M A (callSpecial? it "__next__") Q E s := by
  intro Γ p hΓ
  have h := h Γ p hΓ
  unfold pyNext at h
  rw [Sem.wp_bind', Sem.wp_attempt] at h
  refine Sem.wp_mono M Γ _ (fun r p' s' hr => ?_) (fun e p' s' he => ?_) p s h
  · cases r with
    | none => dsimp only at hr; exact absurd hr (by unfold unsupported; rw [Sem.wp]; exact id)
    | some v =>
      dsimp only at hr
      rw [Sem.wp_pure'] at hr
      obtain ⟨x, e, hx⟩ := hr
      cases e
      exact hx
  · exfalso
    dsimp only at he
    rw [Sem.wp_bind'] at he
    refine wp_false M Γ _ p' s' (Sem.wp_mono M Γ _ (fun b p2 s2 hb => ?_) (fun _ _ _ x => x) p' s' he)
    cases b with
    | true =>
      simp only [if_true] at hb
      rw [Sem.wp_pure'] at hb
      obtain ⟨x, e, _⟩ := hb
      cases e
    | false =>
      simp only [Bool.false_eq_true, if_false] at hb
      rw [Sem.wp_throw] at hb
      exact hb
section
variable {prog : Program} {w : World} {K : Type} [DecidableEq K] {knd : KeyKind prog w K} {A : Around} {E : Value → Shared → Prop} {s : Shared}
theorem next_item {it d : Addr} {i ep : Nat} {kvs : List (K × Value)} {k : K} {v : Value} {Q : Option Value → Shared → Prop} (hit : s.heap.IsValIter it d i kvs.length ep)
    (hm : s.heap.DictAt knd d kvs ep) (hx : kvs[i]? = some (k, v)) (hQ : ∀ h', h'.IsValIter it d (i + 1) kvs.length ep → Heap.SameBut it s.heap h' → Q (some v) { s with heap := h' }) :
    wpAny (model prog w) A (callSpecial? (.ref it) "__next__") Q E s :=
  of_pyNext (wpAny_pyNext_values_item hit hm hx fun h' a b => ⟨v, rfl, hQ h' a b⟩)
theorem isOneOf_val {it : Addr} {types : List String} {Q : Bool → Shared → Prop} (hT : s.TypeIs (.ref it) "dict_valueiterator")
    (h : Q (types.any fun t => [Value.type "dict_valueiterator", Value.type "object"].contains (.type t)) s) : wpAny (model prog w) A (Builtin.Dict_items.isOneOf (.ref it) types) Q E s := wpAny_isOneOf_valiter hT h
theorem next_end {it d : Addr} {ep : Nat} {kvs : List (K × Value)} {Q : Option Value → Shared → Prop} (hh : A.handled = none) (hit : s.heap.IsValIter it d kvs.length kvs.length ep)
    (hm : s.heap.DictAt knd d kvs ep) (hE : ∀ h' e o, h'.get? e = some o → o.cls = .type "StopIteration" → Heap.ExtBut it s.heap h' → E (.ref e) { s with heap := h' }) :
    wpAny (model prog w) A (callSpecial? (.ref it) "__next__") Q E s := by
  obtain ⟨⟨oc, od, odt, osl⟩, ho, hc, hd⟩ := id hit
  obtain ⟨⟨odc, odd, oddt, odsl⟩, es, hod, hcd, hdd, hk, hp, hn⟩ := id hm
  have hsz : es.size = kvs.length := by rw [← hp.length]; simp
  have hT : s.TypeIs (.ref it) "dict_valueiterator" := hit.typeIs
  have hh' : A.in1.handled = none := hh
  obtain ⟨hp0, g, dd, tk, os⟩ := s
  simp only at hc hd hdd
  subst hc hd hdd
  have hown : Builtin.Dict_items.ownsTuple "dict_valueiterator" = false := by decide
  refine wpAny_callSpecial?_slot (name := Str.ofString "__next__") hT F.slot_dict_valueiterator_next
    (wpAny_call_entry F.slot_dict_valueiterator_next hT F.entry_dict_valueiterator_next ?_ (F.args_dict_valueiterator_next_1 _))
  repeat (any_goals (first | assumption | with_reducible refine wpAny_typeNameOfWhole_valiter (by assumption) ?_ | with_reducible refine wpAny_isOneOf_valiter (by assumption) ?_ | wp_step))
  have hnone : (if (kvs.length : Int) < 0 then none else es[(kvs.length : Int).toNat]?) = none := by
    rw [if_neg (by omega), Int.toNat_natCast]
    exact Array.getElem?_eq_none (by omega)
  rw [hnone]
  repeat (any_goals (first | assumption | with_reducible refine wpAny_typeNameOfWhole_valiter (by assumption) ?_ | with_reducible refine wpAny_isOneOf_valiter (by assumption) ?_ | wp_step))
  simp only [raiseNew]
  refine wpAny_bind (wpAny_handled ?_)
  rw [hh']
  exact wpAny_bind (wpAny_pure (wpAny_throw (hE _ _ _ (Heap.get?_push_size _ rfl) rfl (((Heap.SameBut.update ..).extBut.push _).push _))))
theorem sub_stop : isSubtype (.type "StopIteration") (.type "StopIteration") = pure true := by rw [isSubtype_type]; kernel_rfl
def Walked (knd : KeyKind prog w K) (FI I d : Addr) (kvs : List (K × Value)) (ep : Nat) (i : Nat) (h : Heap) : Prop :=
  h.get? FI = some (filterO I) ∧ h.IsValIter I d i kvs.length ep ∧ h.DictAt knd d kvs ep
theorem walks_filter (hh : A.handled = none) (FI I d : Addr) (h1 : d ≠ I) (h2 : FI ≠ I) (kvs : List (K × Value)) (ep : Nat) (hs : ∀ (i : Nat) k v, kvs[i]? = some (k, v) → ∃ x t, v = .str x t ∧ 0 < x.length ∧ x.length ≤ 100000) :
    Walks prog w A FI [FI, I, d] [I] kvs.length (fun i v => ∃ k, kvs[i]? = some (k, v)) (Walked knd FI I d kvs ep) where
  sub := fun b hb => by simp at hb; simp [hb]
  frame := fun _ _ _ st hk => ⟨hk FI (by simp) _ st.1, st.2.1.at fun o e => hk I (by simp) o e, st.2.2.at' fun o e => hk d (by simp) o e⟩
  item := fun i s Q E hi st hQ => by
    obtain ⟨hF, hit, hm⟩ := st
    obtain ⟨⟨k, v⟩, hx⟩ : ∃ p, kvs[i]? = some p := ⟨kvs[i], by simp [hi]⟩
    obtain ⟨x, t, rfl, hl, hl2⟩ := hs i k v hx
    have hT : s.TypeIs (.ref FI) "filter" := ⟨_, hF, rfl⟩
    unfold pyNext
    refine wpAny_bind (wpAny_attempt (wpAny_callSpecial?_slot (name := Str.ofString "__next__") hT slot_filter_next
      (wpAny_call_entry slot_filter_next hT entry_filter_next ?_ (args_filter_next _))))
    obtain ⟨hp0, g, dd, tk, os⟩ := s
    have nx : ∀ {A' : Around} {E' : Value → Shared → Prop} {Q' : Option Value → Shared → Prop}, (∀ h', h'.IsValIter I d (i + 1) kvs.length ep → Heap.SameBut I hp0 h' → Q' (some (.str x t)) ⟨h', g, dd, tk, os⟩) → wpAny (model prog w) A' (callSpecial? (.ref I) "__next__") Q' E' ⟨hp0, g, dd, tk, os⟩ := fun hq => next_item (s := ⟨hp0, g, dd, tk, os⟩) hit hm hx hq
    have tr : ∀ {A' : Around} {E' : Value → Shared → Prop} {Q' : Bool → Shared → Prop} {s' : Shared}, Q' true { s' with toks := s'.toks + 1 + 1 } → wpAny (model prog w) A' (truthy (.str x t)) Q' E' s' := fun hq => by
      refine P.truthy_str (by omega) ?_
      have e : ((x.length : Int) != 0) = true := by simp; omega
      rw [e]
      exact hq
    refine wpAny_bind (wpAny_of_eq (a := (.ref FI, [])) rfl ?_)
    refine wpAny_bind (wpAny_field hF rfl (x := .none) rfl ?_)
    refine wpAny_bind (wpAny_field hF rfl (x := .ref I) rfl ?_)
    refine wpAny_bind (nx fun h' a b => ?_)
    have hF' : h'.get? FI = some (filterO I) := (b.2 FI h2).trans hF
    refine wpAny_bind (wpAny_holding (wpAny_bind (wpAny_rule (tr ?_))))
    exact wpAny_pure ⟨_, rfl, wpAny_pure (hQ (.str x t) h' _ ⟨k, hx⟩ ⟨hF', a, hm.extBut b.extBut h1⟩ fun b' o hb e => b.extBut b' o (fun h => hb (by simp [h])) e)⟩
  done := fun s Q E st hQ => by
    obtain ⟨hF, hit, hm⟩ := st
    have hT : s.TypeIs (.ref FI) "filter" := ⟨_, hF, rfl⟩
    unfold pyNext
    refine wpAny_bind (wpAny_attempt (wpAny_callSpecial?_slot (name := Str.ofString "__next__") hT slot_filter_next
      (wpAny_call_entry slot_filter_next hT entry_filter_next ?_ (args_filter_next _))))
    refine wpAny_bind (wpAny_of_eq (a := (.ref FI, [])) rfl ?_)
    refine wpAny_bind (wpAny_field hF rfl (x := .none) rfl ?_)
    refine wpAny_bind (wpAny_field hF rfl (x := .ref I) rfl ?_)
    refine wpAny_bind (next_end hh hit hm fun h' e o ho hc b => ?_)
    refine wpAny_bind (wpAny_isInstance (T := "StopIteration") (b := true) ⟨_, ho, hc⟩ sub_stop ?_)
    exact wpAny_pure (hQ h' s.toks fun b' o hb e => b b' o (fun h => hb (by simp [h])) e)
  self := fun i s Q E st hQ => by
    have hT : s.TypeIs (.ref FI) "filter" := ⟨_, st.1, rfl⟩
    refine wpAny_pyIter_slot hT slot_filter_iter (wpAny_call_entry slot_filter_iter hT entry_filter_iter ?_ (args_filter_iter _))
    show wpAny _ _ (ret (.ref FI)) _ _ s
    exact wpAny_pure ⟨_, rfl, "filter", _, hT, slot_filter_next.lookup, hQ⟩
end
end Mine.FI
end
section
open PySem PySem.W PyProof.Rows Builtin
set_option Elab.async false
set_option maxRecDepth 100000
set_option maxHeartbeats 8000000
namespace Mine.FI
abbrev bestO (vs : Array Value) (c : Nat) : Obj := { cls := .type "list", dict := none, data := .seq vs c, slots := #[] }
abbrev maxC (I S : Addr) (d : Value) : Code := .builtin "max.loop" ⟨[.ref I, .none, .ref S], [(Str.ofString "default", d)]⟩
section
variable {prog : Program} {w : World} {A : Around} {R : Result → Shared → Prop} {I S : Addr} {fp wr : List Addr} {n : Nat} {P : Nat → Value → Prop} {St : Nat → Heap → Prop} {d : Value}
/-- before turn j: the best of the first j stands in the list S -/
def MaxAt (St : Nat → Heap → Prop) (P : Nat → Value → Prop) (bt : Nat → Nat → Bool) (S : Addr) (wr : List Addr) (n : Nat) (s₀ : Shared) (r : Nat) (s : Shared) : Prop :=
  ∃ j h tk vs c, s = { s₀ with heap := h, toks := tk } ∧ j ≤ n ∧ r = n - j ∧ St j h ∧ h.get? S = some (bestO vs c) ∧ (∀ b o, b ∉ wr → b ≠ S → s₀.heap.get? b = some o → h.get? b = some o) ∧
    ((j = 0 ∧ vs = #[]) ∨ ∃ i vb, j = i + 1 ∧ vs = #[vb, vb] ∧ P (argBest bt i) vb)
theorem max_walk (W : Walks prog w A.in1 I fp wr n P St) (bt : Nat → Nat → Bool) (hcmp : CmpOf prog w A.in1 .Gt P bt) (hSf : S ∉ fp) (hn : 0 < n) {s : Shared} (hst : St 0 s.heap) {c : Nat} (hS : s.heap.get? S = some (bestO #[] c))
    (hR : ∀ v h' tk, P (argBest bt (n - 1)) v → (∀ b o, b ∉ wr → b ≠ S → s.heap.get? b = some o → h'.get? b = some o) → R (.ok (.ret v)) { s with heap := h', toks := tk }) :
    codeAny (model prog w) A (maxC I S d) R s := by
  have hSw : S ∉ wr := fun h => hSf (W.sub _ h)
  have hname : (toString "max" ++ toString ".loop" : String) = "max.loop" := by decide
  have hu : A.under (maxC I S d) = A.in1 := Around.under_plainId F.plain_max_loop _
  refine codeAny_loop (plainId_quiet F.plain_max_loop _) (MaxAt St P bt S wr n s) ?_ n ⟨0, s.heap, s.toks, #[], c, rfl, Nat.zero_le _, by omega, hst, hS, fun _ _ _ _ e => e, .inl ⟨rfl, rfl⟩⟩
  rintro r s₁ ⟨j, h, tk, vs, c, rfl, hj, rfl, hst, hS, hk, hb⟩
  rw [hu]
  show wpAny _ _ (match entryFor table "max.loop" with | some b => b ⟨[.ref I, .none, .ref S], [(Str.ofString "default", d)]⟩ | none => unsupported ((withoutEnding? "max.loop" "#data").getD "max.loop")) _ _ _
  rw [F.entry_max_loop]
  refine wpAny_bind (wpAny_seqItems hS rfl ?_)
  refine wpAny_bind (wpAny_tryCatch ?_)
  rcases hb with ⟨rfl, rfl⟩ | ⟨i, vb, rfl, rfl, hP⟩
  · refine W.item 0 _ _ _ hn hst fun v h2 tk2 hP2 hst2 hk2 => ?_
    have hS2 := hk2 S _ hSw hS
    refine wpAny_bind (wpAny_pure (wpAny_bind ?_))
    refine wpAny_updateSeq hS2 rfl ?_
    rw [hname]
    refine wpAny_pure ⟨rfl, n - 1, by omega, 1, _, tk2, _, _, rfl, hn, rfl, W.frame _ _ _ hst2 fun b hbf o e => ?_, Heap.get?_update_self _ hS2 rfl, fun b o hbw hbS e => ?_, .inr ⟨0, v, rfl, rfl, hP2⟩⟩
    · exact (Heap.get?_update_other _ _ (fun h : S = b => hSf (by rw [h]; exact hbf))).trans e
    · exact (Heap.get?_update_other _ _ (Ne.symm hbS)).trans (hk2 b o hbw (hk b o hbw hbS e))
  · by_cases hlt : i + 1 < n
    · refine W.item (i + 1) _ _ _ hlt hst fun v h2 tk2 hP2 hst2 hk2 => ?_
      have hS2 := hk2 S _ hSw hS
      refine wpAny_bind (wpAny_pure (wpAny_bind (wpAny_tryCatch (wpAny_holding (wpAny_bind (hcmp (i + 1) (argBest bt i) v vb _ _ _ hP2 hP ?_))))))
      refine wpAny_bind (wpAny_holding (wpAny_truthy_bool ?_))
      refine wpAny_bind (wpAny_letGo (wpAny_pure ?_))
      cases hbt : bt (i + 1) (argBest bt i) with
      | true =>
        simp only [if_true]
        refine wpAny_bind (wpAny_updateSeq hS2 rfl (wpAny_bind (wpAny_letGo ?_)))
        rw [hname]
        refine wpAny_pure ⟨rfl, n - (i + 2), by omega, i + 2, _, tk2, _, _, rfl, hlt, rfl, W.frame _ _ _ hst2 fun b hbf o e => ?_, Heap.get?_update_self _ hS2 rfl, fun b o hbw hbS e => ?_, .inr ⟨i + 1, v, rfl, rfl, by simp only [argBest, hbt, if_true]; exact hP2⟩⟩
        · exact (Heap.get?_update_other _ _ (fun h : S = b => hSf (by rw [h]; exact hbf))).trans e
        · exact (Heap.get?_update_other _ _ (Ne.symm hbS)).trans (hk2 b o hbw (hk b o hbw hbS e))
      | false =>
        simp only [Bool.false_eq_true, if_false]
        refine wpAny_bind (wpAny_letGo ?_)
        rw [hname]
        exact wpAny_pure ⟨rfl, n - (i + 2), by omega, i + 2, _, tk2, _, _, rfl, hlt, rfl, hst2, hS2, fun b o hbw hbS e => hk2 b o hbw (hk b o hbw hbS e), .inr ⟨i + 1, vb, rfl, rfl, by simp only [argBest, hbt, Bool.false_eq_true, if_false]; exact hP⟩⟩
    · have hin : i + 1 = n := by omega
      refine W.done _ _ _ (hin ▸ hst) fun h2 tk2 hk2 => ?_
      have hS2 := hk2 S _ hSw hS
      refine wpAny_bind (wpAny_updateSeq hS2 rfl (wpAny_bind (wpAny_letGo (wpAny_pure ?_))))
      exact hR vb _ tk2 (by rw [← hin]; exact hP) fun b o hbw hbS e => (Heap.get?_update_other _ _ (Ne.symm hbS)).trans (hk2 b o hbw (hk b o hbw hbS e))
end
end Mine.FI
end
section
open PySem PySem.W PyProof.Rows Builtin
set_option Elab.async false
set_option maxRecDepth 100000
set_option maxHeartbeats 8000000
namespace Mine.FI
theorem args_max_default (a v : Value) : argsOk "max" ⟨[a], [(Str.ofString "default", v)]⟩ := by unfold argsOk; kernel_rfl
section
variable {prog : Program} {w : World} {A : Around} {I : Addr} {fp wr : List Addr} {n : Nat} {P : Nat → Value → Prop} {St : Nat → Heap → Prop} {d : Value}
theorem call_max_default {E : Value → Shared → Prop} {s : Shared} {Q : Value → Shared → Prop} (W : Walks prog w A.in1 I fp wr n P St) (bt : Nat → Nat → Bool) (hcmp : CmpOf prog w A.in1 .Gt P bt) (hn : 0 < n) (hst : St 0 s.heap) (hfp : ∀ b ∈ fp, b < s.heap.objs.size)
    (hQ : ∀ v h' tk, P (argBest bt (n - 1)) v → (∀ b o, b ∉ wr → s.heap.get? b = some o → h'.get? b = some o) → Q v { s with heap := h', toks := tk }) :
    wpAny (model prog w) A (call (.builtin "max") [.ref I] [(Str.ofString "default", d)]) Q E s := by
  have hname : (toString "max" ++ toString ".loop" : String) = "max.loop" := by decide
  refine kmb_tree F.kind_max F.plain_max F.entry_max (args_max_default _ _) ?_
  show wpAny _ A.in1 (Builtin.Builtins.bindParams "max" ["key", "default"] 0 ⟨[], [(Str.ofString "default", d)]⟩ >>= _) _ _ s
  refine wpAny_bind (wpAny_of_eq (show Builtin.Builtins.bindParams "max" ["key", "default"] 0 ⟨[], [(Str.ofString "default", d)]⟩ = pure [none, some d] from by first | rfl | kernel_rfl) ?_)
  refine wpAny_bind (wpAny_pure ?_)
  refine wpAny_bind (W.self 0 s _ _ hst ?_)
  refine wpAny_bind (wpAny_newObj_type ?_)
  have hSf : s.heap.objs.size ∉ fp := fun hm => Nat.lt_irrefl _ (hfp _ hm)
  rw [hname]
  refine wpAny_pure ⟨plainId_quiet F.plain_max_loop _, max_walk W bt hcmp (s := { s with heap := s.heap.push (bestO #[] 0) }) hSf hn (W.frame _ _ _ hst fun b _ o e => Heap.get?_push_of_some _ e) (Heap.get?_push_size _ rfl) fun v h' tk hP hk => ?_⟩
  exact hQ v h' tk hP fun b o hbw e => hk b o hbw (Nat.ne_of_lt (Heap.lt_size e)) (Heap.get?_push_of_some _ e)
end
end Mine.FI
end
section
open PySem PySem.W PyProof.Rows PyProof.V
set_option Elab.async false
set_option maxRecDepth 100000
set_option maxHeartbeats 8000000
namespace Mine.FI
theorem type_dict_values : typeOf (.builtin "dict.values") = pure (.type "method_descriptor") := by show builtinType _ = _; rw [builtinType_eq_fast]; kernel_rfl
abbrev viewO (d : Addr) : Obj := { cls := .type "dict_values", data := .fields #[.ref d] }
/-- the table of lines: int keys, the values texts, none empty, none long -/
structure LinesAre (prog : Program) (w : World) (o : Obj) (kvs : List (Int × Value)) (X : Nat → Str) : Prop where
  dict : o.IsDictOf (PySem.intKind prog w) kvs
  vals : ∀ (i : Nat) k v, kvs[i]? = some (k, v) → ∃ t, v = .str (X i) t
  long : ∀ i, i < kvs.length → 0 < (X i).length ∧ (X i).length ≤ 100000
def gtS (X : Nat → Str) (i j : Nat) : Bool := decide ((X j).cps.toList < (X i).cps.toList)
section
variable {prog : Program} {w : World} {A : Around} {E : Value → Shared → Prop} {s : Shared} {h₀ : Heap} {L D V I FI : Addr} {m : Str → Option Value} {news : List (Addr × Obj)} {o : Obj} {kvs : List (Int × Value)} {X : Nat → Str}
theorem getMethod_values {pl : Sem Bool} {Q : Value × List Value → Shared → Prop} (N : News h₀ L s.heap news) (hD : (D, o) ∈ news) (hl : LinesAre prog w o kvs X) (h : Q (.builtin "dict.values", [.ref D]) s) :
    wpAny (model prog w) A (getMethod (.ref D) "values" pl) Q E s := by
  have hd : s.heap.DictOf (PySem.intKind prog w) D kvs := Heap.dictOf_iff.mpr ⟨o, (N _ hD).1, hl.dict⟩
  exact getMethod_builtin hd.typeIs PySem.F.plainAttrs_dict PySem.F.slot_dict_values type_dict_values hd.mapOf.noDict h
theorem call_filter_fr {Q : Value → Shared → Prop} (F : Fr h₀ L s.heap m) (N : News h₀ L s.heap news) (hV : (V, viewO D) ∈ news) (hD : (D, o) ∈ news) (hl : LinesAre prog w o kvs X)
    (h : ∀ I FI ep h', (∃ es, o.data = .dict es ep) → Fr h₀ L h' m → News h₀ L h' ((FI, filterO I) :: (I, valIter D kvs.length ep) :: news) → (∀ p ∈ news, p.1 < I) → I < FI → Q (.ref FI) { s with heap := h' }) :
    wpAny (model prog w) A (call (.type "filter") [.none, .ref V]) Q E s := by
  obtain ⟨es, ep, he, hdt, _, hp, _⟩ := id hl.dict
  have hsz : es.size = kvs.length := by rw [← hp.length]; simp
  refine call_filter ⟨_, (N _ hV).1, rfl, rfl⟩ (N _ hD).1 hdt ?_
  rw [hsz]
  have N1 := N.push F (valIter D kvs.length ep)
  have F1 := F.push (valIter D kvs.length ep)
  have N2 := N1.push F1 (filterO s.heap.objs.size)
  have F2 := F1.push (filterO s.heap.objs.size)
  have hz : (s.heap.push (valIter D kvs.length ep)).objs.size = s.heap.objs.size + 1 := Heap.size_push ..
  rw [hz] at N2
  exact h s.heap.objs.size (s.heap.objs.size + 1) ep _ ⟨es, hdt⟩ F2 N2 (fun p hp => Heap.lt_size (N p hp).1) (Nat.lt_succ_self _)
theorem call_max_fr {Q : Value → Shared → Prop} {dv : Value} {ep : Nat} (hh : A.handled = none) (F : Fr h₀ L s.heap m) (N : News h₀ L s.heap ((FI, filterO I) :: (I, valIter D kvs.length ep) :: news)) (hD : (D, o) ∈ news) (hl : LinesAre prog w o kvs X) (hep : ∃ es, o.data = .dict es ep)
    (hlt : ∀ p ∈ news, p.1 < I) (hlt2 : I < FI) (hn : 0 < kvs.length)
    (h : ∀ t h' tk, Fr h₀ L h' m → News h₀ L h' news → Q (.str (X (argBest (gtS X) (kvs.length - 1))) t) { s with heap := h', toks := tk }) :
    wpAny (model prog w) A (call (.builtin "max") [.ref FI] [(Str.ofString "default", dv)]) Q E s := by
  have hDI : D ≠ I := Nat.ne_of_lt (hlt _ hD)
  have hFI : FI ≠ I := Nat.ne_of_gt hlt2
  have W := walks_filter (prog := prog) (w := w) (knd := PySem.intKind prog w) (A := A.in1) hh FI I D hDI hFI kvs ep (fun i k v hx => by
    obtain ⟨t, rfl⟩ := hl.vals i k v hx
    have hi : i < kvs.length := by
      rcases Nat.lt_or_ge i kvs.length with h | h
      · exact h
      · simp [List.getElem?_eq_none h] at hx
    exact ⟨_, t, rfl, hl.long i hi⟩)
  have nD := (N _ (.tail _ (.tail _ hD))).1
  have nI := (N _ (.tail _ (.head _))).1
  have nF := (N _ (.head _)).1
  have hdA : s.heap.DictAt (PySem.intKind prog w) D kvs ep := by
    obtain ⟨es, ep', he, hdt, hk, hp, hnd⟩ := id hl.dict
    obtain ⟨es2, hep⟩ := hep
    rw [hdt] at hep
    cases hep
    exact ⟨o, es, nD, he, hdt, hk, hp, hnd⟩
  refine call_max_default W (gtS X) ?_ hn ⟨nF, ⟨_, nI, rfl, rfl⟩, hdA⟩ ?_ ?_
  · intro i j vi vj s' Q' E' ⟨ki, hi⟩ ⟨kj, hj⟩ hq
    obtain ⟨t, rfl⟩ := hl.vals i ki vi hi
    obtain ⟨u, rfl⟩ := hl.vals j kj vj hj
    exact P.gt_str hq
  · intro b hb
    simp only [List.mem_cons, List.not_mem_nil, or_false] at hb
    rcases hb with rfl | rfl | rfl
    · exact Heap.lt_size nF
    · exact Heap.lt_size nI
    · exact Heap.lt_size nD
  · intro v h' tk ⟨k, hk⟩ hkeep
    obtain ⟨t, rfl⟩ := hl.vals _ k v hk
    refine h t h' tk (kmb_fr F hkeep (N _ (.tail _ (.head _))).2.1 (N _ (.tail _ (.head _))).2.2) ?_
    exact fun p hp => ⟨hkeep _ _ (fun q => Nat.lt_irrefl _ (by have := hlt p hp; rw [List.mem_singleton.mp q] at this; exact this)) (N _ (.tail _ (.tail _ hp))).1, (N _ (.tail _ (.tail _ hp))).2⟩
end
end Mine.FI
end
section
open PySem PySem.W PyProof.Rows PyProof.V
set_option Elab.async false
set_option maxRecDepth 100000
set_option maxHeartbeats 8000000
namespace Mine
local macro_rules | `(tactic| walk_at "getMethod ref") => `(tactic| (k_here; (with_reducible show wpAny _ _ (getMethod (Value.ref _) (PySem.Str.ofString "values") _) _ _ _); (rename FI.LinesAre _ _ _ _ _ => hLines); k_dflt (refine' FI.getMethod_values ?vm1 ?vm2 hLines ?_; (case vm1 => k_asm); (case vm2 => k_mem))))
local macro_rules | `(tactic| walk_at "call builtin:dict.values") => `(tactic| (k_here; (rename FI.LinesAre _ _ _ _ _ => hLines); k_dflt (refine' kdl_view_values ?vm1 ?vm2 ?vm3 (FI.LinesAre.dict hLines) ?vm4 ?_; (case vm1 => k_asm); (case vm2 => k_asm); (case vm3 => k_mem); (case vm4 => k_asm)); intro V' h' F' N' l1'))
local macro_rules | `(tactic| walk_at "call type:filter") => `(tactic| (k_here; (rename FI.LinesAre _ _ _ _ _ => hLines); k_dflt (refine' FI.call_filter_fr ?vf1 ?vf2 ?vf3 ?vf4 hLines ?_; (case vf1 => k_asm); (case vf2 => k_asm); (case vf3 => k_mem); (case vf4 => first | k_mem | exact List.Mem.tail _ (by assumption) | exact List.Mem.tail _ (List.Mem.tail _ (by assumption)) | exact List.Mem.tail _ (List.Mem.tail _ (List.Mem.tail _ (by assumption))))); intro I' FI' ep' h' hep' F' N' l1' l2'))
local macro_rules | `(tactic| walk_at "call builtin:max") => `(tactic| (k_here; (rename FI.LinesAre _ _ _ _ _ => hLines); with_unfolding_all (refine' FI.call_max_fr ?vx0 ?vx1 ?vx2 ?vx3 hLines ?vx4 ?vx5 ?vx6 ?vx7 ?_; (case vx0 => exact rfl); (case vx2 => k_asm); (case vx1 => k_asm); (case vx3 => first | k_mem | exact List.Mem.tail _ (by assumption) | exact List.Mem.tail _ (List.Mem.tail _ (by assumption)) | exact List.Mem.tail _ (List.Mem.tail _ (List.Mem.tail _ (by assumption)))); (case vx4 => assumption); (case vx5 => assumption); (case vx6 => assumption); (case vx7 => assumption)); intro t' h' tk' F' N'))
theorem best_le (bt : Nat → Nat → Bool) : ∀ n, argBest bt n ≤ n
  | 0 => Nat.le_refl _
  | n + 1 => by
    have := best_le bt n
    unfold argBest
    split
    · exact Nat.le_refl _
    · omega
theorem width_ok (w : World) (D : Addr) (o : Obj) (kvs : List (Int × Value)) (X : Nat → Str) (hL : FI.LinesAre PySem.Challenge.rw_yf0009_01.row.prog w o kvs X) (hlo : (D == sysModules) = false) (hn : 0 < kvs.length) (h5 : ∀ i, i < kvs.length → 5 ≤ (X i).length) :
    Claim w 1 21 [.ref D] (fun news => (D, o) ∈ news) (fun t => .int (X (argBest (FI.gtS X) (kvs.length - 1))).length t) := by
  have hb : argBest (FI.gtS X) (kvs.length - 1) < kvs.length := Nat.lt_of_le_of_lt (best_le _ _) (by omega)
  have hb1 := h5 _ hb
  have hb2 := (hL.long _ hb).2
  unfold Claim
  k_fill
  dsimp only [CbRet]
  intros
  rename_i hmem hdp hun hret
  refine wpAny_call ?_
  k_dflt cell_enter
  k_steps
  all_goals (rename News _ _ _ _ => N8; exact cb_retI hret (by rw [if_pos (by omega)]) (by assumption) (cb_drop N8 fun p hp => by first | exact hp | exact .tail _ hp | exact .tail _ (.tail _ hp)))
end Mine
end
section
open PySem PySem.W PyProof.Rows PyProof.V
set_option Elab.async false
set_option maxRecDepth 100000
set_option maxHeartbeats 8000000
namespace Mine
/-- the table of lines behind i turns -/
structure LinesPart (prog : Program) (w : World) (o : Obj) (kvs : List (Int × Value)) (i : Nat) (X : Nat → Str) : Prop where
  dict : o.IsDictOf (PySem.intKind prog w) kvs
  len : kvs.length = i
  at_ : ∀ (j : Nat) k v, kvs[j]? = some (k, v) → k = (j : Int) ∧ ∃ t, v = .str (X j) t
section
variable {prog : Program} {w : World} {A : Around} {E : Value → Shared → Prop} {s : Shared} {h₀ : Heap} {L D : Addr} {m : Str → Option Value} {rest : List (Addr × Obj)} {o : Obj} {kvs : List (Int × Value)} {X : Nat → Str} {i : Nat}
theorem store_line {k : Int} {tk t : Tok} {Q : Unit → Shared → Prop} (F : Fr h₀ L s.heap m) (N : News h₀ L s.heap ((D, o) :: rest)) (hR : ∀ p ∈ rest, p.1 ≠ D) (hp : LinesPart prog w o kvs i X) (hk : k = (i : Int)) (hi : i ≤ 100000)
    (h : ∀ h' o', Fr h₀ L h' m → News h₀ L h' ((D, o') :: rest) → LinesPart prog w o' (kvs ++ [(k, .str (X i) t)]) (i + 1) X → Q () { s with heap := h', toks := s.toks + 1 }) :
    wpAny (model prog w) A (setItem (.ref D) (.int k tk) (.str (X i) t)) Q E s := by
  have nD := N _ (.head _)
  have hm : s.heap.DictOf (PySem.intKind prog w) D kvs := Heap.dictOf_iff.mpr ⟨o, nD.1, hp.dict⟩
  have hst : stored kvs k (.str (X i) t) = kvs ++ [(k, .str (X i) t)] := by
    unfold stored
    rw [if_neg]
    intro hany
    obtain ⟨⟨k', v'⟩, hm1, hm2⟩ := List.any_eq_true.mp hany
    obtain ⟨j, hj, e⟩ := List.mem_iff_getElem.mp hm1
    have h1 := (hp.at_ j k' v' (by rw [List.getElem?_eq_getElem hj, e])).1
    have h2 : k' = k := by simpa using hm2
    have h3 := hp.len
    omega
  refine wpAny_setItem_pairs (intKind_is prog w k tk) hm (fun h' hd' hs' => ?_) (by rw [hp.len, sizeLine_eq]; omega)
  obtain ⟨o', ho', hdo⟩ := Heap.dictOf_iff.mp hd'
  rw [hst] at hdo
  obtain ⟨oL, es, ep, hL, r⟩ := F.ns
  have kp : ∀ b x, b ≠ D → s.heap.get? b = some x → h'.get? b = some x := fun b x hb e => (hs'.2 b hb).trans e
  refine h h' o' ⟨⟨oL, es, ep, kp _ _ nD.2.1.symm hL, r⟩, fun b x e => kp b x (fun q => ?_) (F.keep b x e), F.above⟩ ?_ ⟨hdo, by rw [List.length_append, hp.len]; rfl, ?_⟩
  · have := nD.2.2
    rw [← q, e] at this
    cases this
  · intro p hp'
    rcases List.mem_cons.mp hp' with rfl | hp'
    · exact ⟨ho', nD.2⟩
    · have := N p (.tail _ hp')
      exact ⟨kp _ _ (hR p hp') this.1, this.2⟩
  · intro j k' v' hj
    have hlen := hp.len
    rcases Nat.lt_or_ge j kvs.length with hlt | hge
    · rw [List.getElem?_append_left hlt] at hj
      exact hp.at_ j k' v' hj
    · rw [List.getElem?_append_right hge] at hj
      cases hd : j - kvs.length with
      | zero =>
        rw [hd] at hj
        simp only [List.getElem?_cons_zero, Option.some.injEq, Prod.mk.injEq] at hj
        have e : j = i := by omega
        subst e
        exact ⟨by rw [← hj.1, hk], t, hj.2.symm⟩
      | succ q => rw [hd] at hj; simp at hj
theorem store_line_eq {k : Int} {tk t : Tok} {y : Str} {Q : Unit → Shared → Prop} (hp : LinesPart prog w o kvs i X) (hy : y = X i) (hk : k = (i : Int)) (hi : i ≤ 100000) (F : Fr h₀ L s.heap m) (N : News h₀ L s.heap ((D, o) :: rest)) (hR : ∀ p ∈ rest, p.1 ≠ D)
    (h : ∀ h' o' kvs', Fr h₀ L h' m → News h₀ L h' ((D, o') :: rest) → LinesPart prog w o' kvs' (i + 1) X → Q () { s with heap := h', toks := s.toks + 1 }) :
    wpAny (model prog w) A (setItem (.ref D) (.int k tk) (.str y t)) Q E s := by
  subst hy
  exact store_line F N hR hp hk hi fun h' o' F' N' hp' => h h' o' _ F' N' hp'
theorem lines_are (hp : LinesPart prog w o kvs i X) (hX : ∀ j, j < i → 0 < (X j).length ∧ (X j).length ≤ 100000) : FI.LinesAre prog w o kvs X :=
  ⟨hp.dict, fun j k v hj => (hp.at_ j k v hj).2, fun j hj => hX j (by rw [← hp.len]; exact hj)⟩
theorem lines_none (h : o.IsDictOf (PySem.intKind prog w) []) : LinesPart prog w o [] 0 X := ⟨h, rfl, fun j k v hj => by simp at hj⟩
theorem lines_loop {env : Env} {x : Str} {body : List Stmt} {Q : Flow → Shared → Prop} {r : Addr} {b₀ : Int} {t₀ u₀ v₀ : Tok} {n : Nat} {m₀ : Str → Option Value} (X : Nat → Str)
    (hh : A.handled = none) (hr : IsRange s.heap r 0 b₀ 1 t₀ u₀ v₀) (hsmall : Builtin.Range.small 0 b₀ 1 = true) (hn : Builtin.Range.rangeSize 0 b₀ 1 = (n : Int)) (F : Fr h₀ env.locals s.heap m₀) (N : News h₀ env.locals s.heap ((D, o) :: rest)) (h0 : o.IsDictOf (PySem.intKind prog w) []) (hlow : AllLt D rest)
    (turn : ∀ (o : Obj) kvs (pre : List Int) (k : Int) t h tk own, k = (pre.length : Int) → pre.length < n → (∀ p ∈ rest ++ own, p.1 ≠ D) → LinesPart prog w o kvs pre.length X →
      Fr h₀ env.locals h (fun y => if y = x then some (.int k t) else m₀ y) → News h₀ env.locals h ((D, o) :: (rest ++ own)) →
      wpAny (model prog w) A (execs body env) (InvPostN h₀ env.locals (KstS (fun o : Obj => (D, o) :: rest) (fun _ => []) (fun _ => True) x [] m₀ (fun pre o => ∃ kvs, LinesPart prog w o kvs pre.length X) (pre ++ [k])) own (D :: rest.map (·.1)) { s with heap := h, toks := tk } Q) E { s with heap := h, toks := tk })
    (done : ∀ (o : Obj) kvs (u : Str → Option Value) h tk, LinesPart prog w o kvs n X → Fr h₀ env.locals h (fun y => if y = x then u y else m₀ y) → News h₀ env.locals h ((D, o) :: rest) → Q .next { s with heap := h, toks := tk }) :
    wpAny (model prog w) A (pyIter (.ref r)) (fun it s₂ => LoopAtV prog w A h₀ env x body Q E it s₂) E s := by
  refine kst_range (fun o : Obj => (D, o) :: rest) (fun _ => []) (fun _ => True) [] (fun pre o => ∃ kvs, LinesPart prog w o kvs pre.length X) o hh hr hsmall hn F N trivial (fun _ hp => nomatch hp) ⟨[], lines_none h0⟩ ?_ ?_
  · intro c pre k t u h tk own hk hlt hoff _ ⟨kvs, hp⟩ F₁ N₁
    exact turn c kvs pre k t h tk own (by simpa using hk) hlt (fun p hp' => (List.mem_append.mp hp').elim (fun q => Nat.ne_of_lt (ktn_ltOf hlow p q)) fun q => hoff p q D (.head _)) hp F₁ N₁
  · intro c u h tk _ ⟨kvs, hp⟩ F₁ N₁
    rw [rangeKs_length] at hp
    exact done c kvs u h tk hp F₁ N₁
theorem lines_end {x : Str} {m₀ m' : Str → Option Value} {pre : List Int} {k : Int} {own news' : List (Addr × Obj)} {s₁ : Shared} {h' : Heap} {tk : Nat} (F : Fr h₀ L h' m') (N : News h₀ L h' news') (hD : (D, o) ∈ news') (hr : ∀ p ∈ rest, p ∈ news') (ho : ∀ p ∈ own, p ∈ news') (hm : ∀ z, z ≠ x → m' z = m₀ z) (hp : LinesPart prog w o kvs (pre.length + 1) X) :
    InvEndN h₀ L (KstS (fun o : Obj => (D, o) :: rest) (fun _ => []) (fun _ => True) x [] m₀ (fun pre o => ∃ kvs, LinesPart prog w o kvs pre.length X) (pre ++ [k])) own (D :: rest.map (·.1)) s₁ { s₁ with heap := h', toks := tk } :=
  kst_end (ps := fun _ => []) o F N (fun p hp => by rcases List.mem_cons.mp hp with rfl | hp; exact hD; exact hr p hp) ho rfl trivial (fun _ h => nomatch h) (fun z h1 _ _ => hm z h1) ⟨kvs, by simpa using hp⟩
theorem slice_drop {x : Str} {n : Nat} {k : Int} (hk : k = (n : Int)) (hn : n ≤ x.length) : Txt.slice x (some k) none = ⟨(x.cps.toList.drop n).toArray⟩ := by
  subst hk
  rw [slice_from_eq (by omega) (by omega) rfl, Int.toNat_natCast]
  congr 1
  congr 1
  refine List.take_of_length_le ?_
  rw [List.length_drop]
  have : x.cps.toList.length = x.length := by simp [Str.length]
  omega
end
end Mine
end
section
open PySem PySem.W PyProof.Rows PyProof.V
set_option Elab.async false
set_option maxRecDepth 100000
set_option maxHeartbeats 8000000
namespace Mine.CT
inductive Told (P : Nat → Value → Prop) : List Nat → List Value → Prop
  | nil : Told P [] []
  | snoc {l : List Nat} {ys : List Value} {n : Nat} {y : Value} : Told P l ys → P n y → Told P (l ++ [n]) (ys ++ [y])
theorem Told.length {P : Nat → Value → Prop} {l : List Nat} {ys : List Value} (h : Told P l ys) : ys.length = l.length := by
  induction h with
  | nil => rfl
  | snoc _ _ ih => simp [ih]
section
variable {prog : Program} {w : World} {A : Around} {E : Value → Shared → Prop} {s : Shared} {h₀ : Heap} {L : Addr} {m : Str → Option Value} {env : Env} {elt ct : Expr} {x : Str} {px : Pos} {scope : Scope} {cl : List (Str × Addr)} {pos : Pos} {Q : Value → Shared → Prop} {xt : Str} {tx : Tok} {news : List (Addr × Obj)} {iter : Expr}
/-- what a turn leaves: the three of the loop and the ledger as they stood -/
def TurnEnd (h₀ : Heap) (L : Addr) (m : Str → Option Value) (all : List (Addr × Obj)) (s₁ : Shared) (P : Value → Prop) (y : Value) (s₂ : Shared) : Prop :=
  P y ∧ ∃ h' tk', s₂ = { s₁ with heap := h', toks := tk' } ∧ Fr h₀ L h' m ∧ News h₀ L h' all
theorem rest_text (P : Nat → Value → Prop) {Fin : List Value → List (Addr × Obj) → Prop} {sz : Nat} (hsz : sz = xt.cps.size)
    (turn : ∀ n t I oI C oC D m₂ ys h tk (E' : Value → Shared → Prop), n ∈ xt.cps.toList → LCg.NsObj oC m₂ → m₂ x = some (.str ⟨#[n]⟩ t) → Fr h₀ L h m → News h₀ L h ((I, oI) :: (C, oC) :: (D, LCg.lst ys) :: news) →
      wpAny (model prog w) A (eval elt (compEnvC scope cl C env)) (TurnEnd h₀ L m ((I, oI) :: (C, oC) :: (D, LCg.lst ys) :: news) { s with heap := h, toks := tk } (P n)) E' { s with heap := h, toks := tk })
    (fin : ∀ ys, Told P xt.cps.toList ys → Fin ys news) :
    LCg.CompRest prog w A h₀ L m env elt x scope cl s (fun _ => True) (SignAt xt) Fin sz 0 [] news := by
  have hl : xt.cps.toList.length = xt.cps.size := by simp
  have key : ∀ (j i : Nat) (ys : List Value), i + j = sz → Told P (xt.cps.toList.take i) ys → LCg.CompRest prog w A h₀ L m env elt x scope cl s (fun _ => True) (SignAt xt) Fin j i ys news := by
    intro j
    induction j with
    | zero =>
      intro i ys hi hy
      rw [List.take_of_length_le (by omega)] at hy
      exact LCg.CompRest.zero (fin ys hy)
    | succ j ih =>
      intro i ys hi hy
      refine LCg.CompRest.succ ?_
      intro v I oI C oC D m₂ h tk E' hv hC hx F N off ne
      obtain ⟨n, t, hn, rfl⟩ := hv
      have hn' : xt.cps.toList[i]? = some n := by simpa using hn
      refine wpAny_mono (turn n t I oI C oC D m₂ ys h tk E' (List.mem_of_getElem? hn') hC hx F N) (fun y s₂ hq => ?_) fun _ _ e => e
      obtain ⟨hP, h', tk', rfl, F', N'⟩ := hq
      refine ⟨h', tk', news, rfl, F', N', off, trivial, ih (i + 1) _ (by omega) ?_⟩
      rw [List.take_add_one, hn']
      exact .snoc hy hP
  exact key sz 0 [] (by omega) (by simp only [List.take_zero]; exact .nil)
theorem str_st {ty : String} {I : Addr} : ∀ i (h h' : Heap) (o : Obj) (nw : List (Addr × Obj)), h.IsStrIter I ty xt tx i → h.get? I = some o → h'.get? I = some o → (∀ b o, h₀.get? b = some o → h'.get? b = some o) → News h₀ L h' nw → True → h'.IsStrIter I ty xt tx i :=
  fun i h h' o nw st e e' _ _ _ => by obtain ⟨o', q, r⟩ := st; rw [e] at q; cases q; exact ⟨o, e', r⟩
theorem comp_text (P : Nat → Value → Prop) (F : Fr h₀ L s.heap m) (N : News h₀ L s.heap news) (hh : A.handled = none)
    (hclos : closureFor scope env = pure cl) (hcell : ∀ y ∈ scope.names, y.2 ≠ .cell) (hkind : scope.kind = .function)
    (hnames : ∀ y ∈ scope.names, y.2 = .local → scope.names.lookup y.1 = some .local) (hx : scope.names.lookup x = some .local) (hfit : xt.length ≤ sizeLine)
    (hit : ∀ (E : Value → Shared → Prop) Q, Q (.str xt tx) s → wpAny (model prog w) A (eval iter env) Q E s)
    (turn : ∀ s₁ n t I oI C oC D m₂ ys h tk (E' : Value → Shared → Prop), (∃ g, s₁ = { s with heap := g }) → n ∈ xt.cps.toList → LCg.NsObj oC m₂ → m₂ x = some (.str ⟨#[n]⟩ t) → Fr h₀ L h m → News h₀ L h ((I, oI) :: (C, oC) :: (D, LCg.lst ys) :: news) →
      wpAny (model prog w) A (eval elt (compEnvC scope cl C env)) (TurnEnd h₀ L m ((I, oI) :: (C, oC) :: (D, LCg.lst ys) :: news) { s₁ with heap := h, toks := tk } (P n)) E' { s₁ with heap := h, toks := tk })
    (done : ∀ D ys h tk, Told P xt.cps.toList ys → Fr h₀ L h m → News h₀ L h ((D, LCg.lst ys) :: news) → Q (.ref D) { s with heap := h, toks := tk })
    (hs : ∀ x, foldedSetIterable iter env x = pure x := by intro _; rfl) :
    wpAny (model prog w) A (eval (.ListComp elt [⟨.Name x px, iter, [], 0⟩] scope pos) env) Q E s := by
  rw [eval_ListComp]
  refine wpAny_comprehension_free (use := none) rfl hs hclos hkind hnames (hit _ _ ?_)
  have fin : ∀ (g : Heap) (D C : Addr) (h : Heap) (tk : Nat) (m' : Str → Option Value) (ys : List Value) (news' : List (Addr × Obj)), Fr h₀ L h m → News h₀ L h ((D, LCg.lst ys) :: news') → LCg.Off1 D news' → h.Ns C m' → h₀.get? C = none → h₀.get? D = none → C ≠ L → D ≠ L → C ≠ D → (∀ p ∈ news', p.1 ≠ C) → (Told P xt.cps.toList ys ∧ news' = news) →
      ∃ m', h.Ns C m' ∧ ∀ h'', Heap.SameBut C h h'' → Q (.ref D) { s with heap := h'', toks := tk } := by
    rintro g D C h tk m' ys news' F' N' o1 hn hC₀ hD₀ hCL hDL hCD offC ⟨ht, rfl⟩
    refine ⟨m', hn, fun h'' hs'' => done D ys h'' tk ht (F'.change hs'' hCL hC₀) fun p hp => ⟨hs''.extBut _ _ ?_ (N' p hp).1, (N' p hp).2⟩⟩
    rcases List.mem_cons.mp hp with rfl | hp
    · exact Ne.symm hCD
    · exact offC p hp
  cases ha : xt.cps.all (· < 128)
  · refine wpAny_pyIter_wide ha ?_
    refine LCg.block_U (S := fun _ => True) (Walks.strWide hh s.heap.objs.size xt tx) hfit (fun i h st => by obtain ⟨o, e, _⟩ := st; exact ⟨o, e⟩) str_st hcell hkind hx ⟨_, Heap.get?_push_size _ rfl, rfl, rfl⟩ (fun b hb => ?_)
      (F.keeps fun _ _ e => Heap.get?_push_of_some _ e) (N.grown fun _ _ e => Heap.get?_push_of_some _ e) (Nat.ne_of_lt F.ns.lt) (next_is_new F) (fun p hp => Nat.ne_of_lt (Heap.lt_size (N p hp).1)) trivial
      (rest_text P rfl (fun n t I oI C oC D m₂ ys h tk E' a b c d e => turn _ n t I oI C oC D m₂ ys h tk E' ⟨_, rfl⟩ a b c d e) (Fin := fun ys nw => Told P xt.cps.toList ys ∧ nw = news) fun ys h => ⟨h, rfl⟩) ?_
    · rw [List.mem_singleton.mp hb]
      show s.heap.objs.size < (s.heap.push _).objs.size
      rw [Heap.size_push]; exact Nat.lt_succ_self _
    · exact fin s.heap
  · refine wpAny_pyIter_ascii ha ?_
    refine LCg.block_U (S := fun _ => True) (Walks.strAscii hh s.heap.objs.size xt tx) hfit (fun i h st => by obtain ⟨o, e, _⟩ := st; exact ⟨o, e⟩) str_st hcell hkind hx ⟨_, Heap.get?_push_size _ rfl, rfl, rfl⟩ (fun b hb => ?_)
      (F.keeps fun _ _ e => Heap.get?_push_of_some _ e) (N.grown fun _ _ e => Heap.get?_push_of_some _ e) (Nat.ne_of_lt F.ns.lt) (next_is_new F) (fun p hp => Nat.ne_of_lt (Heap.lt_size (N p hp).1)) trivial
      (rest_text P rfl (fun n t I oI C oC D m₂ ys h tk E' a b c d e => turn _ n t I oI C oC D m₂ ys h tk E' ⟨_, rfl⟩ a b c d e) (Fin := fun ys nw => Told P xt.cps.toList ys ∧ nw = news) fun ys h => ⟨h, rfl⟩) ?_
    · rw [List.mem_singleton.mp hb]
      show s.heap.objs.size < (s.heap.push _).objs.size
      rw [Heap.size_push]; exact Nat.lt_succ_self _
    · exact fin s.heap
end
end Mine.CT
end
section
open PySem PySem.W PyProof.Rows PyProof.V
set_option Elab.async false
set_option maxRecDepth 100000
set_option maxHeartbeats 8000000
namespace Mine
/-- the signs' codes: a table keyed by the signs -/
def CodesAre (prog : Program) (w : World) (o : Obj) (keys : List Nat) (cd : Nat → Str) : Prop :=
  ∃ kvs, o.IsDictOf (PySem.strKind prog w) kvs ∧ ∀ n ∈ keys, ∃ t, valueAt kvs (⟨#[n]⟩ : Str) = some (.str (cd n) t)
section
variable {prog : Program} {w : World} {A : Around} {E : Value → Shared → Prop} {s : Shared} {h₀ : Heap} {L D : Addr} {m : Str → Option Value} {news : List (Addr × Obj)} {o : Obj} {keys : List Nat} {cd : Nat → Str}
theorem codes_item {value slice : Expr} {ops : List Value} {n : Nat} {t : Tok} {Q : Value → Shared → Prop} (hc : CodesAre prog w o keys cd) (hn : n ∈ keys) (N : News h₀ L s.heap news) (hm : (D, o) ∈ news)
    (h : ∀ t', Q (.str (cd n) t') { s with toks := s.toks + 1 })
    (hs : subscripted slice false (.ref D) (.str ⟨#[n]⟩ t) = operate ops (getItem (.ref D) (.str ⟨#[n]⟩ t)) := by with_unfolding_all rfl) :
    wpAny (model prog w) A (subscriptTail value slice (.ref D) (.str ⟨#[n]⟩ t)) Q E s := by
  obtain ⟨kvs, hd, hk⟩ := hc
  obtain ⟨t', e⟩ := hk n hn
  have hD : s.heap.DictOf (PySem.strKind prog w) D kvs := Heap.dictOf_iff.mpr ⟨o, (N _ hm).1, hd⟩
  exact tail_any hD.mapOf.typeIs slot_dict_getitem.lookup (wpAny_getItem_of (strKind_is prog w _ _) hD.mapOf e (h t')) hs
theorem item_nat {x : Str} {k : Nat} {kN : Int} (hk : kN = 0 + (k : Int)) (hlt : k < x.length) : ∃ n, Txt.item x kN = ⟨#[n]⟩ ∧ x.cps.toList[k]? = some n := by
  have hl : x.length = x.cps.size := rfl
  have hkl : k < x.cps.size := by omega
  refine ⟨x.cps[k], ?_, by simp [hkl]⟩
  have e1 : seqIndex? kN x.length = some k := by
    unfold seqIndex?
    have h0 : ¬ kN < 0 := by omega
    have h2 : 0 ≤ kN ∧ kN < (x.length : Int) := by omega
    simp [h0, h2]
    omega
  unfold Txt.item Txt.charAt
  rw [e1]
  simp [hkl]
theorem codes_item_at {value slice : Expr} {x : Str} {k : Nat} {kN : Int} {t : Tok} {Q : Value → Shared → Prop} (hc : CodesAre prog w o x.cps.toList cd) (hk : kN = 0 + (k : Int)) (hlt : k < x.length) (N : News h₀ L s.heap news) (hm : (D, o) ∈ news)
    (h : ∀ n t', x.cps.toList[k]? = some n → Q (.str (cd n) t') { s with toks := s.toks + 1 })
    (hs : ∀ y : Str, subscripted slice false (.ref D) (.str y t) = operate [.ref D, .str y t] (getItem (.ref D) (.str y t)) := by intro _; with_unfolding_all rfl) :
    wpAny (model prog w) A (subscriptTail value slice (.ref D) (.str (Txt.item x kN) t)) Q E s := by
  obtain ⟨n, e, hn⟩ := item_nat hk hlt
  rw [e]
  exact codes_item hc (List.mem_of_getElem? hn) N hm (fun t' => h n t' hn) (hs _)
end
namespace CT
theorem turn_end {h₀ : Heap} {L : Addr} {m : Str → Option Value} {all : List (Addr × Obj)} {s₁ : Shared} {P : Value → Prop} {y : Value} {h' : Heap} {tk' : Nat} (F : Fr h₀ L h' m) (N : News h₀ L h' all) (h : P y) : TurnEnd h₀ L m all s₁ P y { s₁ with heap := h', toks := tk' } := ⟨h, _, _, rfl, F, N⟩
theorem told_ints {g : Nat → Int} {l : List Nat} {ys : List Value} (h : Told (fun n y => ∃ t, y = .int (g n) t) l ys) : IntsAre ys (l.map g) := by
  induction h with
  | nil => exact .nil
  | snoc _ hp ih =>
    obtain ⟨t, rfl⟩ := hp
    rw [List.map_append]
    exact IntsAre.append ih (.cons _ _ .nil)
end CT
end Mine
end
section
open PySem PySem.W PyProof.Rows PyProof.V
set_option Elab.async false
set_option maxRecDepth 100000
set_option maxHeartbeats 8000000
namespace Mine
/-- a teller: called through call, it hands back T of the text -/
def Tells (w : World) (f : Addr) (T : Str → Str) : Prop := ∀ (y : Str) (t : Tok), Claim w 2 49 [.ref f, .str y t] (fun _ => y.length ≤ 100) (fun t => .str (T y) t)
local macro_rules | `(tactic| walk_at "mem9") => `(tactic| first | k_mem | ((repeat (refine List.Mem.tail _ ?_)); first | assumption | exact List.mem_append_left _ (by assumption)))
local macro_rules | `(tactic| walk_at "subscriptTail") => `(tactic| (k_here; (with_reducible show wpAny _ _ (subscriptTail _ _ (Value.ref _) (Value.str _ _)) _ _ _); (rename CodesAre _ _ _ _ _ => hCA); (rename News _ _ _ _ => N8); k_dflt (refine codes_item hCA ?ci1 N8 ?ci2 ?_; (case ci1 => assumption); (case ci2 => walk_at "mem9")); intro t8))
def CodesShort (cd : Nat → Str) : Prop := ∀ n, (cd n).length ≤ 10
local macro_rules | `(tactic| walk_at "subscriptTail") => `(tactic| (k_here; (with_reducible show wpAny _ _ (subscriptTail _ _ (Value.ref _) (Value.str (Txt.item _ _) _)) _ _ _); (rename CodesAre _ _ _ _ _ => hCA); (rename CodesShort _ => hCS); (rename News _ _ _ _ => N8); k_dflt (refine' codes_item_at hCA ?ci1 ?ci2 N8 ?ci3 ?_; (case ci1 => assumption); (case ci2 => omega); (case ci3 => walk_at "mem9")); intro n8 t8 hn8; have hb8 : (_ : Str).length ≤ 10 := hCS n8))
local macro_rules | `(tactic| walk_at "call ref") => `(tactic| (k_here; (with_reducible show wpAny _ _ (call (Value.ref 42) _ _) _ _ _); k_dflt (refine' Claim.use (concat_ok _ _ _ _ _) ?cl1 ?cl2 ?cl3 ?cl4 ?cl5 ?cl6 ?cl7 ?cl8 ?cl9 ?_; (case cl1 => k_asm); (case cl2 => k_asm); (case cl3 => k_asm); (case cl4 => k_asm); (case cl5 => k_asm); (case cl6 => first | exact rfl | assumption); (case cl8 => ktr_room); (case cl9 => ktr_units); (case cl7 => ((try dsimp only); omega))); intro t9 h9 tk9 F9 N9; (try dsimp only); (try k_fold)))
local macro_rules | `(tactic| walk_at "call ref") => `(tactic| (k_here; (with_reducible show wpAny _ _ (call (Value.ref 49) _ _) _ _ _); (rename Tells _ _ _ => hTells); k_dflt (refine' Claim.use (hTells _ _) ?cl1 ?cl2 ?cl3 ?cl4 ?cl5 ?cl6 ?cl7 ?cl8 ?cl9 ?_; (case cl1 => k_asm); (case cl2 => k_asm); (case cl3 => k_asm); (case cl4 => k_asm); (case cl5 => k_asm); (case cl6 => first | exact rfl | assumption); (case cl8 => ktr_room); (case cl9 => ktr_units); (case cl7 => ((try dsimp only); omega))); intro t9 h9 tk9 F9 N9; (try dsimp only); (try k_fold)))

def endLoop (cd : Nat → Str) : List Nat → Int → Int → Str
  | [], _, _ => Str.ofString ""
  | n :: r, size, width => if size = width then txt (n :: r) else endLoop cd r (size - ((cd n).length : Int)) width
def linesX (T : Str → Str) (x : Str) (j : Nat) : Str := Str.ofString "  --" ++ T (txt (x.cps.toList.drop j))
def widthX (T : Str → Str) (x : Str) : Int := ((linesX T x (argBest (FI.gtS (linesX T x)) (x.length - 1))).length : Int)
def sizeX (cd : Nat → Str) (x : Str) : Int := 4 + (x.cps.toList.map fun n => ((cd n).length : Int)).sum
def endIt (T : Str → Str) (cd : Nat → Str) (x : Str) : Str := endLoop cd x.cps.toList (sizeX cd x) (widthX T x)
/-- how the second loop stands at a place: what is left to be said is the whole -/
def AtPlace (T : Str → Str) (cd : Nat → Str) (x : Str) (k : Nat) (size : Int) : Prop := endLoop cd (x.cps.toList.drop k) size (widthX T x) = endIt T cd x
theorem at_start {T : Str → Str} {cd : Nat → Str} {x : Str} : AtPlace T cd x 0 (sizeX cd x) := rfl
theorem at_next {T : Str → Str} {cd : Nat → Str} {x : Str} {k : Nat} {size : Int} {n : Nat} (h : AtPlace T cd x k size) (hn : x.cps.toList[k]? = some n) (hne : ¬ size = widthX T x) : AtPlace T cd x (k + 1) (size - ((cd n).length : Int)) := by
  unfold AtPlace at *
  have e : x.cps.toList.drop k = n :: x.cps.toList.drop (k + 1) := by rw [List.drop_eq_getElem_cons (List.getElem?_eq_some_iff.mp hn).1, (List.getElem?_eq_some_iff.mp hn).2]
  rw [e] at h
  unfold endLoop at h
  rw [if_neg hne] at h
  exact h
theorem at_next' {T : Str → Str} {cd : Nat → Str} {x : Str} {pre : List Int} {k : Int} {size : Int} {n : Nat} (h : AtPlace T cd x pre.length size) (hn : x.cps.toList[pre.length]? = some n) (hne : ¬ size = widthX T x) : AtPlace T cd x (pre ++ [k]).length (size - ((cd n).length : Int)) := by
  rw [List.length_append]
  exact at_next h hn hne
theorem at_hit {T : Str → Str} {cd : Nat → Str} {x : Str} {k : Nat} {size : Int} (h : AtPlace T cd x k size) (hk : k < x.cps.toList.length) (he : size = widthX T x) : txt (x.cps.toList.drop k) = endIt T cd x := by
  unfold AtPlace at *
  rw [← h, List.drop_eq_getElem_cons hk]
  unfold endLoop
  rw [if_pos he]
theorem at_out {T : Str → Str} {cd : Nat → Str} {x : Str} {k : Nat} {size : Int} (h : AtPlace T cd x k size) (hk : x.cps.toList.length ≤ k) : Str.ofString "" = endIt T cd x := by
  unfold AtPlace at *
  rw [← h, List.drop_eq_nil_of_le hk]
  rfl
local macro_rules | `(tactic| walk_at "setItem ref int") => `(tactic| (k_here; (rename LinesPart _ _ _ _ _ _ => hLP); k_dflt (refine' store_line_eq hLP ?sl1 ?sl2 ?sl3 ?sl4 ?sl5 ?sl6 ?_; (case sl4 => k_asm); (case sl5 => k_asm); (case sl1 => assumption); (case sl2 => assumption); (case sl3 => omega); (case sl6 => assumption)); intro h' o' kvs' F' N' hLP'))
local macro_rules | `(tactic| walk_at "call ref") => `(tactic| (k_here; (with_reducible show wpAny _ _ (call (Value.ref 21) _ _) _ _ _); (rename Claim _ _ 21 _ _ _ => hW); k_dflt (refine' Claim.use hW ?cl1 ?cl2 ?cl3 ?cl4 ?cl5 ?cl6 ?cl7 ?cl8 ?cl9 ?_; (case cl1 => k_asm); (case cl2 => k_asm); (case cl3 => k_asm); (case cl4 => k_asm); (case cl5 => k_asm); (case cl6 => first | exact rfl | assumption); (case cl8 => ktr_room); (case cl9 => ktr_units); (case cl7 => ((try dsimp only); k_mem))); intro t9 h9 tk9 F9 N9; (try dsimp only); (try k_fold)))
theorem ending_ok (w : World) (f C : Addr) (oc : Obj) (x : Str) (t : Tok) (T : Str → Str) (cd : Nat → Str) (hT : Tells w f T) (hC : CodesAre PySem.Challenge.rw_yf0009_01.row.prog w oc x.cps.toList cd) (hx : 0 < x.length ∧ x.length ≤ 12) (hcd : CodesShort cd) (hTL : ∀ y, y.length ≤ 100 → 1 ≤ y.length → 1 ≤ (T y).length ∧ (T y).length ≤ 900) :
    Claim w 5 122 [.ref f, .ref C, .str x t] (fun news => (C, oc) ∈ news) (fun t => .str (endIt T cd x) t) := by
  unfold Claim
  k_fill
  dsimp only [CbRet]
  intro mean mg mb news dp un gd cn cs a ccd cl outer A₀ base h₀ L m s Q E B F X N Tp hk hmem hdp hun hret
  refine wpAny_call ?_
  (refine' code_defC ?k1 ?k2 ?k3 ?k4 ?k5 ?kA ?kF ?kK ?k6 ?k7 ?k8 ?k9 ?kB ?kD ?_ ?c2 ?c3 ?c4; (case kA => exact rfl); (case kF => exact rfl); (case kK => assumption); (case k1 => k_asm); (case k2 => k_asm); (case k3 => k_asm); (case k4 => k_asm); (case k5 => k_asm); (case k6 => k_is); (case k7 => k_is); (case k8 => ktr_room); (case k9 => first | exact BindsTo.of_eq rfl | exact binds_K (by k_in) rfl (by k_is) rfl rfl rfl | fail "k_enter: no rule for these arguments"); (case kB => exact rfl); (case kD => decide +kernel); (case c2 => exact rfl); (case c3 => exact rfl); (case c4 => exact rfl))
  intro g' L' h' tk' cells' FG' F' N' Y' B' X' T' l1
  (try k_lt l1); k_cells Y'; (try simp only [List.cons_append, List.nil_append] at N'); (try dsimp only); (try k_lift B'); (try k_fold)
  repeat' (first | (k_unfold; (try dsimp only)) | (k_end; wrow_close) | ((fail_if_success (with_reducible show wpAny _ _ (pyIter (Value.ref _)) _ _ _)); walk1) | ((fail_if_success (with_reducible show wpAny _ _ (pyIter (Value.ref _)) _ _ _)); dsimp only; walk1) | (leave1; try dsimp only) | fail "no step")
  refine' lines_loop (linesX T x) ?e1 ?e2 ?e3 ?e4 ?e5 ?e6 ?e7 ?e8 ?_ ?_
  (case e1 => exact rfl); (case e2 => assumption); (case e3 => exact small_one (by omega) (by omega) (by omega) (by omega)); (case e4 => exact rangeSize_nat _ _); (case e5 => assumption); (case e6 => assumption); (case e7 => assumption); (case e8 => assumption)
  · intro o1 kvs pre k tk1 h1 tkk own hk1 hlt1 hoff1 hp1 F1 N1
    have hlen : x.length = x.cps.toList.length := by simp [Str.length]
    have hsl : Txt.slice x (some k) none = txt (x.cps.toList.drop pre.length) := slice_drop hk1 (by omega)
    have hsl2 : (Txt.slice x (some k) none).length = x.length - pre.length := by rw [hsl, txt_length, List.length_drop]; omega
    obtain ⟨q1, q2⟩ := hTL (Txt.slice x (some k) none) (by omega) (by omega)
    have hX : Str.ofString "  --" ++ T (Txt.slice x (some k) none) = linesX T x pre.length := by rw [hsl]; rfl
    have hpad : (Str.ofString "  --").length = 4 := by decide +kernel
    (try k_fold)
    k_steps
    rename LinesPart _ _ _ _ _ _ => hLP9
    rename News _ _ _ _ => N9
    rename Fr _ _ _ _ => F9
    exact lines_end F9 N9 (.head _) (fun p hp => .tail _ (List.mem_append_left _ hp)) (fun p hp => .tail _ (List.mem_append_right _ hp)) (fun z h1 => if_neg h1) hLP9
  · intro o1 kvs u h1 tkk hp1 F1 N1
    have hlen : x.length = x.cps.toList.length := by simp [Str.length]
    have hLX : ∀ j, j < x.length → 5 ≤ (linesX T x j).length ∧ (linesX T x j).length ≤ 1000 := fun j hj => by
      have e1 : (txt (x.cps.toList.drop j)).length = x.length - j := by rw [txt_length, List.length_drop]; omega
      obtain ⟨q1, q2⟩ := hTL (txt (x.cps.toList.drop j)) (by omega) (by omega)
      have hpad : (Str.ofString "  --").length = 4 := by decide +kernel
      unfold linesX
      rw [str_len_append]
      omega
    have hkl := hp1.len
    have hLA := lines_are hp1 fun j hj => by have := hLX j (by omega); omega
    rename (_ == sysModules) = false => hlo
    have hwx : ((linesX T x (argBest (FI.gtS (linesX T x)) (kvs.length - 1))).length : Int) = widthX T x := by rw [hkl]; rfl
    have hW := width_ok w _ _ kvs _ hLA hlo (by omega) (fun j hj => (hLX j (by omega)).1)
    (try k_fold)
    repeat' (first | (k_unfold; (try dsimp only)) | (k_end; wrow_close) | ((fail_if_success (with_reducible show wpAny _ _ (eval (Expr.ListComp _ _ _ _) _) _ _ _)); walk1) | ((fail_if_success (with_reducible show wpAny _ _ (eval (Expr.ListComp _ _ _ _) _) _ _ _)); dsimp only; walk1) | (leave1; try dsimp only) | fail "no step")
    rename News _ _ _ _ => N9
    rename Fr _ _ _ _ => F9
    (refine' CT.comp_text (xt := x) (fun n y => ∃ t, y = .int (cd n).length t) F9 N9 ?q3 ?q4 ?q5 ?q6 ?q7 ?q8 ?q9 ?qa ?qb ?qc)
    (case q3 => exact rfl)
    (case q4 => exact rfl)
    (case q5 => decide +kernel)
    (case q6 => rfl)
    (case q7 => decide +kernel)
    (case q8 => rfl)
    (case q9 => rw [sizeLine_eq]; omega)
    (case qa => intro E9 Q9 hQ9; k_steps; exact hQ9)
    (case qb =>
      rintro s9 n9 t9 I9 oI9 oC9 C9 D9 m9 ys9 h9 tk9 E9 ⟨g9, rfl⟩ hn9 hC9 hx9 F9' N9'
      have hb9 := hcd n9
      k_steps
      rename News _ _ _ _ => N8
      rename Fr _ _ _ _ => F8
      exact CT.turn_end F8 N8 (P := fun y => ∃ t, y = .int (cd n9).length t) ⟨_, rfl⟩)
    (case qc =>
      intro D9 ys9 h9 tk9 hTold F9' N9'
      have hI9 := CT.told_ints hTold
      repeat' (first | (k_unfold; (try dsimp only)) | (k_end; wrow_close) | ((fail_if_success (with_reducible show wpAny _ _ (pyIter (Value.ref _)) _ _ _)); walk1) | ((fail_if_success (with_reducible show wpAny _ _ (pyIter (Value.ref _)) _ _ _)); dsimp only; walk1) | (leave1; try dsimp only) | fail "no step")
      rename IntsAre _ _ => hIA
      clear hIA
      have hlen : x.length = x.cps.toList.length := by simp [Str.length]
      have hS9 : AtPlace T cd x 0 (4 + (x.cps.toList.map fun n => ((cd n).length : Int)).sum) := at_start
      k_state (fun pre size => AtPlace T cd x pre.length size) "size"
      k_with "state" => exact at_next' (by assumption) (by assumption) (by rw [← hwx]; assumption)
      k_steps
      · rename AtPlace _ _ _ _ _ => hA
        rename Fr _ _ _ _ => F8
        rename News _ _ _ _ => N8
        exact cb_retS hret (by rw [slice_drop (show kN = ((kPre.length : Nat) : Int) by omega) (by omega)]; exact at_hit hA (by omega) (by rw [← hwx]; assumption)) F8 (cb_drop N8 fun p hp => .tail _ (.tail _ (.tail _ (List.mem_append_left _ hp))))
      · rename AtPlace _ _ _ _ _ => hA
        rename Fr _ _ _ _ => F8
        rename News _ _ _ _ => N8
        exact cb_retS hret (at_out hA (by rw [rangeKs_length]; omega)) F8 (cb_drop N8 fun p hp => .tail _ (.tail _ (.tail _ hp))))
end Mine
end
section
open PySem PySem.W PyProof.Rows PyProof.V
set_option Elab.async false
set_option maxRecDepth 100000
set_option maxHeartbeats 8000000
namespace Mine
/-- the measure's loop (Euclid): what it keeps -/
def GcdAt (m₀ l₀ m l : Int) : Prop := 0 < m ∧ m ≤ 6 ∧ 0 ≤ l ∧ l ≤ 6 ∧ Int.gcd m l = Int.gcd m₀ l₀
theorem gcd_start (x y : Int) : GcdAt (x.fmod 6 + 1) (y.fmod 6 + 1) (x.fmod 6 + 1) (y.fmod 6 + 1) := by
  have h1 := Int.fmod_nonneg_of_pos x (show (0:Int) < 6 by decide)
  have h2 := Int.fmod_nonneg_of_pos y (show (0:Int) < 6 by decide)
  have h3 := Int.fmod_lt_of_pos x (show (0:Int) < 6 by decide)
  have h4 := Int.fmod_lt_of_pos y (show (0:Int) < 6 by decide)
  exact ⟨by omega, by omega, by omega, by omega, rfl⟩
theorem gcd_next {m₀ l₀ m l : Int} (h : GcdAt m₀ l₀ m l) (hl : l ≠ 0) : GcdAt m₀ l₀ l (m.fmod l) ∧ (m.fmod l).toNat < l.toNat := by
  obtain ⟨h1, h2, h3, h4, h5⟩ := h
  have hp : 0 < l := by omega
  have e := Int.fmod_nonneg_of_pos m hp
  have e' := Int.fmod_lt_of_pos m hp
  refine ⟨⟨hp, h4, e, by omega, ?_⟩, by omega⟩
  rw [← h5, Int.fmod_eq_emod_of_nonneg _ h3, Int.gcd_comm l]
  simp [Int.gcd_comm, Int.emod_def]
def signsS : List Nat := [60, 62, 38, 34, 13, 10, 9, 64]
/-- how often the one sign and the other stand in the word -/
structure Pair (a b : Nat) : Prop where
  a1 : 1 ≤ a
  a6 : a ≤ 6
  b1 : 1 ≤ b
  b6 : b ≤ 6
  co : Nat.gcd a b = 1
theorem pair_nat : ∀ i, i < 6 → ∀ j, j < 6 → 1 ≤ (i + 1) / Nat.gcd (i + 1) (j + 1) ∧ (i + 1) / Nat.gcd (i + 1) (j + 1) ≤ 6 ∧ 1 ≤ (j + 1) / Nat.gcd (i + 1) (j + 1) ∧ (j + 1) / Nat.gcd (i + 1) (j + 1) ≤ 6 ∧ Nat.gcd ((i + 1) / Nat.gcd (i + 1) (j + 1)) ((j + 1) / Nat.gcd (i + 1) (j + 1)) = 1 := by decide +kernel
theorem pair_is {x y m l : Int} (h : GcdAt (x.fmod 6 + 1) (y.fmod 6 + 1) m l) (hl : l = 0) : ∃ a b : Nat, (x.fmod 6 + 1).fdiv m = (a : Int) ∧ (y.fmod 6 + 1).fdiv m = (b : Int) ∧ Pair a b := by
  subst hl
  obtain ⟨h1, h2, _, _, h5⟩ := h
  have e1 := Int.fmod_nonneg_of_pos x (show (0:Int) < 6 by decide)
  have e2 := Int.fmod_nonneg_of_pos y (show (0:Int) < 6 by decide)
  have e3 := Int.fmod_lt_of_pos x (show (0:Int) < 6 by decide)
  have e4 := Int.fmod_lt_of_pos y (show (0:Int) < 6 by decide)
  obtain ⟨i, hi⟩ := Int.eq_ofNat_of_zero_le e1
  obtain ⟨j, hj⟩ := Int.eq_ofNat_of_zero_le e2
  obtain ⟨k, hk⟩ := Int.eq_ofNat_of_zero_le (Int.le_of_lt h1)
  rw [hi, hj] at h5 ⊢
  subst hk
  have hg : k = Nat.gcd (i + 1) (j + 1) := by
    have : Int.gcd (k : Int) 0 = k := by simp
    rw [this] at h5
    rw [h5]
    rfl
  obtain ⟨p1, p2, p3, p4, p5⟩ := pair_nat i (by omega) j (by omega)
  refine ⟨(i + 1) / k, (j + 1) / k, ?_, ?_, ?_⟩
  · rw [Int.fdiv_eq_ediv_of_nonneg _ (Int.natCast_nonneg k)]; rfl
  · rw [Int.fdiv_eq_ediv_of_nonneg _ (Int.natCast_nonneg k)]; rfl
  · subst hg
    exact ⟨p1, p2, p3, p4, p5⟩
theorem sign_nat : ∀ i : Nat, i < 8 → ∀ j : Nat, j < 7 → ∃ c ∈ signsS, ∃ d ∈ signsS, Txt.item (Str.ofString "<>&\"\r\n\t@") (i : Int) = ⟨#[c]⟩ ∧ Txt.item (Str.ofString "<>&\"\r\n\t@") (((i : Int) + ((j : Int) + 1)).fmod 8) = ⟨#[d]⟩ ∧ c ≠ d := by decide +kernel
theorem sign_is (z : Int) : ∃ c ∈ signsS, ∃ d ∈ signsS, Txt.item (Str.ofString "<>&\"\r\n\t@") (z.fmod 8) = ⟨#[c]⟩ ∧ Txt.item (Str.ofString "<>&\"\r\n\t@") ((z.fmod 8 + ((z.fdiv 8).fmod 7 + 1)).fmod 8) = ⟨#[d]⟩ ∧ c ≠ d := by
  have e1 := Int.fmod_nonneg_of_pos z (show (0:Int) < 8 by decide)
  have e2 := Int.fmod_nonneg_of_pos (z.fdiv 8) (show (0:Int) < 7 by decide)
  have e3 := Int.fmod_lt_of_pos z (show (0:Int) < 8 by decide)
  have e4 := Int.fmod_lt_of_pos (z.fdiv 8) (show (0:Int) < 7 by decide)
  obtain ⟨i, hi⟩ := Int.eq_ofNat_of_zero_le e1
  obtain ⟨j, hj⟩ := Int.eq_ofNat_of_zero_le e2
  rw [hi, hj]
  exact sign_nat i (by omega) j (by omega)
theorem signs_cut {M : Model} {A : Around} {E Q : Value → Shared → Prop} {s : Shared} {f : Value} {a b z : Int} {t1 t2 t3 t4 : Tok}
    (h : ∀ c d, Txt.item (Str.ofString "<>&\"\r\n\t@") (z.fmod 8) = ⟨#[c]⟩ → Txt.item (Str.ofString "<>&\"\r\n\t@") ((z.fmod 8 + ((z.fdiv 8).fmod 7 + 1)).fmod 8) = ⟨#[d]⟩ → c ∈ signsS → d ∈ signsS → c ≠ d →
      wpAny M A (call f [.int a t1, .int b t2, .str (Txt.item (Str.ofString "<>&\"\r\n\t@") (z.fmod 8)) t3, .str (Txt.item (Str.ofString "<>&\"\r\n\t@") ((z.fmod 8 + ((z.fdiv 8).fmod 7 + 1)).fmod 8)) t4]) Q E s) :
    wpAny M A (call f [.int a t1, .int b t2, .str (Txt.item (Str.ofString "<>&\"\r\n\t@") (z.fmod 8)) t3, .str (Txt.item (Str.ofString "<>&\"\r\n\t@") ((z.fmod 8 + ((z.fdiv 8).fmod 7 + 1)).fmod 8)) t4]) Q E s := by
  obtain ⟨c, hc, d, hd', e1, e2, hne⟩ := sign_is z
  exact h c d e1 e2 hc hd' hne
end Mine
end
section
open PySem PySem.W PyProof.Rows PyProof.V
set_option Elab.async false
set_option maxRecDepth 100000
set_option maxHeartbeats 8000000
namespace Mine
/-- a text as a teller writes it, sign by sign -/
def flatS (cd : Nat → Str) (y : Str) : Str := txt (y.cps.toList.flatMap fun n => (cd n).cps.toList)
/-- a teller's table tells its codes -/
def TableAre (prog : Program) (w : World) (od : Obj) (cd : Nat → Str) : Prop :=
  ∃ kvs, od.IsDictOf (PySem.strKind prog w) kvs ∧ ∀ n ∈ signsS, (∃ t, valueAt kvs (⟨#[n]⟩ : Str) = some (.str (cd n) t)) ∨ (valueAt kvs (⟨#[n]⟩ : Str) = none ∧ cd n = ⟨#[n]⟩)
def tupO (f D : Addr) : Obj := { cls := .type "tuple", dict := none, data := .seq [Value.ref f, Value.ref D].toArray 0 }
/-- how the frame stands where a turn begins -/
def turnM (W M x y : Str) (tW tM tx ty : Tok) (u : Str → Option Value) : Str → Option Value := fun z =>
  if z = Str.ofString "mirror" then some (.str M tM) else if z = Str.ofString "word" then some (.str W tW) else if z = Str.ofString "other" then some (.str y ty) else if z = Str.ofString "one" then some (.str x tx) else u z
def CellO (o : Obj) : Prop := ∃ v, o.data = .cell v
section
variable {prog : Program} {w : World} {A : Around} {E : Value → Shared → Prop} {s : Shared} {h₀ : Heap} {env : Env} {target : Expr} {body : List Stmt} {Q : Flow → Shared → Prop}
/-- what a turn leaves -/
def TurnDone (h₀ : Heap) (L : Addr) (s₁ : Shared) (names : List (Str × Value)) (ct cc cl : Addr) (own : List (Addr × Obj)) (f : Flow) (s' : Shared) : Prop :=
  f = .next ∧ ∃ h' tk' m' o1 o2 o3, s' = { s₁ with heap := h', toks := tk' } ∧ Fr h₀ L h' m' ∧ (∀ p ∈ names, m' p.1 = some p.2) ∧ News h₀ L h' ((ct, o1) :: (cc, o2) :: (cl, o3) :: own) ∧ CellO o1 ∧ CellO o2 ∧ CellO o3
theorem tellers_loop {l : Addr} {lo : Obj} {vs : List Value} {n₀ : Nat} (stay : List (Addr × Obj)) {ct cc cl : Addr} {o1 o2 o3 : Obj} {m : Str → Option Value} {W M x y : Str} {tW tM tx ty : Tok} (G : Addr → Addr → Obj → Prop)
    (hh : A.handled = none) (F : Fr h₀ env.locals s.heap m) (N : News h₀ env.locals s.heap ((l, lo) :: (ct, o1) :: (cc, o2) :: (cl, o3) :: stay)) (hc : lo.cls = .type "list") (hd : lo.data = .seq vs.toArray n₀)
    (d1 : CellO o1) (d2 : CellO o2) (d3 : CellO o3) (off : ∀ p ∈ (l, lo) :: stay, p.1 ≠ ct ∧ p.1 ≠ cc ∧ p.1 ≠ cl)
    (hm1 : m (Str.ofString "mirror") = some (.str M tM)) (hm2 : m (Str.ofString "word") = some (.str W tW)) (hm3 : m (Str.ofString "other") = some (.str y ty)) (hm4 : m (Str.ofString "one") = some (.str x tx))
    (hv : ∀ v ∈ vs, ∃ T f D od, v = .ref T ∧ (T, tupO f D) ∈ stay ∧ (D, od) ∈ stay ∧ G f D od)
    (turn : ∀ T f D od o1 o2 o3 own u h tk, G f D od → CellO o1 → CellO o2 → CellO o3 → (T ≠ ct ∧ T ≠ cc ∧ T ≠ cl) → (D ≠ ct ∧ D ≠ cc ∧ D ≠ cl) → OwnOff own [ct, cc, cl] →
      Fr h₀ env.locals h (turnM W M x y tW tM tx ty u) → News h₀ env.locals h ((T, tupO f D) :: (D, od) :: (ct, o1) :: (cc, o2) :: (cl, o3) :: own) →
      wpAny (model prog w) A (assign target env (.ref T)) (fun _ s₃ => wpAny (model prog w) A (execs body env)
        (TurnDone h₀ env.locals { s with heap := h, toks := tk } [(Str.ofString "mirror", .str M tM), (Str.ofString "word", .str W tW), (Str.ofString "other", .str y ty), (Str.ofString "one", .str x tx)] ct cc cl own) E s₃) E { s with heap := h, toks := tk })
    (done : ∀ h tk m', Fr h₀ env.locals h m' → News h₀ env.locals h stay → Q .next { s with heap := h, toks := tk }) :
    wpAny (model prog w) A (pyIter (.ref l)) (fun it s₂ => TurnsAt prog w A h₀ env target body Q E it s₂) E s := by
  have hax := N _ (.head _)
  have hl : s.heap.IsList l vs.toArray := ⟨lo, hax.1, hc, n₀, hd⟩
  have hne : l ≠ s.heap.objs.size := Nat.ne_of_lt (Heap.lt_size hax.1)
  have hLI : env.locals ≠ s.heap.objs.size := Nat.ne_of_lt F.ns.lt
  have lt1 := Nat.ne_of_lt (Heap.lt_size (N _ (.tail _ (.head _))).1)
  have lt2 := Nat.ne_of_lt (Heap.lt_size (N _ (.tail _ (.tail _ (.head _)))).1)
  have lt3 := Nat.ne_of_lt (Heap.lt_size (N _ (.tail _ (.tail _ (.tail _ (.head _))))).1)
  refine wpAny_pyIter_list hl ?_
  refine ⟨s.heap.objs.size, [s.heap.objs.size, l], [s.heap.objs.size], vs.toArray.size, _, _, _, m, (ct, o1) :: (cc, o2) :: (cl, o3) :: stay,
    (fun _ m₁ n₁ => (∀ p ∈ [(Str.ofString "mirror", Value.str M tM), (Str.ofString "word", .str W tW), (Str.ofString "other", .str y ty), (Str.ofString "one", .str x tx)], m₁ p.1 = some p.2) ∧ (∀ p ∈ stay, p ∈ n₁) ∧ ∃ o1 o2 o3, CellO o1 ∧ CellO o2 ∧ CellO o3 ∧ (ct, o1) ∈ n₁ ∧ (cc, o2) ∈ n₁ ∧ (cl, o3) ∈ n₁),
    rfl, KTurns.ofWalks (Walks.list hh s.heap.objs.size l hne vs.toArray) (fun i v s Q E st q => letGo_listiter st.1 q), ?_, ?_, ?_, ⟨⟨_, Heap.get?_push_size _ rfl, rfl, rfl⟩, hl.at fun o e => Heap.get?_push_of_some _ e⟩, F.push _, ?_, ?_, ?_, ?_⟩
  · intro hI
    rcases List.mem_cons.mp hI with e | hI
    · exact hLI e
    · exact hax.2.1 (List.mem_singleton.mp hI).symm
  · intro b hb
    rw [List.mem_singleton.mp hb]
    exact next_is_new F
  · intro p hp hI
    exact absurd (Heap.lt_size (N p (.tail _ hp)).1) ((List.mem_singleton.mp hI) ▸ Nat.lt_irrefl _)
  · intro p hp
    exact ⟨Heap.get?_push_of_some _ (N p (.tail _ hp)).1, (N p (.tail _ hp)).2⟩
  · refine ⟨fun p hp => ?_, fun p hp => .tail _ (.tail _ (.tail _ hp)), o1, o2, o3, d1, d2, d3, .head _, .tail _ (.head _), .tail _ (.tail _ (.head _))⟩
    simp only [List.mem_cons, List.mem_nil_iff, or_false] at hp
    rcases hp with rfl | rfl | rfl | rfl
    · exact hm1
    · exact hm2
    · exact hm3
    · exact hm4
  · intro i v m₁ n₁ h₁ tk₁ own hi hP hJ hoff hsub hown hown2 hst F₁ N₁
    obtain ⟨hnm, hstay, o1', o2', o3', c1, c2, c3, e1, e2, e3⟩ := hJ
    have hvi : v ∈ vs := by
      have : vs.toArray[i]? = some v := hP
      exact List.mem_of_getElem? (by simpa using this)
    obtain ⟨T, f, D, od, rfl, hT, hD, hG⟩ := hv v hvi
    have ownoff : ∀ p ∈ own, p.1 ≠ ct ∧ p.1 ≠ cc ∧ p.1 ≠ cl := fun p hp => by
      have := hsub p hp
      simp only [List.mem_cons, List.mem_nil_iff, or_false] at this
      rcases this with e | e
      · rw [e]; exact ⟨lt1.symm, lt2.symm, lt3.symm⟩
      · rw [e]; exact off _ (.head _)
    have F₂ : Fr h₀ env.locals h₁ (turnM W M x y tW tM tx ty m₁) := by
      have : turnM W M x y tW tM tx ty m₁ = m₁ := by
        funext z
        unfold turnM
        split
        · rename_i e; rw [e]; exact (hnm _ (.head _)).symm
        · split
          · rename_i e; rw [e]; exact (hnm _ (.tail _ (.head _))).symm
          · split
            · rename_i e; rw [e]; exact (hnm _ (.tail _ (.tail _ (.head _)))).symm
            · split
              · rename_i e; rw [e]; exact (hnm _ (.tail _ (.tail _ (.tail _ (.head _))))).symm
              · rfl
      rw [this]
      exact F₁
    refine wpAny_mono (turn T f D od o1' o2' o3' (stay ++ own) m₁ h₁ tk₁ hG c1 c2 c3 (off _ (.tail _ hT)) (off _ (.tail _ hD)) ?_ F₂ ?_) (fun _ s₃ h₃ => wpAny_mono h₃ (fun fl s₄ h₄ => ?_) fun _ _ e => e) fun _ _ e => e
    · intro p hp b hb
      have q : p.1 ≠ ct ∧ p.1 ≠ cc ∧ p.1 ≠ cl := (List.mem_append.mp hp).elim (fun a => off _ (.tail _ a)) (ownoff p)
      simp only [List.mem_cons, List.mem_nil_iff, or_false] at hb
      rcases hb with rfl | rfl | rfl
      · exact q.1
      · exact q.2.1
      · exact q.2.2
    · intro p hp
      have r : ∀ q ∈ n₁, q ∈ own ++ n₁ := fun q hq => List.mem_append_right _ hq
      simp only [List.mem_cons, List.mem_append] at hp
      rcases hp with rfl | rfl | rfl | rfl | rfl | hp | hp
      · exact N₁ _ (r _ (hstay _ hT))
      · exact N₁ _ (r _ (hstay _ hD))
      · exact N₁ _ (r _ e1)
      · exact N₁ _ (r _ e2)
      · exact N₁ _ (r _ e3)
      · exact N₁ _ (r _ (hstay _ hp))
      · exact N₁ _ (List.mem_append_left _ hp)
    · obtain ⟨rfl, h', tk', m', p1, p2, p3, rfl, F', hn', N', g1, g2, g3⟩ := h₄
      refine ⟨rfl, h', tk', m', (ct, p1) :: (cc, p2) :: (cl, p3) :: stay, rfl, F', fun p hp => ?_, fun p hp hI => ?_, hn', fun p hp => .tail _ (.tail _ (.tail _ hp)), p1, p2, p3, g1, g2, g3, .head _, .tail _ (.head _), .tail _ (.tail _ (.head _))⟩
      · rcases List.mem_append.mp hp with hp | hp
        · exact N' p (.tail _ (.tail _ (.tail _ (List.mem_append_right _ hp))))
        · refine N' p ?_
          simp only [List.mem_cons] at hp ⊢
          rcases hp with rfl | rfl | rfl | hp
          · exact .inl rfl
          · exact .inr (.inl rfl)
          · exact .inr (.inr (.inl rfl))
          · exact .inr (.inr (.inr (List.mem_append_left _ hp)))
      · have hI := List.mem_singleton.mp hI
        simp only [List.mem_cons] at hp
        rcases hp with rfl | rfl | rfl | hp
        · exact lt1 hI
        · exact lt2 hI
        · exact lt3 hI
        · exact absurd (Heap.lt_size (N p (.tail _ (.tail _ (.tail _ (.tail _ hp))))).1) (hI ▸ Nat.lt_irrefl _)
  · intro h' tk m' n' F' N' _ hJ
    exact done h' tk m' F' fun p hp => N' p (hJ.2.1 p hp)
end
end Mine
end
section
open PySem PySem.W PyProof.Rows PyProof.V PySem.Calls
set_option Elab.async false
set_option maxRecDepth 100000
set_option maxHeartbeats 8000000
namespace Mine
section
variable {K : Type} [DecidableEq K]
theorem va_cons (p : K × Value) (l : List (K × Value)) (j : K) : valueAt (p :: l) j = if p.1 = j then some p.2 else valueAt l j := by
  unfold valueAt
  rw [List.find?_cons]
  by_cases h : p.1 = j <;> simp [h]
theorem va_old (k j : K) (v : Value) (h : ¬ k = j) : ∀ l : List (K × Value), valueAt (l.map fun kv => if kv.1 = k then (kv.1, v) else kv) j = valueAt l j
  | [] => rfl
  | p :: l => by
    rw [List.map_cons, va_cons, va_cons, va_old k j v h l]
    by_cases h1 : p.1 = k
    · rw [if_pos h1, h1, if_neg h, if_neg h]
    · rw [if_neg h1]
theorem va_new (k : K) (v : Value) : ∀ l : List (K × Value), l.any (fun kv => kv.1 = k) = true → valueAt (l.map fun kv => if kv.1 = k then (kv.1, v) else kv) k = some v
  | [], h => by simp at h
  | p :: l, h => by
    rw [List.map_cons, va_cons]
    by_cases h1 : p.1 = k
    · rw [if_pos h1, if_pos h1]
    · rw [if_neg h1, if_neg h1]
      refine va_new k v l ?_
      rw [List.any_cons, decide_eq_false h1, Bool.false_or] at h
      exact h
theorem va_snoc (k j : K) (v : Value) : ∀ l : List (K × Value), valueAt (l ++ [(k, v)]) j = (valueAt l j).or (if k = j then some v else none)
  | [] => by rw [List.nil_append, va_cons]; split <;> rfl
  | p :: l => by
    rw [List.cons_append, va_cons, va_cons, va_snoc k j v l]
    by_cases h : p.1 = j
    · rw [if_pos h, if_pos h]; rfl
    · rw [if_neg h, if_neg h]
theorem va_none (k : K) : ∀ l : List (K × Value), ¬ l.any (fun kv => kv.1 = k) = true → valueAt l k = none
  | [], _ => rfl
  | p :: l, h => by
    rw [List.any_cons, Bool.or_eq_true, not_or] at h
    rw [va_cons, if_neg (fun e => h.1 (decide_eq_true e)), va_none k l h.2]
theorem va_stored (kvs : List (K × Value)) (k j : K) (v : Value) : valueAt (stored kvs k v) j = if k = j then some v else valueAt kvs j := by
  unfold stored
  split
  · rename_i h
    split
    · rename_i e; subst e; exact va_new k v kvs h
    · rename_i e; exact va_old k j v e kvs
  · rename_i h
    rw [va_snoc]
    split
    · rename_i e; subst e; rw [va_none k kvs h]; rfl
    · cases valueAt kvs j <;> rfl
end
theorem one_inj {a b : Nat} (h : (⟨#[a]⟩ : Str) = ⟨#[b]⟩) : a = b := by
  have := congrArg (fun s : Str => s.cps.toList) h
  simpa using this
theorem stored_codes {g : Nat → Str} {l : List Value} {kvs : List (Str × Value)} (h : StoredAll (fun v k => ∃ n t, v = .str ⟨#[n]⟩ t ∧ k = (⟨#[n]⟩ : Str)) (fun v y => ∃ n t t', v = .str ⟨#[n]⟩ t ∧ y = .str (g n) t') l kvs) :
    ∀ n, (∃ t, Value.str ⟨#[n]⟩ t ∈ l) → ∃ t, valueAt kvs (⟨#[n]⟩ : Str) = some (.str (g n) t) := by
  induction h with
  | nil => rintro n ⟨t, ht⟩; cases ht
  | @snoc l kvs v k y _ hk hy ih =>
    rintro n ⟨t, ht⟩
    obtain ⟨a, ta, rfl, rfl⟩ := hk
    obtain ⟨b, tb, t', e, rfl⟩ := hy
    have hab : a = b := by injection e with e1 e2; exact one_inj e1
    subst hab
    rw [va_stored]
    by_cases ha : a = n
    · subst ha
      exact ⟨t', if_pos rfl⟩
    · rw [if_neg (fun q => ha (one_inj q))]
      refine ih n ⟨t, ?_⟩
      rcases List.mem_append.mp ht with h1 | h1
      · exact h1
      · have := List.mem_singleton.mp h1
        injection this with e1 e2
        exact absurd (one_inj e1).symm ha
section
variable {prog : Program} {w : World} {A : Around} {E : Value → Shared → Prop} {s : Shared} {h₀ : Heap} {L : Addr} {m : Str → Option Value} {env : Env} {x : Str} {px : Pos} {scope : Scope} {cl : List (Str × Addr)} {pos : Pos} {Q : Value → Shared → Prop} {xt : Str} {news : List (Addr × Obj)} {iter kx vx : Expr}
theorem comp_codes (g : Nat → Str) (F : Fr h₀ L s.heap m) (N : News h₀ L s.heap news) (hh : A.handled = none)
    (hclos : closureFor scope env = pure cl) (hcell : ∀ y ∈ scope.names, y.2 ≠ .cell) (hkind : scope.kind = .function)
    (hnames : ∀ y ∈ scope.names, y.2 = .local → scope.names.lookup y.1 = some .local) (hx : scope.names.lookup x = some .local) (hfit : xt.cps.size ≤ sizeLine) (ha : xt.cps.all (· < 128) = true)
    (hit : ∀ (E : Value → Shared → Prop) Q, (∀ t tk, Q (.str xt t) { s with toks := tk }) → wpAny (model prog w) A (eval iter env) Q E s)
    (key : ∀ n t C s₃ m₃ (E' : Value → Shared → Prop), n ∈ xt.cps.toList → s₃.heap.Ns C m₃ → m₃ x = some (.str ⟨#[n]⟩ t) → Fr h₀ L s₃.heap m → News h₀ L s₃.heap news →
      wpAny (model prog w) A (eval kx (compEnvC scope cl C env)) (fun y s₄ => y = .str ⟨#[n]⟩ t ∧ Keeps s₃ s₄) E' s₃)
    (val : ∀ n t C s₃ m₃ (E' : Value → Shared → Prop), n ∈ xt.cps.toList → s₃.heap.Ns C m₃ → m₃ x = some (.str ⟨#[n]⟩ t) → Fr h₀ L s₃.heap m → News h₀ L s₃.heap news →
      wpAny (model prog w) A (eval vx (compEnvC scope cl C env)) (fun y s₄ => (∃ t, y = .str (g n) t) ∧ Keeps s₃ s₄) E' s₃)
    (done : ∀ D o h tk, CodesAre prog w o xt.cps.toList g → Fr h₀ L h m → News h₀ L h ((D, o) :: news) → (∀ p ∈ news, p.1 ≠ D) → Q (.ref D) { s with heap := h, toks := tk })
    (hs : ∀ x, foldedSetIterable iter env x = pure x := by intro _; rfl) :
    wpAny (model prog w) A (eval (.DictComp kx vx [⟨.Name x px, iter, [], 0⟩] scope pos) env) Q E s := by
  refine wpAny_DictComp_free (strKind prog w) (fun _ => true) (fun v k => ∃ n t, v = .str ⟨#[n]⟩ t ∧ k = (⟨#[n]⟩ : Str)) (fun v y => ∃ n t t', v = .str ⟨#[n]⟩ t ∧ y = .str (g n) t') hclos hcell hkind hnames hx ?_ hs
  refine hit _ _ fun t tk => ?_
  refine wpAny_pyIter_ascii ha ?_
  have kp : ∀ s₃ : Shared, (∀ b o, b ∉ [s.heap.objs.size] → (s.heap.push { cls := .type "str_ascii_iterator", data := .fields #[.str xt t, .int 0 0] }).get? b = some o → s₃.heap.get? b = some o) → ∀ b o, s.heap.get? b = some o → s₃.heap.get? b = some o := fun s₃ hk b o e =>
    hk b o (fun hm => by rw [List.mem_singleton.mp hm] at e; exact absurd (Heap.lt_size e) (Nat.lt_irrefl _)) (Heap.get?_push_of_some _ e)
  refine ⟨s.heap.objs.size, _, _, _, _, _, rfl, Walks.strAscii hh s.heap.objs.size xt t, hfit, ⟨_, Heap.get?_push_size _ rfl, rfl, rfl⟩, ?_, ⟨?_, ?_, ?_⟩, ?_⟩
  · intro b hb
    rw [List.mem_singleton.mp hb]
    show s.heap.objs.size < (s.heap.push _).objs.size
    rw [Heap.size_push]; exact Nat.lt_succ_self _
  · intro C i v s₃ m₃ E' _ _ _ _
    exact wpAny_pure ⟨rfl, s₃.heap, s₃.toks, rfl, fun _ _ e => e⟩
  · intro C i v s₃ m₃ E' hP _ hn hm hk
    obtain ⟨n, u, hnu, rfl⟩ := hP
    have hmem : n ∈ xt.cps.toList := List.mem_of_getElem? (by simpa using hnu)
    refine wpAny_mono (key n u C s₃ m₃ E' hmem hn hm (F.keeps (kp s₃ hk)) (N.grown (kp s₃ hk))) (fun y s₄ h₄ => ?_) fun _ _ e => e
    obtain ⟨rfl, hK⟩ := h₄
    exact ⟨⟨⟨#[n]⟩, strKind_is prog w _ _, n, u, rfl, rfl⟩, hK⟩
  · intro C i v s₃ m₃ E' hP _ hn hm hk
    obtain ⟨n, u, hnu, rfl⟩ := hP
    have hmem : n ∈ xt.cps.toList := List.mem_of_getElem? (by simpa using hnu)
    refine wpAny_mono (val n u C s₃ m₃ E' hmem hn hm (F.keeps (kp s₃ hk)) (N.grown (kp s₃ hk))) (fun y s₄ h₄ => ?_) fun _ _ e => e
    obtain ⟨⟨t', rfl⟩, hK⟩ := h₄
    exact ⟨⟨n, u, t', rfl, rfl⟩, hK⟩
  · intro D h' tk' kvs vs hDn hdict hlen hP hst hk
    have kp' : ∀ b o, s.heap.get? b = some o → h'.get? b = some o := kp { s with heap := h' } hk
    obtain ⟨o, ho, hd⟩ := Heap.dictOf_iff.mp hdict
    have hDs : s.heap.get? D = none := by
      cases e : s.heap.get? D with
      | none => rfl
      | some o' => rw [show ({ s with heap := s.heap.push { cls := .type "str_ascii_iterator", data := .fields #[.str xt t, .int 0 0] }, toks := tk } : Shared).heap.get? D = some o' from Heap.get?_push_of_some _ e] at hDn; cases hDn
    have hnew : h₀.get? D = none := by
      cases e : h₀.get? D with
      | none => rfl
      | some o' => rw [F.keep _ _ e] at hDs; cases hDs
    have hDL : D ≠ L := fun e => by
      obtain ⟨oL, _, _, hL, _⟩ := F.ns
      rw [e, hL] at hDs; cases hDs
    have hne : ∀ p ∈ news, p.1 ≠ D := fun p hp e => by rw [← e, (N p hp).1] at hDs; cases hDs
    refine done D o h' tk' ⟨kvs, hd, fun n hn => stored_codes hst n ?_⟩ (F.keeps kp') (fun p hp => ?_) hne
    · obtain ⟨i, hi⟩ := List.mem_iff_getElem?.mp hn
      have hlt : i < vs.length := by
        rw [hlen]
        have := (List.getElem?_eq_some_iff.mp hi).1
        simpa using this
      obtain ⟨n', u, hnu, e⟩ := hP i vs[i] (List.getElem?_eq_getElem hlt)
      have : n' = n := by
        have h2 : xt.cps.toList[i]? = some n' := by simpa using hnu
        rw [hi] at h2; injection h2 with h2; exact h2.symm
      subst this
      refine ⟨u, List.mem_filter.mpr ⟨?_, rfl⟩⟩
      rw [← e]
      exact List.getElem_mem hlt
    · rcases List.mem_cons.mp hp with rfl | hp
      · exact ⟨ho, hDL, hnew⟩
      · exact ⟨kp' _ _ (N p hp).1, (N p hp).2⟩
end
end Mine
end
section
open PySem PySem.W PyProof.Rows PyProof.V
set_option Elab.async false
set_option maxRecDepth 100000
set_option maxHeartbeats 8000000
namespace Mine.CT
section
variable {prog : Program} {w : World} {A : Around} {E : Value → Shared → Prop} {s : Shared} {h₀ : Heap} {L : Addr} {m : Str → Option Value} {env : Env} {elt ct : Expr} {x : Str} {px : Pos} {scope : Scope} {cl : List (Str × Addr)} {pos : Pos} {Q : Value → Shared → Prop} {xt : Str} {tx : Tok} {news : List (Addr × Obj)} {iter : Expr}
/-- a turn behind its test -/
def TestEnd (prog : Program) (w : World) (A : Around) (h₀ : Heap) (L : Addr) (m : Str → Option Value) (all : List (Addr × Obj)) (s₁ : Shared) (elt : Expr) (cenv : Env) (E' : Value → Shared → Prop) (b : Bool) (P : Value → Prop) (ok : Bool) (s' : Shared) : Prop :=
  if ok = true then b = true ∧ wpAny (model prog w) A (eval elt cenv) (TurnEnd h₀ L m all s₁ P) E' s' else b = false ∧ TurnEnd h₀ L m all s₁ (fun _ => True) .none s'
theorem rest_textT (p : Nat → Bool) (P : Nat → Value → Prop) {Fin : List Value → List (Addr × Obj) → Prop} {sz : Nat} (hsz : sz = xt.cps.size)
    (turn : ∀ n t I oI C oC D m₂ ys h tk (E' : Value → Shared → Prop), n ∈ xt.cps.toList → LCg.NsObj oC m₂ → m₂ x = some (.str ⟨#[n]⟩ t) → Fr h₀ L h m → News h₀ L h ((I, oI) :: (C, oC) :: (D, LCg.lst ys) :: news) →
      wpAny (model prog w) A (isTrue ct (compEnvC scope cl C env) (eval ct (compEnvC scope cl C env))) (TestEnd prog w A h₀ L m ((I, oI) :: (C, oC) :: (D, LCg.lst ys) :: news) { s with heap := h, toks := tk } elt (compEnvC scope cl C env) E' (p n) (P n)) E' { s with heap := h, toks := tk })
    (fin : ∀ ys, Told P (xt.cps.toList.filter p) ys → Fin ys news) :
    LCt.CompRestT prog w A h₀ L m env ct elt x scope cl s (fun _ => True) (SignAt xt) Fin sz 0 [] news := by
  have hl : xt.cps.toList.length = xt.cps.size := by simp
  have key : ∀ (j i : Nat) (ys : List Value), i + j = sz → Told P ((xt.cps.toList.take i).filter p) ys → LCt.CompRestT prog w A h₀ L m env ct elt x scope cl s (fun _ => True) (SignAt xt) Fin j i ys news := by
    intro j
    induction j with
    | zero =>
      intro i ys hi hy
      rw [List.take_of_length_le (by omega)] at hy
      exact LCt.CompRestT.zero (fin ys hy)
    | succ j ih =>
      intro i ys hi hy
      refine LCt.CompRestT.succ ?_
      intro v I oI C oC D m₂ h tk E' hv hC hx F N off ne
      obtain ⟨n, t, hn, rfl⟩ := hv
      have hn' : xt.cps.toList[i]? = some n := by simpa using hn
      refine wpAny_mono (turn n t I oI C oC D m₂ ys h tk E' (List.mem_of_getElem? hn') hC hx F N) (fun ok s₂ hq => ?_) fun _ _ e => e
      cases ok with
      | true =>
        obtain ⟨hb, hq⟩ := (show p n = true ∧ _ from hq)
        show wpAny _ _ _ _ _ _
        refine wpAny_mono hq (fun y s₃ hq => ?_) fun _ _ e => e
        obtain ⟨hP, h', tk', rfl, F', N'⟩ := hq
        refine ⟨h', tk', news, rfl, F', N', off, trivial, ih (i + 1) _ (by omega) ?_⟩
        rw [List.take_add_one, hn', List.filter_append]
        rw [show (some n).toList.filter p = [n] by simp [hb]]
        exact .snoc hy hP
      | false =>
        obtain ⟨hb, _, h', tk', rfl, F', N'⟩ := (show p n = false ∧ _ from hq)
        refine ⟨h', tk', news, rfl, F', N', off, trivial, ih (i + 1) _ (by omega) ?_⟩
        rw [List.take_add_one, hn', List.filter_append]
        rw [show (some n).toList.filter p = [] by simp [hb], List.append_nil]
        exact hy
  exact key sz 0 [] (by omega) (by simp only [List.take_zero]; exact .nil)
theorem comp_test (p : Nat → Bool) (P : Nat → Value → Prop) (F : Fr h₀ L s.heap m) (N : News h₀ L s.heap news) (hh : A.handled = none)
    (hclos : closureFor scope env = pure cl) (hcell : ∀ y ∈ scope.names, y.2 ≠ .cell) (hkind : scope.kind = .function)
    (hnames : ∀ y ∈ scope.names, y.2 = .local → scope.names.lookup y.1 = some .local) (hx : scope.names.lookup x = some .local) (hfit : xt.length ≤ sizeLine)
    (hit : ∀ (E : Value → Shared → Prop) Q, Q (.str xt tx) s → wpAny (model prog w) A (eval iter env) Q E s)
    (turn : ∀ s₁ n t I oI C oC D m₂ ys h tk (E' : Value → Shared → Prop), (∃ g, s₁ = { s with heap := g }) → n ∈ xt.cps.toList → LCg.NsObj oC m₂ → m₂ x = some (.str ⟨#[n]⟩ t) → Fr h₀ L h m → News h₀ L h ((I, oI) :: (C, oC) :: (D, LCg.lst ys) :: news) →
      wpAny (model prog w) A (isTrue ct (compEnvC scope cl C env) (eval ct (compEnvC scope cl C env))) (TestEnd prog w A h₀ L m ((I, oI) :: (C, oC) :: (D, LCg.lst ys) :: news) { s₁ with heap := h, toks := tk } elt (compEnvC scope cl C env) E' (p n) (P n)) E' { s₁ with heap := h, toks := tk })
    (done : ∀ D ys h tk, Told P (xt.cps.toList.filter p) ys → Fr h₀ L h m → News h₀ L h ((D, LCg.lst ys) :: news) → Q (.ref D) { s with heap := h, toks := tk })
    (hs : ∀ x, foldedSetIterable iter env x = pure x := by intro _; rfl) :
    wpAny (model prog w) A (eval (.ListComp elt [⟨.Name x px, iter, [ct], 0⟩] scope pos) env) Q E s := by
  rw [eval_ListComp]
  refine wpAny_comprehension_free (use := none) rfl hs hclos hkind hnames (hit _ _ ?_)
  have fin : ∀ (g : Heap) (D C : Addr) (h : Heap) (tk : Nat) (m' : Str → Option Value) (ys : List Value) (news' : List (Addr × Obj)), Fr h₀ L h m → News h₀ L h ((D, LCg.lst ys) :: news') → LCg.Off1 D news' → h.Ns C m' → h₀.get? C = none → h₀.get? D = none → C ≠ L → D ≠ L → C ≠ D → (∀ p ∈ news', p.1 ≠ C) → (Told P (xt.cps.toList.filter p) ys ∧ news' = news) →
      ∃ m', h.Ns C m' ∧ ∀ h'', Heap.SameBut C h h'' → Q (.ref D) { s with heap := h'', toks := tk } := by
    rintro g D C h tk m' ys news' F' N' o1 hn hC₀ hD₀ hCL hDL hCD offC ⟨ht, rfl⟩
    refine ⟨m', hn, fun h'' hs'' => done D ys h'' tk ht (F'.change hs'' hCL hC₀) fun p hp => ⟨hs''.extBut _ _ ?_ (N' p hp).1, (N' p hp).2⟩⟩
    rcases List.mem_cons.mp hp with rfl | hp
    · exact Ne.symm hCD
    · exact offC p hp
  cases ha : xt.cps.all (· < 128)
  · refine wpAny_pyIter_wide ha ?_
    refine LCt.block_T (S := fun _ => True) (Walks.strWide hh s.heap.objs.size xt tx) hfit (fun i h st => by obtain ⟨o, e, _⟩ := st; exact ⟨o, e⟩) str_st hcell hkind hx ⟨_, Heap.get?_push_size _ rfl, rfl, rfl⟩ (fun b hb => ?_)
      (F.keeps fun _ _ e => Heap.get?_push_of_some _ e) (N.grown fun _ _ e => Heap.get?_push_of_some _ e) (Nat.ne_of_lt F.ns.lt) (next_is_new F) (fun p hp => Nat.ne_of_lt (Heap.lt_size (N p hp).1)) trivial
      (rest_textT p P rfl (fun n t I oI C oC D m₂ ys h tk E' a b c d e => turn _ n t I oI C oC D m₂ ys h tk E' ⟨_, rfl⟩ a b c d e) (Fin := fun ys nw => Told P (xt.cps.toList.filter p) ys ∧ nw = news) fun ys h => ⟨h, rfl⟩) ?_
    · rw [List.mem_singleton.mp hb]
      show s.heap.objs.size < (s.heap.push _).objs.size
      rw [Heap.size_push]; exact Nat.lt_succ_self _
    · exact fin s.heap
  · refine wpAny_pyIter_ascii ha ?_
    refine LCt.block_T (S := fun _ => True) (Walks.strAscii hh s.heap.objs.size xt tx) hfit (fun i h st => by obtain ⟨o, e, _⟩ := st; exact ⟨o, e⟩) str_st hcell hkind hx ⟨_, Heap.get?_push_size _ rfl, rfl, rfl⟩ (fun b hb => ?_)
      (F.keeps fun _ _ e => Heap.get?_push_of_some _ e) (N.grown fun _ _ e => Heap.get?_push_of_some _ e) (Nat.ne_of_lt F.ns.lt) (next_is_new F) (fun p hp => Nat.ne_of_lt (Heap.lt_size (N p hp).1)) trivial
      (rest_textT p P rfl (fun n t I oI C oC D m₂ ys h tk E' a b c d e => turn _ n t I oI C oC D m₂ ys h tk E' ⟨_, rfl⟩ a b c d e) (Fin := fun ys nw => Told P (xt.cps.toList.filter p) ys ∧ nw = news) fun ys h => ⟨h, rfl⟩) ?_
    · rw [List.mem_singleton.mp hb]
      show s.heap.objs.size < (s.heap.push _).objs.size
      rw [Heap.size_push]; exact Nat.lt_succ_self _
    · exact fin s.heap
end
theorem told_strs {g : Nat → Str} {l : List Nat} {ys : List Value} (h : Told (fun n y => ∃ t, y = .str (g n) t) l ys) : StrsAre ys (l.map g) := by
  induction h with
  | nil => exact .nil
  | snoc _ hp ih =>
    obtain ⟨t, rfl⟩ := hp
    rw [List.map_append]
    exact StrsAre.append' ih (.cons _ _ .nil)
end Mine.CT
end
section
open PySem PySem.W PyProof.Rows PyProof.V PySem.Calls
set_option Elab.async false
set_option maxRecDepth 100000
set_option maxHeartbeats 8000000
namespace Mine
/-- does the teller write the one sign behind the other -/
def turnedB (cd : Nat → Str) (c d : Nat) : Bool := !decide ((flatS cd ⟨#[c]⟩).cps.toList < (flatS cd ⟨#[d]⟩).cps.toList)
def countOf (l : List Nat) (n : Nat) : Int := ((l.filter fun k => k == n).length : Int)
/-- Bezout's pair, told by an ending of the lower word -/
def Bez (low part : Str) : Prop :=
  (countOf part.cps.toList (low.cps.toList.headD 0) + 1) * ((low.length : Int) - countOf low.cps.toList (low.cps.toList.headD 0)) - (((part.length : Int) - countOf part.cps.toList (low.cps.toList.headD 0)) - 1) * countOf low.cps.toList (low.cps.toList.headD 0) = 1
structure Plain (cd : Nat → Str) (c d : Nat) (W M : Str) : Prop where
  short : CodesShort cd
  tl : ∀ y : Str, y.length ≤ 100 → 1 ≤ y.length → 1 ≤ (flatS cd y).length ∧ (flatS cd y).length ≤ 900
  high : endIt (flatS cd) cd (if turnedB cd c d = true then W else M) = (if turnedB cd c d = true then W else M)
  low : Bez (if turnedB cd c d = true then M else W) (endIt (flatS cd) cd (if turnedB cd c d = true then M else W))
def TellerOK (prog : Program) (w : World) (c d : Nat) (W M : Str) (f D : Addr) (od : Obj) : Prop :=
  ∃ cd, Tells w f (flatS cd) ∧ TableAre prog w od cd ∧ (D == sysModules) = false ∧ Plain cd c d W M
theorem CodesAre.sub {prog : Program} {w : World} {o : Obj} {ks ks' : List Nat} {cd : Nat → Str} (h : CodesAre prog w o ks cd) (hs : ∀ n ∈ ks', n ∈ ks) : CodesAre prog w o ks' cd := by
  obtain ⟨kvs, h1, h2⟩ := h
  exact ⟨kvs, h1, fun n hn => h2 n (hs n hn)⟩
theorem merge_bool {M : Model} {A : Around} {t : Sem Value} {Q : Value → Shared → Prop} {E : Value → Shared → Prop} {s : Shared} {x y : Str} {tx ty : Tok} (b : Bool)
    (h1 : b = true → ∀ Q' : Value → Shared → Prop, Q' (.str x tx) s → wpAny M A t Q' E s) (h2 : b = false → ∀ Q' : Value → Shared → Prop, Q' (.str y ty) s → wpAny M A t Q' E s)
    (h : Q (.str (if b = true then x else y) (if b = true then tx else ty)) s) : wpAny M A t Q E s := by
  cases b
  · exact h2 rfl _ h
  · exact h1 rfl _ h
section
variable {prog : Program} {w : World} {A : Around} {E : Value → Shared → Prop} {s : Shared} {h₀ : Heap} {L C D ct : Addr} {m m₃ : Str → Option Value} {env : Env} {x y : Str} {px py p2 p3 pos : Pos} {scope : Scope} {cl : List (Str × Addr)} {news : List (Addr × Obj)} {o od : Obj} {cd : Nat → Str} {n : Nat} {t : Tok}
theorem sign_name (hn : s.heap.Ns C m₃) (hv : m₃ x = some (.str ⟨#[n]⟩ t)) (hx : (compEnvC scope cl C env).kindOf x = some .local) (hk : (compEnvC scope cl C env).scope.kind = .function) (hb : (x == ("__debug__" : Str)) = false) :
    wpAny (model prog w) A (eval (.Name x px) (compEnvC scope cl C env)) (fun v s' => v = .str ⟨#[n]⟩ t ∧ Keeps s s') E s :=
  wpAny_Name (wpAny_loadName_local hk hx hn hv ⟨rfl, s.heap, s.toks, rfl, fun _ _ e => e⟩) hb
theorem table_get {pl : Sem Bool} (hn : s.heap.Ns C m₃) (hv : m₃ x = some (.str ⟨#[n]⟩ t)) (N : News h₀ L s.heap news) (hm : (ct, o) ∈ news) (hd : o.data = .cell (some (.ref D))) (hmD : (D, od) ∈ news) (hT : TableAre prog w od cd) (hS : (D == sysModules) = false) (hns : n ∈ signsS)
    (hc : cl.lookup y = some ct) (hx : (compEnvC scope cl C env).kindOf x = some .local) (hy : (compEnvC scope cl C env).kindOf y = some .cell) (hk : (compEnvC scope cl C env).scope.kind = .function) (hb : (x == ("__debug__" : Str)) = false) (hby : (y == ("__debug__" : Str)) = false)
    (he : eval (.Call (.Attribute (.Name y py) (Str.ofString "get") p2) [.Name x px, .Name x p3] [] pos) (compEnvC scope cl C env) = (do
      let ov ← eval (.Name y py) (compEnvC scope cl C env)
      standAt p2.atName
      let (f, first) ← holding [ov] (getMethod ov (Str.ofString "get") pl)
      callWith pos f first (backTo pos (starEach [.Name x px, .Name x p3] (compEnvC scope cl C env))) [])) :
    wpAny (model prog w) A (eval (.Call (.Attribute (.Name y py) (Str.ofString "get") p2) [.Name x px, .Name x p3] [] pos) (compEnvC scope cl C env)) (fun v s' => (∃ t', v = .str (cd n) t') ∧ Keeps s s') E s := by
  obtain ⟨kvs, hdict, hk2⟩ := hT
  have hD : s.heap.DictOf (PySem.strKind prog w) D kvs := Heap.dictOf_iff.mpr ⟨od, (N _ hmD).1, hdict⟩
  refine MethodCall_ ?_ he
  exact kcf_cell N hc hm hd (getMethod_builtin hD.typeIs PySem.F.plainAttrs_dict PySem.F.slot_dict_get PySem.F.type_dict_get hD.mapOf.noDict (wpAny_dict_get2 hS
      (wpAny_Name (wpAny_loadName_local hk hx hn hv (wpAny_Name (wpAny_loadName_local hk hx hn hv ⟨_, _, strKind_is prog w _ _, hD.mapOf, by
        refine ⟨?_, s.heap, s.toks + 1, rfl, fun _ _ e => e⟩
        rcases hk2 n hns with ⟨t', e⟩ | ⟨e, e'⟩
        · exact ⟨t', by rw [e]; rfl⟩
        · exact ⟨t, by rw [e, e']; rfl⟩⟩) hb)) hb))) hk hy hby
end
theorem sign_small : ∀ n ∈ signsS, n < 128 := by decide
theorem small_signs {c d : Nat} (hc : c ∈ signsS) (hd' : d ∈ signsS) : (⟨#[c, d]⟩ : Str).cps.all (· < 128) = true := by
  have h1 := sign_small c hc
  have h2 := sign_small d hd'
  simp [h1, h2]
theorem two_signs {c d n : Nat} (hc : c ∈ signsS) (hd' : d ∈ signsS) (hn : n ∈ (⟨#[c, d]⟩ : Str).cps.toList) : n ∈ signsS := by
  simp at hn
  rcases hn with rfl | rfl
  · exact hc
  · exact hd'
end Mine
end
section
open PySem PySem.W PyProof.Rows PyProof.V PySem.Calls
set_option Elab.async false
set_option maxRecDepth 100000
set_option maxHeartbeats 8000000
namespace Mine
section
variable {prog : Program} {w : World} {A : Around} {E : Value → Shared → Prop} {s : Shared} {h₀ : Heap} {env : Env} {target : Expr} {body : List Stmt} {Q : Flow → Shared → Prop}
def TextDone (h₀ : Heap) (L : Addr) (s₁ : Shared) (x : Str) (m : Str → Option Value) (all : List (Addr × Obj)) (f : Flow) (s' : Shared) : Prop :=
  f = .next ∧ ∃ h' tk' m', s' = { s₁ with heap := h', toks := tk' } ∧ Fr h₀ L h' m' ∧ (∀ z, z ≠ x → m' z = m z) ∧ News h₀ L h' all
theorem texts_loop {l : Addr} {lo : Obj} {vs : List Value} {n₀ : Nat} (x : Str) (hdl own₀ : List (Addr × Obj)) {m : Str → Option Value}
    (hh : A.handled = none) (F : Fr h₀ env.locals s.heap m) (N : News h₀ env.locals s.heap ((l, lo) :: (hdl ++ own₀))) (hc : lo.cls = .type "tuple") (hd : lo.data = .seq vs.toArray n₀)
    (turn : ∀ (v : Value) (tl : List (Addr × Obj)) (u : Str → Option Value) (h : Heap) (tk : Nat), v ∈ vs → Fr h₀ env.locals h (fun z => if z = x then u z else m z) → News h₀ env.locals h (hdl ++ tl) →
      wpAny (model prog w) A (assign target env v) (fun _ s₃ => wpAny (model prog w) A (execs body env) (TextDone h₀ env.locals { s with heap := h, toks := tk } x m (hdl ++ tl)) E s₃) E { s with heap := h, toks := tk })
    (done : ∀ (h : Heap) (tk : Nat) (u : Str → Option Value), Fr h₀ env.locals h (fun z => if z = x then u z else m z) → News h₀ env.locals h (hdl ++ own₀) → Q .next { s with heap := h, toks := tk }) :
    wpAny (model prog w) A (pyIter (.ref l)) (fun it s₂ => TurnsAt prog w A h₀ env target body Q E it s₂) E s := by
  have hax := N _ (.head _)
  have hl : s.heap.IsTuple l vs.toArray := ⟨lo, hax.1, hc, n₀, hd⟩
  have hne : l ≠ s.heap.objs.size := Nat.ne_of_lt (Heap.lt_size hax.1)
  have hLI : env.locals ≠ s.heap.objs.size := Nat.ne_of_lt F.ns.lt
  have same : ∀ m₁ : Str → Option Value, (∀ z, z ≠ x → m₁ z = m z) → (fun z => if z = x then m₁ z else m z) = m₁ := fun m₁ hm => by
    funext z
    split
    · rfl
    · rename_i hz; exact (hm z hz).symm
  refine wpAny_pyIter_tuple hl ?_
  refine ⟨s.heap.objs.size, [s.heap.objs.size, l], [s.heap.objs.size], vs.toArray.size, _, _, _, m, hdl ++ own₀,
    (fun _ m₁ n₁ => (∀ z, z ≠ x → m₁ z = m z) ∧ n₁ = hdl ++ own₀),
    rfl, KTurns.ofWalks (Walks.tuple hh s.heap.objs.size l hne vs.toArray) (fun i v s Q E st q => letGo_tupleiter st.1 q), ?_, ?_, ?_, ⟨⟨_, Heap.get?_push_size _ rfl, rfl, rfl⟩, hl.at fun o e => Heap.get?_push_of_some _ e⟩, F.push _, ?_, ?_, ?_, ?_⟩
  · intro hI
    rcases List.mem_cons.mp hI with e | hI
    · exact hLI e
    · exact hax.2.1 (List.mem_singleton.mp hI).symm
  · intro b hb
    rw [List.mem_singleton.mp hb]
    exact next_is_new F
  · intro p hp hI
    exact absurd (Heap.lt_size (N p (.tail _ hp)).1) ((List.mem_singleton.mp hI) ▸ Nat.lt_irrefl _)
  · intro p hp
    exact ⟨Heap.get?_push_of_some _ (N p (.tail _ hp)).1, (N p (.tail _ hp)).2⟩
  · exact ⟨fun _ _ => rfl, rfl⟩
  · intro i v m₁ n₁ h₁ tk₁ own hi hP hJ hoff hsub hown hown2 hst F₁ N₁
    obtain ⟨hm, rfl⟩ := hJ
    have hvi : v ∈ vs := by
      have : vs.toArray[i]? = some v := hP
      exact List.mem_of_getElem? (by simpa using this)
    refine wpAny_mono (turn v (own₀ ++ own) m₁ h₁ tk₁ hvi (by rw [same m₁ hm]; exact F₁) (fun p hp => N₁ p ?_)) (fun _ s₃ h₃ => wpAny_mono h₃ (fun fl s₄ h₄ => ?_) fun _ _ e => e) fun _ _ e => e
    · simp only [List.mem_append] at hp ⊢
      rcases hp with hp | hp | hp
      · exact .inr (.inl hp)
      · exact .inr (.inr hp)
      · exact .inl hp
    · obtain ⟨rfl, h', tk', m', rfl, F', hm', N'⟩ := h₄
      refine ⟨rfl, h', tk', m', hdl ++ own₀, rfl, F', fun p hp => N' p ?_, hoff, hm', rfl⟩
      simp only [List.mem_append] at hp ⊢
      rcases hp with hp | hp | hp
      · exact .inr (.inr hp)
      · exact .inl hp
      · exact .inr (.inl hp)
  · intro h' tk m' n' F' N' _ hJ
    obtain ⟨hm, rfl⟩ := hJ
    exact done h' tk m' (by rw [same m' hm]; exact F') N'
theorem text_done {x : Str} {m m' : Str → Option Value} {all news' : List (Addr × Obj)} {s₁ : Shared} {h' : Heap} {tk' : Nat} {L : Addr} (F : Fr h₀ L h' m') (N : News h₀ L h' news') (hs : ∀ p ∈ all, p ∈ news') (hm : ∀ z, z ≠ x → m' z = m z) : TextDone h₀ L s₁ x m all .next { s₁ with heap := h', toks := tk' } :=
  ⟨rfl, h', tk', m', rfl, F, hm, fun p hp => N p (hs p hp)⟩
theorem join_flat (cd : Nat → Str) : ∀ l : List Nat, Str.join (Str.ofString "") (l.map cd) = txt (l.flatMap fun n => (cd n).cps.toList)
  | [] => by show Str.join _ [] = _; rfl
  | [n] => by
    show cd n = txt ((cd n).cps.toList ++ [])
    rw [List.append_nil]; rfl
  | n :: k :: r => by
    have ih := join_flat cd (k :: r)
    show cd n ++ Str.ofString "" ++ Str.join (Str.ofString "") ((k :: r).map cd) = _
    rw [ih]
    refine Str.ext' (Array.toList_inj.mp ?_)
    have e : (Str.ofString "").cps = #[] := rfl
    rw [Str.cps_append, Str.cps_append, e]
    simp [txt]
theorem sum_short {cd : Nat → Str} (h : CodesShort cd) : ∀ l : List Nat, ((l.map cd).map (·.length)).sum ≤ 10 * l.length
  | [] => Nat.le_refl _
  | n :: r => by
    have h1 := h n
    have h2 := sum_short h r
    simp only [List.map_cons, List.sum_cons, List.length_cons]
    omega
theorem call_join {D : Addr} {ys : List Value} {X : Str} {cd : Nat → Str} {t : Tok} {L : Addr} {news : List (Addr × Obj)} {Q : Value → Shared → Prop} (N : News h₀ L s.heap news) (hm : (D, LCg.lst ys) ∈ news) (hS : StrsAre ys (X.cps.toList.map cd)) (short : CodesShort cd) (hX : X.length ≤ 12)
    (h : ∀ t' k, Q (.str (flatS cd X) t') { s with toks := k }) : wpAny (model prog w) A (call (.builtin "str.join") [.str (Str.ofString "") t, .ref D]) Q E s := by
  have hXl : X.cps.toList.length = X.length := by simp [Str.length]
  refine join_listW (ys := X.cps.toList.map cd) (items := ys.toArray) ⟨_, (N _ hm).1, rfl, _, rfl⟩ (by simpa using hS) (by decide +kernel) ?_ fun t' k => ?_
  · have := sum_short short X.cps.toList
    rw [List.length_map]
    omega
  · have e : Txt.join (Str.ofString "") (X.cps.toList.map cd) = flatS cd X := by
      rw [show Txt.join (Str.ofString "") (X.cps.toList.map cd) = Str.join (Str.ofString "") (X.cps.toList.map cd) from StrLaws.glued_eq_join _ _, join_flat]
      rfl
    rw [e]
    exact h t' k
theorem item_zero {x : Str} (h : 0 < x.length) : Txt.item x 0 = ⟨#[x.cps.toList.headD 0]⟩ := by
  obtain ⟨n, e, hn⟩ := item_nat (x := x) (k := 0) (kN := 0) (by omega) h
  rw [e]
  cases hx : x.cps.toList with
  | nil => rw [hx] at hn; cases hn
  | cons a r => rw [hx] at hn; injection hn with hn; rw [← hn]; rfl
theorem one_beq (a b : Nat) : ((⟨#[a]⟩ : Str) == ⟨#[b]⟩) = (a == b) := by
  by_cases h : a = b
  · subst h; simp
  · have h2 : ¬ (⟨#[a]⟩ : Str) = ⟨#[b]⟩ := fun e => h (one_inj e)
    rw [beq_eq_false_iff_ne.mpr h, beq_eq_false_iff_ne.mpr h2]
theorem test_end {L : Addr} {m : Str → Option Value} {all : List (Addr × Obj)} {s₁ s' : Shared} {elt : Expr} {cenv : Env} {E' : Value → Shared → Prop} {n k : Nat} {P : Value → Prop} {y : Str} (hy : y = ⟨#[k]⟩)
    (h1 : wpAny (model prog w) A (eval elt cenv) (CT.TurnEnd h₀ L m all s₁ P) E' s') (h2 : CT.TurnEnd h₀ L m all s₁ (fun _ => True) .none s') :
    CT.TestEnd prog w A h₀ L m all s₁ elt cenv E' (n == k) P ((⟨#[n]⟩ : Str) == y) s' := by
  subst hy
  rw [one_beq]
  unfold CT.TestEnd
  cases n == k
  · exact ⟨rfl, h2⟩
  · exact ⟨rfl, h1⟩
theorem len_told {D : Addr} {ys : List Value} {l : List Nat} {P : Nat → Value → Prop} {L : Addr} {news : List (Addr × Obj)} {Q : Value → Shared → Prop} (N : News h₀ L s.heap news) (hm : (D, LCg.lst ys) ∈ news) (hT : CT.Told P l ys) (hl : l.length ≤ 1000)
    (h : ∀ t k, Q (.int (l.length : Int) t) { s with toks := k }) : wpAny (model prog w) A (call (.builtin "len") [.ref D]) Q E s := by
  have e := hT.length
  refine call_len_list (items := ys.toArray) ⟨_, (N _ hm).1, rfl, _, rfl⟩ (by rw [List.size_toArray]; omega) ?_
  rw [List.size_toArray, e]
  exact h _ _
theorem filter_short {x : Str} {p : Nat → Bool} (h : x.length ≤ 12) : (x.cps.toList.filter p).length ≤ 1000 := by
  have q1 := List.length_filter_le p x.cps.toList
  have q2 : x.cps.toList.length = x.length := by simp [Str.length]
  omega
theorem endLoop_length (cd : Nat → Str) : ∀ (l : List Nat) (size width : Int), (endLoop cd l size width).length ≤ l.length
  | [], _, _ => by show (Str.ofString "").length ≤ 0; decide +kernel
  | n :: r, size, width => by
    unfold endLoop
    split
    · rw [txt_length]; exact Nat.le_refl _
    · exact Nat.le_succ_of_le (endLoop_length cd r _ _)
theorem endIt_length {T : Str → Str} {cd : Nat → Str} {x : Str} (h : x.length ≤ 12) : (endIt T cd x).length ≤ 12 := by
  have q2 : x.cps.toList.length = x.length := by simp [Str.length]
  have := endLoop_length cd x.cps.toList (sizeX cd x) (widthX T x)
  unfold endIt
  omega
theorem turn_done {L : Addr} {s₁ : Shared} {names : List (Str × Value)} {ct cc cl : Addr} {own : List (Addr × Obj)} {h' : Heap} {tk' : Nat} {m' : Str → Option Value} {o1 o2 o3 : Obj} (F : Fr h₀ L h' m') (N : News h₀ L h' ((ct, o1) :: (cc, o2) :: (cl, o3) :: own)) (hn : ∀ p ∈ names, m' p.1 = some p.2) (c1 : CellO o1) (c2 : CellO o2) (c3 : CellO o3) :
    TurnDone h₀ L s₁ names ct cc cl own .next { s₁ with heap := h', toks := tk' } := ⟨rfl, h', tk', m', o1, o2, o3, rfl, F, hn, N, c1, c2, c3⟩
end
end Mine
end
section
open PySem PySem.W PyProof.Rows PyProof.V PySem.Calls
set_option Elab.async false
set_option maxRecDepth 100000
set_option maxHeartbeats 8000000
namespace Mine
def cdPlain (n : Nat) : Str := ⟨#[n]⟩
def cdHtml (n : Nat) : Str := if n = 38 then Str.ofString "&amp;" else if n = 62 then Str.ofString "&gt;" else if n = 34 then Str.ofString "&quot;" else ⟨#[n]⟩
def cdCdata (n : Nat) : Str := if n = 38 then Str.ofString "&amp;" else if n = 60 then Str.ofString "&lt;" else if n = 62 then Str.ofString "&gt;" else if n = 13 then Str.ofString "&#xD;" else ⟨#[n]⟩
def cdAttrib (n : Nat) : Str := if n = 38 then Str.ofString "&amp;" else if n = 60 then Str.ofString "&lt;" else if n = 34 then Str.ofString "&quot;" else if n = 9 then Str.ofString "&#x9;" else if n = 10 then Str.ofString "&#xA;" else if n = 13 then Str.ofString "&#xD;" else ⟨#[n]⟩
theorem rep_flat (c : Nat) (z : List Nat) (f : Nat → List Nat) : ∀ l : List Nat, rep c z (l.flatMap f) = l.flatMap fun n => rep c z (f n)
  | [] => rfl
  | n :: r => by rw [List.flatMap_cons, List.flatMap_cons, rep_append, rep_flat c z f r]
theorem rep_one (c n : Nat) (z : List Nat) : rep c z [n] = if n = c then z else [n] := by
  show (if n = c then z else [n]) ++ [] = _
  rw [List.append_nil]
theorem as_flat (l : List Nat) : l = l.flatMap fun n => [n] := by
  induction l with
  | nil => rfl
  | cons n r ih => rw [List.flatMap_cons, ← ih]; rfl
theorem esc_txt (c r : Str) (x : Nat → List Nat) (l : List Nat) : esc c r (txt (l.flatMap x)) = txt (l.flatMap fun n => rep (c.cps.getD 0 0) r.cps.toList (x n)) := by
  unfold esc
  rw [txt_cps, rep_flat]
theorem flatS_of {cd : Nat → Str} {f : Nat → List Nat} (h : ∀ n, f n = (cd n).cps.toList) (x : Str) : txt (x.cps.toList.flatMap f) = flatS cd x := by
  unfold flatS
  rw [show f = fun n => (cd n).cps.toList from funext h]
theorem plain_flat (x : Str) : x = flatS cdPlain x := by
  rw [← flatS_of (f := fun n => [n]) (fun n => rfl), ← as_flat]
  rfl
theorem html_flat (x : Str) : htmlS x = flatS cdHtml x := by
  unfold htmlS
  rw [← txt_of x, as_flat x.cps.toList, esc_txt, esc_txt, esc_txt]
  rw [← as_flat x.cps.toList, txt_of]
  refine flatS_of (fun n => ?_) x
  rw [rep_one]
  unfold cdHtml
  by_cases h1 : n = 38
  · subst h1; decide +kernel
  by_cases h2 : n = 62
  · subst h2; decide +kernel
  by_cases h3 : n = 34
  · subst h3; decide +kernel
  rw [if_neg h1, if_neg h2, if_neg h3]
  rw [if_neg (show ¬ n = (Str.ofString "&").cps.getD 0 0 from h1), rep_one, if_neg (show ¬ n = (Str.ofString ">").cps.getD 0 0 from h2), rep_one, if_neg (show ¬ n = (Str.ofString "\"").cps.getD 0 0 from h3)]
theorem cdata_flat (x : Str) : cdataS x = flatS cdCdata x := by
  unfold cdataS
  rw [← txt_of x, as_flat x.cps.toList, esc_txt, esc_txt, esc_txt, esc_txt]
  rw [← as_flat x.cps.toList, txt_of]
  refine flatS_of (fun n => ?_) x
  rw [rep_one]
  unfold cdCdata
  by_cases h38 : n = 38
  · subst h38; decide +kernel
  by_cases h60 : n = 60
  · subst h60; decide +kernel
  by_cases h62 : n = 62
  · subst h62; decide +kernel
  by_cases h13 : n = 13
  · subst h13; decide +kernel
  rw [if_neg h38, if_neg h60, if_neg h62, if_neg h13]
  rw [if_neg (show ¬ n = (Str.ofString "&").cps.getD 0 0 from h38), rep_one, if_neg (show ¬ n = (Str.ofString "<").cps.getD 0 0 from h60), rep_one, if_neg (show ¬ n = (Str.ofString ">").cps.getD 0 0 from h62), rep_one, if_neg (show ¬ n = (Str.ofString "\r").cps.getD 0 0 from h13)]
theorem attrib_flat (x : Str) : attribS x = flatS cdAttrib x := by
  unfold attribS
  rw [← txt_of x, as_flat x.cps.toList, esc_txt, esc_txt, esc_txt, esc_txt, esc_txt, esc_txt]
  rw [← as_flat x.cps.toList, txt_of]
  refine flatS_of (fun n => ?_) x
  rw [rep_one]
  unfold cdAttrib
  by_cases h38 : n = 38
  · subst h38; decide +kernel
  by_cases h60 : n = 60
  · subst h60; decide +kernel
  by_cases h34 : n = 34
  · subst h34; decide +kernel
  by_cases h9 : n = 9
  · subst h9; decide +kernel
  by_cases h10 : n = 10
  · subst h10; decide +kernel
  by_cases h13 : n = 13
  · subst h13; decide +kernel
  rw [if_neg h38, if_neg h60, if_neg h34, if_neg h9, if_neg h10, if_neg h13]
  rw [if_neg (show ¬ n = (Str.ofString "&").cps.getD 0 0 from h38), rep_one, if_neg (show ¬ n = (Str.ofString "<").cps.getD 0 0 from h60), rep_one, if_neg (show ¬ n = (Str.ofString "\"").cps.getD 0 0 from h34), rep_one, if_neg (show ¬ n = (Str.ofString "\t").cps.getD 0 0 from h9), rep_one, if_neg (show ¬ n = (Str.ofString "\n").cps.getD 0 0 from h10), rep_one, if_neg (show ¬ n = (Str.ofString "\r").cps.getD 0 0 from h13)]
theorem plain_weak {w : World} {k : Nat} {f : Addr} {vs : List Value} {P : Prop} {R : Tok → Value} (h : Claim w k f vs (fun _ => True) R) : Claim w k f vs (fun _ => P) R :=
  fun mean mg mb news dp un gd cn cs a ccd cl outer A₀ base h₀ L m s Q E B F X N T hk _ hd hu ret => h mean mg mb news dp un gd cn cs a ccd cl outer A₀ base h₀ L m s Q E B F X N T hk trivial hd hu ret
theorem plain_tells (w : World) : Tells w 98 (flatS cdPlain) := fun x t => by
  have h := plain_ok w x t
  rw [show (fun t => Value.str (x) t) = fun t => Value.str (flatS cdPlain x) t from funext fun t => by rw [← plain_flat]] at h
  exact call_ok w 98 x t (x.length ≤ 100) _ (by first | k_is | k_in | with_unfolding_all rfl) (plain_weak h)
theorem html_tells (w : World) : Tells w 77 (flatS cdHtml) := fun x t => by
  have h := html_ok w x t
  rw [show (fun t => Value.str (htmlS x) t) = fun t => Value.str (flatS cdHtml x) t from funext fun t => by rw [← html_flat]] at h
  exact call_ok w 77 x t (x.length ≤ 100) _ (by first | k_is | k_in | with_unfolding_all rfl) h
theorem cdata_tells (w : World) : Tells w 84 (flatS cdCdata) := fun x t => by
  have h := cdata_ok w x t
  rw [show (fun t => Value.str (cdataS x) t) = fun t => Value.str (flatS cdCdata x) t from funext fun t => by rw [← cdata_flat]] at h
  exact call_ok w 84 x t (x.length ≤ 100) _ (by first | k_is | k_in | with_unfolding_all rfl) h
theorem attrib_tells (w : World) : Tells w 91 (flatS cdAttrib) := fun x t => by
  have h := attrib_ok w x t
  rw [show (fun t => Value.str (attribS x) t) = fun t => Value.str (flatS cdAttrib x) t from funext fun t => by rw [← attrib_flat]] at h
  exact call_ok w 91 x t (x.length ≤ 100) _ (by first | k_is | k_in | with_unfolding_all rfl) h
theorem plain_table {prog : Program} {w : World} {od : Obj} (h : od.IsDictOf (PySem.strKind prog w) []) : TableAre prog w od cdPlain := by
  refine ⟨_, h, fun n hn => ?_⟩
  simp only [signsS, List.mem_cons, List.mem_nil_iff, or_false] at hn
  rcases hn with rfl | rfl | rfl | rfl | rfl | rfl | rfl | rfl
  · exact .inr ⟨rfl, rfl⟩
  · exact .inr ⟨rfl, rfl⟩
  · exact .inr ⟨rfl, rfl⟩
  · exact .inr ⟨rfl, rfl⟩
  · exact .inr ⟨rfl, rfl⟩
  · exact .inr ⟨rfl, rfl⟩
  · exact .inr ⟨rfl, rfl⟩
  · exact .inr ⟨rfl, rfl⟩
theorem html_table {prog : Program} {w : World} {od : Obj} {t0 t1 t2 t3 t4 t5 : Tok} (h : od.IsDictOf (PySem.strKind prog w) (strPairs [(.str (Str.ofString "&") t0, .str (Str.ofString "&amp;") t1), (.str (Str.ofString ">") t2, .str (Str.ofString "&gt;") t3), (.str (Str.ofString "\"") t4, .str (Str.ofString "&quot;") t5)])) : TableAre prog w od cdHtml := by
  refine ⟨_, h, fun n hn => ?_⟩
  simp only [signsS, List.mem_cons, List.mem_nil_iff, or_false] at hn
  rcases hn with rfl | rfl | rfl | rfl | rfl | rfl | rfl | rfl
  · exact .inr ⟨rfl, rfl⟩
  · exact .inl ⟨_, rfl⟩
  · exact .inl ⟨_, rfl⟩
  · exact .inl ⟨_, rfl⟩
  · exact .inr ⟨rfl, rfl⟩
  · exact .inr ⟨rfl, rfl⟩
  · exact .inr ⟨rfl, rfl⟩
  · exact .inr ⟨rfl, rfl⟩
theorem cdata_table {prog : Program} {w : World} {od : Obj} {t0 t1 t2 t3 t4 t5 t6 t7 : Tok} (h : od.IsDictOf (PySem.strKind prog w) (strPairs [(.str (Str.ofString "&") t0, .str (Str.ofString "&amp;") t1), (.str (Str.ofString "<") t2, .str (Str.ofString "&lt;") t3), (.str (Str.ofString ">") t4, .str (Str.ofString "&gt;") t5), (.str (Str.ofString "\r") t6, .str (Str.ofString "&#xD;") t7)])) : TableAre prog w od cdCdata := by
  refine ⟨_, h, fun n hn => ?_⟩
  simp only [signsS, List.mem_cons, List.mem_nil_iff, or_false] at hn
  rcases hn with rfl | rfl | rfl | rfl | rfl | rfl | rfl | rfl
  · exact .inl ⟨_, rfl⟩
  · exact .inl ⟨_, rfl⟩
  · exact .inl ⟨_, rfl⟩
  · exact .inr ⟨rfl, rfl⟩
  · exact .inl ⟨_, rfl⟩
  · exact .inr ⟨rfl, rfl⟩
  · exact .inr ⟨rfl, rfl⟩
  · exact .inr ⟨rfl, rfl⟩
theorem attrib_table {prog : Program} {w : World} {od : Obj} {t0 t1 t2 t3 t4 t5 t6 t7 t8 t9 t10 t11 : Tok} (h : od.IsDictOf (PySem.strKind prog w) (strPairs [(.str (Str.ofString "&") t0, .str (Str.ofString "&amp;") t1), (.str (Str.ofString "<") t2, .str (Str.ofString "&lt;") t3), (.str (Str.ofString "\"") t4, .str (Str.ofString "&quot;") t5), (.str (Str.ofString "\t") t6, .str (Str.ofString "&#x9;") t7), (.str (Str.ofString "\n") t8, .str (Str.ofString "&#xA;") t9), (.str (Str.ofString "\r") t10, .str (Str.ofString "&#xD;") t11)])) : TableAre prog w od cdAttrib := by
  refine ⟨_, h, fun n hn => ?_⟩
  simp only [signsS, List.mem_cons, List.mem_nil_iff, or_false] at hn
  rcases hn with rfl | rfl | rfl | rfl | rfl | rfl | rfl | rfl
  · exact .inl ⟨_, rfl⟩
  · exact .inr ⟨rfl, rfl⟩
  · exact .inl ⟨_, rfl⟩
  · exact .inl ⟨_, rfl⟩
  · exact .inl ⟨_, rfl⟩
  · exact .inl ⟨_, rfl⟩
  · exact .inl ⟨_, rfl⟩
  · exact .inr ⟨rfl, rfl⟩
end Mine
end
section
open PySem PySem.W PyProof.Rows PyProof.V
set_option Elab.async false
set_option maxRecDepth 100000
set_option maxHeartbeats 8000000
namespace Mine
/-- u is below v at a place where both have a sign -/
structure Apart (u v : List Nat) : Prop where
  ex : ∃ p x y u' v', u = p ++ x :: u' ∧ v = p ++ y :: v' ∧ x < y
theorem pre_lt (p : List Nat) (s t : List Nat) : p ++ s < p ++ t ↔ s < t := by
  induction p with
  | nil => exact Iff.rfl
  | cons n p ih =>
    rw [List.cons_append, List.cons_append, List.cons_lt_cons_iff]
    constructor
    · rintro (h | ⟨_, h⟩)
      · exact absurd h (Nat.lt_irrefl _)
      · exact ih.mp h
    · intro h
      exact .inr ⟨rfl, ih.mpr h⟩
theorem Apart.lt {u v : List Nat} (h : Apart u v) (s t : List Nat) : u ++ s < v ++ t ∧ ¬ v ++ s < u ++ t := by
  obtain ⟨p, x, y, u', v', rfl, rfl, hxy⟩ := h.ex
  constructor
  · rw [List.append_assoc, List.append_assoc, pre_lt, List.cons_append, List.cons_append, List.cons_lt_cons_iff]
    exact .inl hxy
  · rw [List.append_assoc, List.append_assoc, pre_lt, List.cons_append, List.cons_append, List.cons_lt_cons_iff]
    rintro (h | ⟨h, _⟩) <;> omega
theorem Apart.ne {u v : List Nat} (h : Apart u v) : u ≠ [] ∧ v ≠ [] := by
  obtain ⟨p, x, y, u', v', rfl, rfl, _⟩ := h.ex
  constructor <;> simp
/-- texts of two codes are ordered as their bits are -/
theorem bits_lt {k : Nat → List Nat} (h : Apart (k 0) (k 1)) : ∀ s t : List Nat, (∀ n ∈ s, n < 2) → (∀ n ∈ t, n < 2) → (s.flatMap k < t.flatMap k ↔ s < t)
  | [], [], _, _ => by simp
  | [], b :: t, _, ht => by
    have hb := ht b (.head _)
    have hne : k b ≠ [] := by
      rcases (show b = 0 ∨ b = 1 by omega) with rfl | rfl
      · exact h.ne.1
      · exact h.ne.2
    rw [List.flatMap_cons, List.flatMap_nil]
    cases hk : k b with
    | nil => exact absurd hk hne
    | cons x r => simp
  | a :: s, [], _, _ => by simp
  | a :: s, b :: t, hs, ht => by
    have ih := bits_lt h s t (fun n hn => hs n (.tail _ hn)) (fun n hn => ht n (.tail _ hn))
    have ha := hs a (.head _)
    have hb := ht b (.head _)
    rw [List.flatMap_cons, List.flatMap_cons, List.cons_lt_cons_iff]
    rcases (show a = 0 ∨ a = 1 by omega) with rfl | rfl <;> rcases (show b = 0 ∨ b = 1 by omega) with rfl | rfl
    · rw [pre_lt, ih]; simp
    · exact ⟨fun _ => .inl (by omega), fun _ => (h.lt _ _).1⟩
    · exact ⟨fun q => absurd q (h.lt _ _).2, fun q => by rcases q with q | ⟨q, _⟩ <;> omega⟩
    · rw [pre_lt, ih]; simp
theorem best_congr {bt bt' : Nat → Nat → Bool} : ∀ n, (∀ i j, i ≤ n → j ≤ n → bt i j = bt' i j) → argBest bt n = argBest bt' n
  | 0, _ => rfl
  | n + 1, h => by
    have ih := best_congr n fun i j hi hj => h i j (by omega) (by omega)
    have hle := best_le bt' n
    unfold argBest
    rw [ih, h _ _ (by omega) (by omega)]
theorem sum_drop (f : Nat → Int) (hf : ∀ n, 1 ≤ f n) : ∀ (l : List Nat) (p : Nat), ((l.drop p).map f).sum ≤ (l.map f).sum
  | [], p => by rw [List.drop_nil]; exact Int.le_refl _
  | n :: r, 0 => Int.le_refl _
  | n :: r, p + 1 => by
    have := sum_drop f hf r p
    have := hf n
    rw [List.drop_succ_cons, List.map_cons, List.sum_cons]
    omega
theorem endLoop_hits {cd : Nat → Str} (hc : ∀ n, 1 ≤ (cd n).length) : ∀ (l : List Nat) (p : Nat), p < l.length →
    endLoop cd l (4 + (l.map fun n => ((cd n).length : Int)).sum) (4 + ((l.drop p).map fun n => ((cd n).length : Int)).sum) = txt (l.drop p)
  | [], p, h => by simp at h
  | n :: r, 0, _ => by rw [List.drop_zero]; unfold endLoop; rw [if_pos rfl]
  | n :: r, p + 1, h => by
    have h1 := hc n
    have h2 := sum_drop (fun n => ((cd n).length : Int)) (fun n => by have := hc n; omega) r p
    have ih := endLoop_hits hc r p (by simpa using h)
    unfold endLoop
    rw [List.drop_succ_cons, List.map_cons, List.sum_cons, if_neg (by omega)]
    rw [show 4 + (((cd n).length : Int) + (r.map fun n => ((cd n).length : Int)).sum) - ((cd n).length : Int) = 4 + (r.map fun n => ((cd n).length : Int)).sum by omega]
    exact ih
theorem flat_len (cd : Nat → Str) : ∀ l : List Nat, ((l.flatMap fun n => (cd n).cps.toList).length : Int) = (l.map fun n => ((cd n).length : Int)).sum
  | [] => rfl
  | n :: r => by
    rw [List.flatMap_cons, List.length_append, List.map_cons, List.sum_cons, ← flat_len cd r]
    have : (cd n).cps.toList.length = (cd n).length := by simp [Str.length]
    omega
theorem txt_get (l : List Nat) : (txt l).cps.toList = l := rfl
theorem len_txt (l : List Nat) : (txt l).length = l.length := txt_length l
theorem ofS_app (z : Str) (l : List Nat) : (z ++ txt l).cps.toList = z.cps.toList ++ l := by
  rw [Str.cps_append, Array.toList_append]; rfl
/-- the greatest of a word's endings, by the order of its bits -/
def bestB (l : List Nat) : Nat := argBest (fun i j => decide (l.drop j < l.drop i)) (l.length - 1)
/-- what the width tells: the ending that is written greatest -/
theorem endIt_bits {cd : Nat → Str} {g : Nat → Nat} (hc : ∀ n, 1 ≤ (cd n).length) (hA : Apart (cd (g 0)).cps.toList (cd (g 1)).cps.toList) (l : List Nat) (hl : ∀ n ∈ l, n < 2) (h0 : 0 < l.length) :
    endIt (flatS cd) cd (txt (l.map g)) = txt ((l.drop (bestB l)).map g) := by
  have hbl : bestB l < l.length := by
    have := best_le (fun i j => decide (l.drop j < l.drop i)) (l.length - 1)
    unfold bestB
    omega
  have hlen : (txt (l.map g)).length = l.length := by rw [len_txt, List.length_map]
  have hX : ∀ j, (linesX (flatS cd) (txt (l.map g)) j).cps.toList = (Str.ofString "  --").cps.toList ++ (l.drop j).flatMap fun n => (cd (g n)).cps.toList := by
    intro j
    unfold linesX flatS
    rw [ofS_app, txt_get, txt_get, ← List.map_drop, List.flatMap_map]
  have hbest : argBest (FI.gtS (linesX (flatS cd) (txt (l.map g)))) ((txt (l.map g)).length - 1) = bestB l := by
    rw [hlen]
    unfold bestB
    refine best_congr _ fun i j _ _ => ?_
    unfold FI.gtS
    rw [hX, hX]
    refine decide_eq_decide.mpr ?_
    rw [pre_lt]
    exact bits_lt (k := fun n => (cd (g n)).cps.toList) hA _ _ (fun n hn => hl n (List.mem_of_mem_drop hn)) (fun n hn => hl n (List.mem_of_mem_drop hn))
  have hw : widthX (flatS cd) (txt (l.map g)) = 4 + (((l.map g).drop (bestB l)).map fun n => ((cd n).length : Int)).sum := by
    unfold widthX
    rw [hbest, ← flat_len]
    have e : (linesX (flatS cd) (txt (l.map g)) (bestB l)).length = (linesX (flatS cd) (txt (l.map g)) (bestB l)).cps.toList.length := by simp [Str.length]
    have e4 : (Str.ofString "  --").cps.toList.length = 4 := by decide +kernel
    rw [e, hX, List.length_append, e4, ← List.map_drop, List.flatMap_map]
    omega
  unfold endIt
  rw [hw]
  unfold sizeX
  rw [txt_get, endLoop_hits hc _ _ (by rw [List.length_map]; exact hbl), List.map_drop]
theorem count_map {g : Nat → Nat} (hg : g 0 ≠ g 1) (h : Nat) (hh : h < 2) : ∀ l : List Nat, (∀ n ∈ l, n < 2) → ((l.map g).filter fun k => k == g h).length = (l.filter fun k => k == h).length
  | [], _ => rfl
  | n :: r, hl => by
    have ih := count_map hg h hh r fun k hk => hl k (.tail _ hk)
    have hn := hl n (.head _)
    have e : (g n == g h) = (n == h) := by
      rcases (show n = 0 ∨ n = 1 by omega) with rfl | rfl <;> rcases (show h = 0 ∨ h = 1 by omega) with rfl | rfl
      · simp
      · rw [beq_eq_false_iff_ne.mpr hg]; rfl
      · rw [beq_eq_false_iff_ne.mpr (Ne.symm hg)]; rfl
      · simp
    rw [List.map_cons, List.filter_cons, List.filter_cons, e]
    split
    · rw [List.length_cons, List.length_cons, ih]
    · exact ih
/-- Bezout's pair in bits -/
def bezB (l q : List Nat) : Bool :=
  decide ((((q.filter fun k => k == l.headD 0).length : Int) + 1) * ((l.length : Int) - ((l.filter fun k => k == l.headD 0).length : Int)) - (((q.length : Int) - ((q.filter fun k => k == l.headD 0).length : Int)) - 1) * ((l.filter fun k => k == l.headD 0).length : Int) = 1)
theorem bez_bits {g : Nat → Nat} (hg : g 0 ≠ g 1) (l q : List Nat) (hl : ∀ n ∈ l, n < 2) (hq : ∀ n ∈ q, n < 2) (h0 : 0 < l.length) (h : bezB l q = true) : Bez (txt (l.map g)) (txt (q.map g)) := by
  have hh : (l.map g).headD 0 = g (l.headD 0) := by
    cases l with
    | nil => simp at h0
    | cons a r => rfl
  have h2 : l.headD 0 < 2 := by
    cases l with
    | nil => simp at h0
    | cons a r => exact hl a (.head _)
  unfold Bez countOf
  rw [txt_get, txt_get, hh, count_map hg _ h2 l hl, count_map hg _ h2 q hq, len_txt, len_txt, List.length_map, List.length_map]
  exact of_decide_eq_true h
/-- the word in bits: 0 the one sign, 1 the other -/
def wordB (a b : Nat) : Nat → List Nat × Nat
  | 0 => ([], 0)
  | n + 1 => ((wordB a b n).1 ++ [if a ≤ (wordB a b n).2 then 1 else 0], ((wordB a b n).2 + b) % (a + b))
theorem word_bits (a b c d : Nat) : ∀ n, (wordIt (a : Int) (b : Int) ⟨#[c]⟩ ⟨#[d]⟩ n).1 = txt ((wordB a b n).1.map fun i => if i = 0 then c else d) ∧ (wordIt (a : Int) (b : Int) ⟨#[c]⟩ ⟨#[d]⟩ n).2 = ((wordB a b n).2 : Int)
  | 0 => by
    constructor
    · show Str.ofString "" = _; rfl
    · rfl
  | n + 1 => by
    obtain ⟨h1, h2⟩ := word_bits a b c d n
    unfold wordIt wordB
    rw [h1, h2]
    constructor
    · refine Str.ext' (Array.toList_inj.mp ?_)
      rw [Str.cps_append, Array.toList_append, txt_get, txt_get, List.map_append]
      by_cases h : a ≤ (wordB a b n).2
      · rw [if_pos (show (a : Int) ≤ ((wordB a b n).2 : Int) by omega), if_pos h]; rfl
      · rw [if_neg (show ¬ (a : Int) ≤ ((wordB a b n).2 : Int) by omega), if_neg h]; rfl
    · rw [Int.fmod_eq_emod_of_nonneg _ (by omega)]
      rfl
theorem rev_txt (l : List Nat) : revS (txt l) = txt l.reverse := by
  unfold revS txt
  simp
end Mine
end
section
open PySem PySem.W PyProof.Rows PyProof.V
set_option Elab.async false
set_option maxRecDepth 100000
set_option maxHeartbeats 8000000
namespace Mine
def apartB : List Nat → List Nat → Bool
  | x :: u, y :: v => if x = y then apartB u v else decide (x < y)
  | _, _ => false
theorem apart_of : ∀ u v : List Nat, apartB u v = true → Apart u v
  | [], _, h => by simp [apartB] at h
  | _ :: _, [], h => by simp [apartB] at h
  | x :: u, y :: v, h => by
    unfold apartB at h
    by_cases e : x = y
    · rw [if_pos e] at h
      subst e
      obtain ⟨p, a, b, u', v', rfl, rfl, hab⟩ := (apart_of u v h).ex
      exact ⟨x :: p, a, b, u', v', rfl, rfl, hab⟩
    · rw [if_neg e] at h
      exact ⟨[], x, y, u, v, rfl, rfl, of_decide_eq_true h⟩
def flipB (l : List Nat) : List Nat := l.map fun i => 1 - i
/-- what the bits of a word must show -/
def checkB (a b : Nat) : Bool :=
  let w := (wordB a b (a + b)).1
  decide (w.length = a + b) && w.all (· < 2) && decide (bestB w.reverse = 0) && bezB w (w.drop (bestB w)) && decide (bestB (flipB w) = 0) && bezB (flipB w.reverse) ((flipB w.reverse).drop (bestB (flipB w.reverse)))
theorem check_all : ∀ a, a < 7 → ∀ b, b < 7 → 1 ≤ a → 1 ≤ b → Nat.gcd a b = 1 → checkB a b = true := by decide +kernel
theorem flat_single (cd : Nat → Str) (c : Nat) : (flatS cd ⟨#[c]⟩).cps.toList = (cd c).cps.toList := by
  show (([c] : List Nat).flatMap fun n => (cd n).cps.toList) = _
  rw [List.flatMap_cons, List.flatMap_nil, List.append_nil]
theorem plain_of {cd : Nat → Str} {a b c d : Nat} (hc : ∀ n, 1 ≤ (cd n).length) (h6 : ∀ n, (cd n).length ≤ 6) (hA : (apartB (cd c).cps.toList (cd d).cps.toList || apartB (cd d).cps.toList (cd c).cps.toList) = true) (hcd : c ≠ d) (hpr : Pair a b) :
    Plain cd c d (wordIt (a : Int) (b : Int) ⟨#[c]⟩ ⟨#[d]⟩ (a + b)).1 (revS (wordIt (a : Int) (b : Int) ⟨#[c]⟩ ⟨#[d]⟩ (a + b)).1) := by
  have hlen : ∀ l : List Nat, ((l.flatMap fun n => (cd n).cps.toList).length) ≤ 6 * l.length ∧ l.length ≤ (l.flatMap fun n => (cd n).cps.toList).length := by
    intro l
    induction l with
    | nil => exact ⟨Nat.le_refl _, Nat.le_refl _⟩
    | cons n r ih =>
      have e : (cd n).cps.toList.length = (cd n).length := by simp [Str.length]
      have := hc n
      have := h6 n
      rw [List.flatMap_cons, List.length_append, List.length_cons]
      omega
  have ck := check_all a (by have := hpr.a6; omega) b (by have := hpr.b6; omega) hpr.a1 hpr.b1 hpr.co
  unfold checkB at ck
  simp only [Bool.and_eq_true, decide_eq_true_eq, List.all_eq_true] at ck
  obtain ⟨⟨⟨⟨⟨k1, k2⟩, k3⟩, k4⟩, k5⟩, k6⟩ := ck
  have ha1 := hpr.a1
  generalize hw : (wordB a b (a + b)).1 = w at k1 k2 k3 k4 k5 k6
  have hW := (word_bits a b c d (a + b)).1
  rw [hw] at hW
  have h0 : 0 < w.length := by omega
  have hr2 : ∀ n ∈ w.reverse, n < 2 := fun n hn => k2 n (List.mem_reverse.mp hn)
  have hf2 : ∀ l : List Nat, ∀ n ∈ flipB l, n < 2 := fun l n hn => by
    obtain ⟨i, _, rfl⟩ := List.mem_map.mp hn
    omega
  refine ⟨fun n => by have := h6 n; omega, fun y hy h1 => ?_, ?_, ?_⟩
  · have e : y.cps.toList.length = y.length := by simp [Str.length]
    have := hlen y.cps.toList
    unfold flatS
    rw [len_txt]
    omega
  all_goals
    rw [Bool.or_eq_true] at hA
    rcases hA with hA | hA
  · -- the one sign is lower: the mirror begins with the upper
    have hAp := apart_of _ _ hA
    have ht : turnedB cd c d = false := by
      unfold turnedB
      rw [flat_single, flat_single]
      have := (hAp.lt [] []).1
      rw [List.append_nil, List.append_nil] at this
      rw [decide_eq_true this]; rfl
    rw [ht, if_neg (by decide), hW, rev_txt, ← List.map_reverse, endIt_bits (g := fun i => if i = 0 then c else d) hc hAp w.reverse hr2 (by rw [List.length_reverse]; exact h0), k3]
    rfl
  · have hAp := apart_of _ _ hA
    have ht : turnedB cd c d = true := by
      unfold turnedB
      rw [flat_single, flat_single]
      have := (hAp.lt [] []).2
      rw [List.append_nil, List.append_nil] at this
      rw [decide_eq_false this]; rfl
    have hflip : ∀ l : List Nat, (∀ n ∈ l, n < 2) → (l.map fun i => if i = 0 then c else d) = (flipB l).map fun i => if i = 0 then d else c := by
      intro l hl
      unfold flipB
      rw [List.map_map]
      refine List.map_congr_left fun n hn => ?_
      rcases (show n = 0 ∨ n = 1 by have := hl n hn; omega) with rfl | rfl <;> rfl
    rw [ht, if_pos rfl, hW, hflip w k2, endIt_bits (g := fun i => if i = 0 then d else c) hc hAp (flipB w) (hf2 w) (by unfold flipB; rw [List.length_map]; exact h0), k5]
    rfl
  · have hAp := apart_of _ _ hA
    have ht : turnedB cd c d = false := by
      unfold turnedB
      rw [flat_single, flat_single]
      have := (hAp.lt [] []).1
      rw [List.append_nil, List.append_nil] at this
      rw [decide_eq_true this]; rfl
    rw [ht, if_neg (by decide), hW, endIt_bits (g := fun i => if i = 0 then c else d) hc hAp w k2 h0]
    exact bez_bits (g := fun i => if i = 0 then c else d) hcd w _ k2 (fun n hn => k2 n (List.mem_of_mem_drop hn)) h0 k4
  · have hAp := apart_of _ _ hA
    have ht : turnedB cd c d = true := by
      unfold turnedB
      rw [flat_single, flat_single]
      have := (hAp.lt [] []).2
      rw [List.append_nil, List.append_nil] at this
      rw [decide_eq_false this]; rfl
    have hflip : ∀ l : List Nat, (∀ n ∈ l, n < 2) → (l.map fun i => if i = 0 then c else d) = (flipB l).map fun i => if i = 0 then d else c := by
      intro l hl
      unfold flipB
      rw [List.map_map]
      refine List.map_congr_left fun n hn => ?_
      rcases (show n = 0 ∨ n = 1 by have := hl n hn; omega) with rfl | rfl <;> rfl
    have h0' : 0 < (flipB w.reverse).length := by unfold flipB; rw [List.length_map, List.length_reverse]; exact h0
    rw [ht, if_pos rfl, hW, rev_txt, ← List.map_reverse, hflip w.reverse hr2, endIt_bits (g := fun i => if i = 0 then d else c) hc hAp (flipB w.reverse) (hf2 _) h0']
    exact bez_bits (g := fun i => if i = 0 then d else c) (Ne.symm hcd) (flipB w.reverse) _ (hf2 _) (fun n hn => hf2 _ n (List.mem_of_mem_drop hn)) h0' k6
theorem plain_len (n : Nat) : 1 ≤ (cdPlain n).length ∧ (cdPlain n).length ≤ 6 := ⟨Nat.le_refl 1, (show (1 : Nat) ≤ 6 by omega)⟩
theorem html_len (n : Nat) : 1 ≤ (cdHtml n).length ∧ (cdHtml n).length ≤ 6 := by
  unfold cdHtml
  split; decide +kernel
  split; decide +kernel
  split; decide +kernel
  exact plain_len n
theorem cdata_len (n : Nat) : 1 ≤ (cdCdata n).length ∧ (cdCdata n).length ≤ 6 := by
  unfold cdCdata
  split; decide +kernel
  split; decide +kernel
  split; decide +kernel
  split; decide +kernel
  exact plain_len n
theorem attrib_len (n : Nat) : 1 ≤ (cdAttrib n).length ∧ (cdAttrib n).length ≤ 6 := by
  unfold cdAttrib
  split; decide +kernel
  split; decide +kernel
  split; decide +kernel
  split; decide +kernel
  split; decide +kernel
  split; decide +kernel
  exact plain_len n
def apartAll (cd : Nat → Str) : Bool := signsS.all fun c => signsS.all fun d => (c == d) || apartB (cd c).cps.toList (cd d).cps.toList || apartB (cd d).cps.toList (cd c).cps.toList
theorem apart_at {cd : Nat → Str} (h : apartAll cd = true) {c d : Nat} (hc : c ∈ signsS) (hd' : d ∈ signsS) (hne : c ≠ d) : (apartB (cd c).cps.toList (cd d).cps.toList || apartB (cd d).cps.toList (cd c).cps.toList) = true := by
  unfold apartAll at h
  have h1 := List.all_eq_true.mp (List.all_eq_true.mp h c hc) d hd'
  rw [beq_eq_false_iff_ne.mpr hne, Bool.false_or] at h1
  exact h1
theorem plain_apart : apartAll cdPlain = true := by decide +kernel
theorem html_apart : apartAll cdHtml = true := by decide +kernel
theorem cdata_apart : apartAll cdCdata = true := by decide +kernel
theorem attrib_apart : apartAll cdAttrib = true := by decide +kernel
end Mine
end
section
open PySem PySem.W PyProof.Rows PyProof.V
set_option Elab.async false
set_option maxRecDepth 100000
set_option maxHeartbeats 8000000
namespace Mine
theorem wordIt_length {a b : Int} {one other : Str} (h1 : one.length = 1) (h2 : other.length = 1) : ∀ n, (wordIt a b one other n).1.length = n
  | 0 => by show (Str.ofString "").length = 0; decide +kernel
  | n + 1 => by
    unfold wordIt
    rw [str_len_append, wordIt_length h1 h2 n]
    split <;> omega
theorem word_signs (a b c d k : Nat) : ∀ n ∈ (wordIt (a : Int) (b : Int) ⟨#[c]⟩ ⟨#[d]⟩ k).1.cps.toList, n ∈ [c, d] := by
  intro n hn
  rw [(word_bits a b c d k).1, txt_get] at hn
  obtain ⟨i, _, rfl⟩ := List.mem_map.mp hn
  split <;> simp
theorem rev_signs {x : Str} {ks : List Nat} (h : ∀ n ∈ x.cps.toList, n ∈ ks) : ∀ n ∈ (revS x).cps.toList, n ∈ ks := by
  intro n hn
  unfold revS at hn
  simp at hn
  exact h n (by simpa using hn)
theorem rev_length (x : Str) : (revS x).length = x.length := by
  unfold revS
  simp [Str.length]
/-- what the rest of the law needs to know of the two words -/
structure Words (c d : Nat) (W M : Str) : Prop where
  w1 : 0 < W.length ∧ W.length ≤ 12
  m1 : 0 < M.length ∧ M.length ≤ 12
  ws : ∀ n ∈ W.cps.toList, n ∈ [c, d]
  ms : ∀ n ∈ M.cps.toList, n ∈ [c, d]
  plain : Plain cdPlain c d W M
  html : Plain cdHtml c d W M
  cdata : Plain cdCdata c d W M
  attrib : Plain cdAttrib c d W M
theorem words_are {a b c d : Nat} (hpr : Pair a b) (hc : c ∈ signsS) (hd' : d ∈ signsS) (hne : c ≠ d) :
    Words c d (wordIt (a : Int) (b : Int) ⟨#[c]⟩ ⟨#[d]⟩ ((a : Int) + (b : Int)).toNat).1 (revS (wordIt (a : Int) (b : Int) ⟨#[c]⟩ ⟨#[d]⟩ ((a : Int) + (b : Int)).toNat).1) := by
  rw [show ((a : Int) + (b : Int)).toNat = a + b by omega]
  have h1 := hpr.a1
  have h2 := hpr.a6
  have h3 := hpr.b6
  have hl := wordIt_length (a := (a : Int)) (b := (b : Int)) (one := ⟨#[c]⟩) (other := ⟨#[d]⟩) rfl rfl (a + b)
  have hs := word_signs a b c d (a + b)
  exact ⟨by omega, by rw [rev_length]; omega, hs, rev_signs hs,
    plain_of (fun n => (plain_len n).1) (fun n => (plain_len n).2) (apart_at plain_apart hc hd' hne) hne hpr,
    plain_of (fun n => (html_len n).1) (fun n => (html_len n).2) (apart_at html_apart hc hd' hne) hne hpr,
    plain_of (fun n => (cdata_len n).1) (fun n => (cdata_len n).2) (apart_at cdata_apart hc hd' hne) hne hpr,
    plain_of (fun n => (attrib_len n).1) (fun n => (attrib_len n).2) (apart_at attrib_apart hc hd' hne) hne hpr⟩
theorem ledger_cut {h₀ h : Heap} {L : Addr} {l a1 a2 a3 a4 a5 a6 a7 a8 c1 c2 c3 : Addr × Obj} (N : News h₀ L h [l, a1, a2, a3, a4, a5, a6, a7, a8, c3, c2, c1]) : News h₀ L h (l :: c1 :: c2 :: c3 :: [a1, a2, a3, a4, a5, a6, a7, a8]) := by
  intro p hp
  refine N p ?_
  simp only [List.mem_cons, List.mem_nil_iff, or_false] at hp ⊢
  rcases hp with h | h | h | h | h | h | h | h | h | h | h | h <;> simp [h]
theorem state_any {α : Type} {M : Model} {A : Around} {t : Sem α} {Q : α → Shared → Prop} {E : Value → Shared → Prop} {s : Shared} (h : ∀ tk, wpAny M A t Q E ⟨s.heap, s.gens, s.drawn, tk, s.os⟩) : wpAny M A t Q E s := h s.toks
end Mine
end
open PySem PySem.W PyProof.Rows PyProof.V
set_option Elab.async false
set_option maxRecDepth 100000
set_option maxHeartbeats 8000000
open Mine
local macro_rules | `(tactic| walk_at "mem9") => `(tactic| first | k_mem | ((repeat (refine List.Mem.tail _ ?_)); first | assumption | exact List.mem_append_left _ (by assumption)))
local macro_rules | `(tactic| walk_at "call builtin:str.join") => `(tactic| (k_here; (rename StrsAre _ _ => hSA); (rename News _ _ _ _ => N8); (rename Mine.CodesShort _ => hCS); k_dflt (refine' call_join N8 (List.Mem.head _) hSA hCS ?cj1 ?_; (case cj1 => omega)); intro t8 k8))
local macro_rules | `(tactic| walk_at "call builtin:len") => `(tactic| (k_here; (with_reducible show wpAny _ _ (call (Value.builtin "len") [Value.ref _]) _ _ _); (rename Mine.CT.Told _ _ _ => hTo); (rename News _ _ _ _ => N8); k_dflt (refine' len_told N8 (List.Mem.head _) hTo ?cj1 ?_; (case cj1 => assumption)); intro t8 k8))
local macro_rules | `(tactic| walk_at "subscriptTail") => `(tactic| (k_here; (with_reducible show wpAny _ _ (subscriptTail _ _ (Value.ref _) (Value.str _ _)) _ _ _); (rename Mine.CodesAre _ _ _ _ _ => hCA); (rename News _ _ _ _ => N8); k_dflt (refine codes_item hCA ?ci1 N8 ?ci2 ?_; (case ci1 => assumption); (case ci2 => walk_at "mem9")); intro t8))
local macro_rules | `(tactic| walk_at "call ref") => `(tactic| (k_here; (with_reducible show wpAny _ _ (call (Value.ref 49) _ _) _ _ _); (rename Mine.Tells _ _ _ => hTells); k_dflt (refine' Claim.use (hTells _ _) ?cl1 ?cl2 ?cl3 ?cl4 ?cl5 ?cl6 ?cl7 ?cl8 ?cl9 ?_; (case cl1 => k_asm); (case cl2 => k_asm); (case cl3 => k_asm); (case cl4 => k_asm); (case cl5 => k_asm); (case cl6 => first | exact rfl | assumption); (case cl8 => ktr_room); (case cl9 => ktr_units); (case cl7 => ((try dsimp only); first | omega | exact (show (1 : Nat) ≤ 100 by omega)))); intro t9 h9 tk9 F9 N9; (try dsimp only); (try k_fold)))
local macro_rules | `(tactic| walk_at "call ref") => `(tactic| (k_here; (with_reducible show wpAny _ _ (call (Value.ref 122) _ _) _ _ _); (rename Mine.Tells _ _ _ => hTells); (rename Mine.CodesShort _ => hCS); k_dflt (refine' Claim.use (ending_ok _ _ _ _ _ _ _ _ hTells ?e1 ?e2 hCS ?e3) ?cl1 ?cl2 ?cl3 ?cl4 ?cl5 ?cl6 ?cl7 ?cl8 ?cl9 ?_; (case cl1 => k_asm); (case cl2 => k_asm); (case cl3 => k_asm); (case cl4 => k_asm); (case cl5 => k_asm); (case cl6 => first | exact rfl | assumption); (case cl8 => ktr_room); (case cl9 => ktr_units); (case cl7 => (walk_at "mem9")); (case e1 => assumption); (case e2 => assumption); (case e3 => assumption)); intro t9 h9 tk9 F9 N9; (try dsimp only); (try k_fold)))
local macro_rules | `(tactic| walk_at "call ref") => `(tactic| (k_here; (with_reducible show wpAny _ _ (call (Value.ref 28) _ _) _ _ _); k_dflt (refine' Claim.use (lt_ok _ _ _ _ _) ?cl1 ?cl2 ?cl3 ?cl4 ?cl5 ?cl6 ?cl7 ?cl8 ?cl9 ?_; (case cl1 => k_asm); (case cl2 => k_asm); (case cl3 => k_asm); (case cl4 => k_asm); (case cl5 => k_asm); (case cl6 => first | exact rfl | assumption); (case cl8 => ktr_room); (case cl9 => ktr_units); (case cl7 => trivial)); intro t9 h9 tk9 F9 N9; (try dsimp only); (try k_fold)))
local macro_rules | `(tactic| walk_at "evalPairs") => `(tactic| (k_here; (with_reducible show wpAny _ _ _ _ _ (Shared.mk _ _ _ (_ + 1) _)); refine state_any ?_; intro tkP; dsimp only))
local macro_rules | `(tactic| walk_at "eval Tuple") => `(tactic| (k_here; (with_reducible show wpAny _ _ _ _ _ (Shared.mk _ _ _ (_ + 1) _)); refine state_any ?_; intro tkP; dsimp only))
local macro_rules | `(tactic| walk_at "eval Constant str") => `(tactic| (k_here; (with_reducible show wpAny _ _ _ _ _ (Shared.mk _ _ _ (_ + 1) _)); refine state_any ?_; intro tkP; dsimp only))
local macro_rules | `(tactic| walk_at "newTuple") => `(tactic| (k_here; (with_reducible show wpAny _ _ _ _ _ (Shared.mk _ _ _ (_ + 1) _)); refine state_any ?_; intro tkP; dsimp only))
local macro_rules | `(tactic| walk_at "newList") => `(tactic| (k_here; (with_reducible show wpAny _ _ _ _ _ (Shared.mk _ _ _ (_ + 1) _)); refine state_any ?_; intro tkP; dsimp only))
local macro_rules | `(tactic| walk_at "call ref") => `(tactic| (k_here; (with_reducible show wpAny _ _ (call (Value.ref 110) _ _) _ _ _); k_dflt (refine' Claim.use (word_ok _ _ _ _ _ _ _ _ _) ?cl1 ?cl2 ?cl3 ?cl4 ?cl5 ?cl6 ?cl7 ?cl8 ?cl9 ?_; (case cl1 => k_asm); (case cl2 => k_asm); (case cl3 => k_asm); (case cl4 => k_asm); (case cl5 => k_asm); (case cl6 => first | exact rfl | assumption); (case cl8 => ktr_room); (case cl9 => ktr_units); (case cl7 => (first | assumption | (constructor; omega)))); intro t9 h9 tk9 F9 N9; (try dsimp only); (try k_fold)))
local macro_rules | `(tactic| walk_at "call ref") => `(tactic| (k_here; (with_reducible show wpAny _ _ (call (Value.ref 117) _ _) _ _ _); k_dflt (refine' Claim.use (mirror_ok _ _ _) ?cl1 ?cl2 ?cl3 ?cl4 ?cl5 ?cl6 ?cl7 ?cl8 ?cl9 ?_; (case cl1 => k_asm); (case cl2 => k_asm); (case cl3 => k_asm); (case cl4 => k_asm); (case cl5 => k_asm); (case cl6 => first | exact rfl | assumption); (case cl8 => ktr_room); (case cl9 => ktr_units); (case cl7 => ((try dsimp only); omega))); intro t9 h9 tk9 F9 N9; (try dsimp only); (try k_fold)))

theorem PySem.Challenge.cw_yf0009_01_holds : PySem.Challenge.rw_yf0009_01.Holds :=
  hd (by
  k_go0
  all_goals try k_fold
  repeat' (first | (k_unfold; (try dsimp only)) | (k_end; wrow_close) | ((fail_if_success (with_reducible show wpAny _ _ (exec (Stmt.While _ _ _ _) _) _ _ _)); walk1) | ((fail_if_success (with_reducible show wpAny _ _ (exec (Stmt.While _ _ _ _) _) _ _ _)); dsimp only; walk1) | (leave1; try dsimp only) | fail "no step")

  k_with "state" => first | exact gcd_start _ _ | exact (gcd_next (by assumption) (by assumption)).1
  k_with "measure" => exact (gcd_next (by assumption) (by assumption)).2
  k_while_given ["measure!", "left!"] (fun m₀ l₀ script m l => GcdAt m₀ l₀ m l) (fun m₀ l₀ script m l => l.toNat) "measure" "left"
  repeat' (first | (k_unfold; (try dsimp only)) | (k_end; wrow_close) | ((fail_if_success (with_reducible show wpAny _ _ (execs _ _) _ _ _)); walk1) | ((fail_if_success (with_reducible show wpAny _ _ (execs _ _) _ _ _)); dsimp only; walk1) | (leave1; try dsimp only) | fail "no step")

  · k_steps
    done
  · rename GcdAt _ _ _ _ => hG
    have hG1 := hG.1
    have hG2 := hG.2.1
    repeat' (first | (k_unfold; (try dsimp only)) | (k_end; wrow_close) | ((fail_if_success (with_reducible show wpAny _ _ (call (Value.ref 110) _) _ _ _)); walk1) | ((fail_if_success (with_reducible show wpAny _ _ (call (Value.ref 110) _) _ _ _)); dsimp only; walk1) | (leave1; try dsimp only) | fail "no step")

    refine signs_cut ?_
    intro c d ec ed hcs hds hcd
    obtain ⟨a, b, ea, eb, hpr⟩ := pair_is hG (by assumption)
    have ha1 := hpr.a1
    have ha6 := hpr.a6
    have hb1 := hpr.b1
    have hb6 := hpr.b6
    rename Fr _ _ _ _ => F8
    rename News _ _ _ _ => N8
    rw [ea, eb, ec, ed] at F8 ⊢
    clear hG hG1 hG2 ea eb ec ed
    have N7 := cb_drop (news := [_, _, _]) N8 (fun p hp => .tail _ (.tail _ (.tail _ (.tail _ (.tail _ hp)))))
    clear N8
    have hwp : 0 < (a : Int) ∧ 0 < (b : Int) ∧ (a : Int) + (b : Int) ≤ 12 ∧ (⟨#[c]⟩ : Str).length = 1 ∧ (⟨#[d]⟩ : Str).length = 1 := ⟨by omega, by omega, by omega, rfl, rfl⟩
    repeat' (first | (k_unfold; (try dsimp only)) | (k_end; wrow_close) | ((fail_if_success (with_reducible show wpAny _ _ (call (Value.ref 117) _) _ _ _)); walk1) | ((fail_if_success (with_reducible show wpAny _ _ (call (Value.ref 117) _) _ _ _)); dsimp only; walk1) | (leave1; try dsimp only) | fail "no step")

    have hWo := words_are hpr hcs hds hcd
    rename Fr _ _ _ _ => F8
    rename News _ _ _ _ => N8
    generalize (wordIt (a : Int) (b : Int) ⟨#[c]⟩ ⟨#[d]⟩ ((a : Int) + (b : Int)).toNat).1 = W at F8 hWo ⊢
    have hW1 := hWo.w1
    have hWs := hWo.ws

    repeat' (first | (k_unfold; (try dsimp only)) | (k_end; wrow_close) | ((fail_if_success (with_reducible show wpAny _ _ (exec (Stmt.For _ _ _ _ _) _) _ _ _)); walk1) | ((fail_if_success (with_reducible show wpAny _ _ (exec (Stmt.For _ _ _ _ _) _) _ _ _)); dsimp only; walk1) | (leave1; try dsimp only) | fail "no step")

    rename Fr _ _ _ _ => lF'
    generalize revS W = M at lF' hWo
    have hM1 := hWo.m1
    have hMs := hWo.ms
    (with_unfolding_all refine' For_turns lF' ?_; k_whole)
    repeat' (first | (k_unfold; (try dsimp only)) | (k_end; wrow_close) | ((fail_if_success (with_reducible show wpAny _ _ (pyIter (Value.ref _)) _ _ _)); walk1) | ((fail_if_success (with_reducible show wpAny _ _ (pyIter (Value.ref _)) _ _ _)); dsimp only; walk1) | (leave1; try dsimp only) | fail "no step")
    rename Fr _ _ _ _ => F8
    rename News _ _ _ _ => N8
    have N9 := ledger_cut N8
    refine' tellers_loop _ (x := ⟨#[c]⟩) (y := ⟨#[d]⟩) (W := W) (M := M) (TellerOK PySem.Challenge.rw_yf0009_01.row.prog _ c d W M) ?b1 F8 N9 ?b4 ?b5 ?b6 ?b7 ?b8 ?b9 ?ba ?bb ?bc ?bd ?be ?bf ?bg
    case b1 => exact rfl
    case b4 => exact rfl
    case b5 => exact rfl

    case b6 => exact ⟨_, by k_asm⟩
    case b7 => exact ⟨_, by k_asm⟩
    case b8 => exact ⟨_, by k_asm⟩
    case ba => rfl
    case bb => rfl
    case bc => rfl
    case bd => rfl
    case be =>
      intro v hv
      simp only [List.mem_cons, List.mem_nil_iff, or_false] at hv
      rcases hv with rfl | rfl | rfl | rfl
      · exact ⟨_, 98, _, _, rfl, .tail _ (.tail _ (.tail _ (.tail _ (.tail _ (.tail _ (.head _)))))), .tail _ (.tail _ (.tail _ (.tail _ (.tail _ (.tail _ (.tail _ (.head _))))))), cdPlain, plain_tells _, plain_table (by assumption), by assumption, hWo.plain⟩
      · exact ⟨_, 77, _, _, rfl, .tail _ (.tail _ (.tail _ (.tail _ (.head _)))), .tail _ (.tail _ (.tail _ (.tail _ (.tail _ (.head _))))), cdHtml, html_tells _, html_table (by assumption), by assumption, hWo.html⟩
      · exact ⟨_, 84, _, _, rfl, .tail _ (.tail _ (.head _)), .tail _ (.tail _ (.tail _ (.head _))), cdCdata, cdata_tells _, cdata_table (by assumption), by assumption, hWo.cdata⟩
      · exact ⟨_, 91, _, _, rfl, .head _, .tail _ (.head _), cdAttrib, attrib_tells _, attrib_table (by assumption), by assumption, hWo.attrib⟩
    case b9 =>
      intro p hp
      simp only [List.mem_cons, List.mem_nil_iff, or_false] at hp
      rcases hp with rfl | rfl | rfl | rfl | rfl | rfl | rfl | rfl | rfl <;> first | (refine ⟨?_, ?_, ?_⟩ <;> k_ne) | exact ⟨Ne.symm (‹∀ p ∈ ([_, _, _] : List (Addr × Obj)), Prod.fst p ≠ _› _ (.tail _ (.tail _ (.head _)))), Ne.symm (‹∀ p ∈ ([_, _, _] : List (Addr × Obj)), Prod.fst p ≠ _› _ (.tail _ (.head _))), Ne.symm (‹∀ p ∈ ([_, _, _] : List (Addr × Obj)), Prod.fst p ≠ _› _ (.head _))⟩
    case bg =>
      intro h5 tk5 m5 F5 N5
      k_steps
    case bf =>
      intro T f D od o1 o2 o3 own u h9 tk9 hG c1 c2 c3 hT hD hOff F9 N9
      obtain ⟨cd, hTells, hTab, hDS, hPl⟩ := hG
      have hShort := hPl.short
      obtain ⟨v1, hv1⟩ := c1
      obtain ⟨v2, hv2⟩ := c2
      obtain ⟨v3, hv3⟩ := c3
      obtain ⟨hT1, hT2, hT3⟩ := hT
      obtain ⟨hD1, hD2, hD3⟩ := hD
      unfold turnM at F9
      unfold tupO at N9
      repeat' (first | (k_unfold; (try dsimp only)) | (k_end; wrow_close) | ((fail_if_success (with_reducible show wpAny _ _ (eval (Expr.DictComp _ _ _ _ _) _) _ _ _)); walk1) | ((fail_if_success (with_reducible show wpAny _ _ (eval (Expr.DictComp _ _ _ _ _) _) _ _ _)); dsimp only; walk1) | (leave1; try dsimp only) | fail "no step")
      rename Fr _ _ _ _ => F7
      rename News _ _ _ _ => N7
      rename (_ : Obj).data = Data.cell (some (Value.ref D)) => hTD
      refine' comp_codes (xt := ⟨#[c, d]⟩) cd F7 N7 ?p1 ?p2 ?p3 ?p4 ?p5 ?p6 ?p7 ?p8 ?p9 ?pa ?pb ?pc
      case p1 => exact rfl
      case p2 => exact rfl
      case p3 => decide +kernel
      case p4 => rfl
      case p5 => decide +kernel
      case p6 => rfl
      case p7 => exact (show (2 : Nat) ≤ sizeLine by rw [sizeLine_eq]; omega)
      case p8 => exact small_signs hcs hds
      case p9 =>
        intro E9 Q9 hQ9
        k_steps
        exact hQ9 _ _
      case pa =>
        intro n t C s₃ m₃ E' hn hns hm _ _
        exact sign_name hns hm rfl rfl (by decide)
      case pb =>
        intro n t C s₃ m₃ E' hn hns hm _ N3
        exact table_get hns hm N3 (by k_mem) hTD (by k_mem) hTab hDS (two_signs hcs hds hn) rfl rfl rfl rfl (by decide) (by decide) rfl
      case pc =>
        intro Dc oc h7 tk7 hCA F8 N8 hne8
        clear F7 N7
        simp only [List.forall_mem_cons] at hne8
        try dsimp only at hne8
        obtain ⟨hx1, hx2, hx3, hx4, hx5, hx6⟩ := hne8
        have hy1 := Ne.symm hx3
        have hy2 := Ne.symm hx4
        have hy3 := Ne.symm hx5
        have hy4 := Ne.symm hx1
        have hy5 := Ne.symm hx2
        clear hx1 hx2 hx3 hx4 hx5 hx6
        repeat' (first | (k_unfold; (try dsimp only)) | (k_end; wrow_close) | ((fail_if_success (with_reducible show wpAny _ _ (pyIter (Value.ref _)) _ _ _)); walk1) | ((fail_if_success (with_reducible show wpAny _ _ (pyIter (Value.ref _)) _ _ _)); dsimp only; walk1) | (leave1; try dsimp only) | fail "no step")
        rename Fr _ _ _ _ => F7
        rename News _ _ _ _ => N7
        refine' texts_loop (Str.ofString "text") [_, _, _, _, _, _] own ?t1 F7 N7 ?t4 ?t5 ?t6 ?t7
        case t1 => exact rfl
        case t4 => exact rfl
        case t5 => exact rfl
        case t6 =>
          intro v tl u h5 tk5 hv F5 N5
          obtain ⟨X, tX, rfl, hXl, hXs⟩ : ∃ X tX, v = .str X tX ∧ (0 < X.length ∧ X.length ≤ 12) ∧ ∀ n ∈ X.cps.toList, n ∈ [c, d] := by
            simp only [List.mem_cons, List.mem_nil_iff, or_false] at hv
            rcases hv with rfl | rfl
            · exact ⟨W, _, rfl, hW1, hWs⟩
            · exact ⟨M, _, rfl, hM1, hMs⟩
          simp only [List.cons_append, List.nil_append] at N5
          have hCX := hCA.sub hXs
          have hTl := hPl.tl X (by omega) (by omega)
          repeat' (first | (k_unfold; (try dsimp only)) | (k_end; wrow_close) | ((fail_if_success (with_reducible show wpAny _ _ (eval (Expr.ListComp _ _ _ _) _) _ _ _)); walk1) | ((fail_if_success (with_reducible show wpAny _ _ (eval (Expr.ListComp _ _ _ _) _) _ _ _)); dsimp only; walk1) | (leave1; try dsimp only) | fail "no step")

          rename Fr _ _ _ _ => F6
          rename News _ _ _ _ => N6
          refine' CT.comp_text (xt := X) (fun n y => ∃ t, y = .str (cd n) t) F6 N6 ?q3 ?q4 ?q5 ?q6 ?q7 ?q8 ?q9 ?qa ?qb ?qc
          case q3 => exact rfl
          case q4 => exact rfl
          case q5 => decide +kernel
          case q6 => rfl
          case q7 => decide +kernel
          case q8 => rfl
          case q9 => rw [sizeLine_eq]; omega
          case qa => intro E9 Q9 hQ9; k_steps; exact hQ9
          case qb =>
            rintro s9 n9 t9 I9 oI9 C9 oC9 D9 m9 ys9 h9 tk9 E9 ⟨g9, rfl⟩ hn9 hC9 hx9 F9' N9'
            k_steps
            rename News _ _ _ _ => N8
            rename Fr _ _ _ _ => F8
            exact CT.turn_end F8 N8 (P := fun y => ∃ t, y = .str (cd n9) t) ⟨_, rfl⟩
          case qc =>
            intro D9 ys9 h9 tk9 hTold F9' N9'
            have hS9 := CT.told_strs hTold
            k_steps
            · have hFX := ‹(flatS cd X != flatS cd X) = true›
              simp at hFX
            · rename News _ _ _ _ => N8
              rename Fr _ _ _ _ => F8
              exact text_done F8 N8 (fun p hp => .tail _ hp) (fun z hz => (if_neg hz).trans (if_neg hz))
        case t7 =>
          intro h5 tk5 u5 F5 N5
          simp only [List.cons_append, List.nil_append] at N5
          repeat' (first | (k_unfold; (try dsimp only)) | (k_end; wrow_close) | ((fail_if_success (with_reducible show wpAny _ _ (eval (Expr.IfExp _ _ _ _) _) _ _ _)); walk1) | ((fail_if_success (with_reducible show wpAny _ _ (eval (Expr.IfExp _ _ _ _) _) _ _ _)); dsimp only; walk1) | (leave1; try dsimp only) | fail "no step")

          rename Fr _ _ _ _ => F4
          have hHigh := hPl.high
          have hLow := hPl.low
          have hTL := hPl.tl
          have hTB : (!decide ((flatS cd ⟨#[c]⟩).cps.toList < (flatS cd ⟨#[d]⟩).cps.toList)) = turnedB cd c d := rfl
          rw [hTB] at F4
          clear hTB
          generalize turnedB cd c d = tb at F4 hHigh hLow
          have hlo1 : 0 < (if tb = true then M else W).length ∧ (if tb = true then M else W).length ≤ 12 := by cases tb; exact hW1; exact hM1
          have hhi1 : 0 < (if tb = true then W else M).length ∧ (if tb = true then W else M).length ≤ 12 := by cases tb; exact hM1; exact hW1
          have hlo2 : ∀ n ∈ (if tb = true then M else W).cps.toList, n ∈ [c, d] := by cases tb; exact hWs; exact hMs
          have hhi2 : ∀ n ∈ (if tb = true then W else M).cps.toList, n ∈ [c, d] := by cases tb; exact hMs; exact hWs
          refine' merge_bool (x := M) (y := W) tb ?g1 ?g2 ?g3
          case g1 => intro hb9 Q9 hQ9; subst hb9; k_steps; exact hQ9
          case g2 => intro hb9 Q9 hQ9; subst hb9; k_steps; exact hQ9
          case g3 =>
            repeat' (first | (k_unfold; (try dsimp only)) | (k_end; wrow_close) | ((fail_if_success (with_reducible show wpAny _ _ (eval (Expr.IfExp _ _ _ _) _) _ _ _)); walk1) | ((fail_if_success (with_reducible show wpAny _ _ (eval (Expr.IfExp _ _ _ _) _) _ _ _)); dsimp only; walk1) | (leave1; try dsimp only) | fail "no step")

            rename Fr _ _ _ _ => F4
            refine' merge_bool (x := W) (y := M) tb ?g4 ?g5 ?g6
            case g4 => intro hb9 Q9 hQ9; subst hb9; k_steps; exact hQ9
            case g5 => intro hb9 Q9 hQ9; subst hb9; k_steps; exact hQ9
            case g6 =>
              generalize (if tb = true then M else W) = lo at *
              generalize (if tb = true then W else M) = hi at *
              have hClo := hCA.sub hlo2
              have hChi := hCA.sub hhi2
              repeat' (first | (k_unfold; (try dsimp only)) | (k_end; wrow_close) | ((fail_if_success (with_reducible show wpAny _ _ (eval (Expr.ListComp _ _ _ _) _) _ _ _)); walk1) | ((fail_if_success (with_reducible show wpAny _ _ (eval (Expr.ListComp _ _ _ _) _) _ _ _)); dsimp only; walk1) | (leave1; try dsimp only) | fail "no step")

              · have hFX := ‹(endIt (flatS cd) cd hi != hi) = true›
                rw [hHigh] at hFX
                simp at hFX
              rename Fr _ _ _ _ => F6
              rename News _ _ _ _ => N6
              refine' CT.comp_test (xt := lo) (fun k => k == lo.cps.toList.headD 0) (fun _ _ => True) F6 N6 ?r3 ?r4 ?r5 ?r6 ?r7 ?r8 ?r9 ?ra ?rb ?rc
              case r3 => exact rfl
              case r4 => exact rfl
              case r5 => decide +kernel
              case r6 => rfl
              case r7 => decide +kernel
              case r8 => rfl
              case r9 => rw [sizeLine_eq]; omega
              case ra => intro E9 Q9 hQ9; k_steps; exact hQ9
              case rb =>
                rintro s9 n9 t9 I9 oI9 C9 oC9 D9 m9 ys9 h9 tk9 E9 ⟨g9, rfl⟩ hn9 hC9 hx9 F9' N9'
                k_steps
                rename News _ _ _ _ => N8
                rename Fr _ _ _ _ => F8
                refine test_end (item_zero hlo1.1) ?_ ⟨trivial, _, _, rfl, F8, N8⟩
                k_steps
                rename News _ _ _ _ => N8
                rename Fr _ _ _ _ => F8
                exact CT.turn_end F8 N8 (P := fun _ => True) trivial
              case rc =>
                intro D9 ys9 h9 tk9 hTold F9' N9'
                have hlen9 := filter_short (p := fun k => k == lo.cps.toList.headD 0) hlo1.2
                repeat' (first | (k_unfold; (try dsimp only)) | (k_end; wrow_close) | ((fail_if_success (with_reducible show wpAny _ _ (eval (Expr.ListComp _ _ _ _) _) _ _ _)); walk1) | ((fail_if_success (with_reducible show wpAny _ _ (eval (Expr.ListComp _ _ _ _) _) _ _ _)); dsimp only; walk1) | (leave1; try dsimp only) | fail "no step")

                have hpart9 := endIt_length (T := flatS cd) (cd := cd) hlo1.2
                generalize endIt (flatS cd) cd lo = part at *
                rename Fr _ _ _ _ => F6
                rename News _ _ _ _ => N6
                refine' CT.comp_test (xt := part) (fun k => k == lo.cps.toList.headD 0) (fun _ _ => True) F6 N6 ?r3 ?r4 ?r5 ?r6 ?r7 ?r8 ?r9 ?ra ?rb ?rc
                case r3 => exact rfl
                case r4 => exact rfl
                case r5 => decide +kernel
                case r6 => rfl
                case r7 => decide +kernel
                case r8 => rfl
                case r9 => rw [sizeLine_eq]; omega
                case ra => intro E9 Q9 hQ9; k_steps; exact hQ9
                case rb =>
                  rintro s9 n9 t9 I9 oI9 C9 oC9 D9 m9 ys9 h9 tk9 E9 ⟨g9, rfl⟩ hn9 hC9 hx9 F9' N9'
                  k_steps
                  rename News _ _ _ _ => N8
                  rename Fr _ _ _ _ => F8
                  refine test_end (item_zero hlo1.1) ?_ ⟨trivial, _, _, rfl, F8, N8⟩
                  k_steps
                  rename News _ _ _ _ => N8
                  rename Fr _ _ _ _ => F8
                  exact CT.turn_end F8 N8 (P := fun _ => True) trivial
                case rc =>
                  intro D9 ys9 h9 tk9 hTold F9' N9'
                  have hlen8 := filter_short (p := fun k => k == lo.cps.toList.headD 0) hpart9
                  k_steps
                  · rename (_ : Int) ≠ 1 => hNe
                    exact absurd hLow hNe
                  · rename News _ _ _ _ => N8
                    rename Fr _ _ _ _ => F8
                    refine turn_done F8 (cb_drop N8 fun p hp => .tail _ (.tail _ (.tail _ (.tail _ (.tail _ hp))))) (fun p hp => ?_) ⟨_, by assumption⟩ ⟨_, by assumption⟩ ⟨_, by assumption⟩
                    simp only [List.mem_cons, List.mem_nil_iff, or_false] at hp
                    rcases hp with rfl | rfl | rfl | rfl <;> rfl
)
