import PyProof.Rows.All
import Wide.All
import OpenK.AllK
import Wide.FinOn
import Lean
import PySem.Challenge.RW_ay0038_01
open PySem PySem.W PyProof.Rows PySem.Calls
set_option Elab.async false
set_option maxRecDepth 100000
set_option maxHeartbeats 4000000

namespace Mine
open_top hd for PySem.Challenge.rw_ay0038_01
open PySem PySem.W PyProof.Rows PySem.Calls

abbrev PR : Program := PySem.Challenge.pw_ay0038_01
noncomputable abbrev KK (w : World) : Frag := hd.heap_39 w.params

/-- what is read off the written part, once -/
theorem os_ga (w : World) : findIn (KK w) (.ref 121) "__getattribute__" = some (some (.builtin "object.__getattribute__")) := by kernel_rfl
theorem os_gat (w : World) : findIn (KK w) (.ref 121) "__getattr__" = some none := by kernel_rfl
theorem os_sa (w : World) : findIn (KK w) (.ref 121) "__setattr__" = some (some (.builtin "object.__setattr__")) := by kernel_rfl
theorem os_root (w : World) : findIn (KK w) (.ref 121) "_OrderedSet__root" = some none := by kernel_rfl
theorem os_map (w : World) : findIn (KK w) (.ref 121) "_OrderedSet__map" = some none := by kernel_rfl
theorem os_init (w : World) : findIn (KK w) (.ref 121) "__init__" = some (some (.ref 47)) := by kernel_rfl
theorem os_len (w : World) : findIn (KK w) (.ref 121) "__len__" = some (some (.ref 54)) := by kernel_rfl
theorem os_contains (w : World) : findIn (KK w) (.ref 121) "__contains__" = some (some (.ref 61)) := by kernel_rfl
theorem os_add (w : World) : findIn (KK w) (.ref 121) "add" = some (some (.ref 68)) := by kernel_rfl
theorem os_discard (w : World) : findIn (KK w) (.ref 121) "discard" = some (some (.ref 75)) := by kernel_rfl
theorem os_iter (w : World) : findIn (KK w) (.ref 121) "__iter__" = some (some (.ref 82)) := by kernel_rfl
theorem os_reversed (w : World) : findIn (KK w) (.ref 121) "__reversed__" = some (some (.ref 89)) := by kernel_rfl
theorem os_pop (w : World) : findIn (KK w) (.ref 121) "pop" = some (some (.ref 97)) := by kernel_rfl
theorem os_eq (w : World) : findIn (KK w) (.ref 121) "__eq__" = some (some (.ref 118)) := by kernel_rfl
theorem os_bool (w : World) : findIn (KK w) (.ref 121) "__bool__" = some none := by kernel_rfl
theorem os_cls (w : World) : (clsIn (KK w) 121).any (·.hasDict) = true := by kernel_rfl
theorem os_over (w : World) : plainOver (KK w) 121 = true := by kernel_rfl
theorem os_makes (w : World) : makesIn (KK w) 121 = true := by kernel_rfl

theorem lk_ga (w : World) : findIn (KK w) (.ref 26) "__getattribute__" = some (some (.builtin "object.__getattribute__")) := by kernel_rfl
theorem lk_gat (w : World) : findIn (KK w) (.ref 26) "__getattr__" = some none := by kernel_rfl
theorem lk_sa (w : World) : findIn (KK w) (.ref 26) "__setattr__" = some (some (.builtin "object.__setattr__")) := by kernel_rfl
theorem lk_over (w : World) : plainOver (KK w) 26 = true := by kernel_rfl
theorem lk_makes (w : World) : makesIn (KK w) 26 = true := by kernel_rfl
theorem lk_cls (w : World) : (clsIn (KK w) 26).isSome = true := by kernel_rfl
theorem lk_init (w : World) : findIn (KK w) (.ref 26) "__init__" = some (some (.builtin "object.__init__")) := by kernel_rfl
theorem lk_key (w : World) : findIn (KK w) (.ref 26) "key" = some (some (.ref 27)) := by kernel_rfl
theorem lk_next (w : World) : findIn (KK w) (.ref 26) "next" = some (some (.ref 28)) := by kernel_rfl
theorem lk_prev (w : World) : findIn (KK w) (.ref 26) "prev" = some (some (.ref 29)) := by kernel_rfl
theorem lk_get (w : World) (p : Addr) (hp : p = 27 ∨ p = 28 ∨ p = 29) : specialIn (KK w) (.ref p) "__get__" = some (some (.builtin "member_descriptor.__get__")) := by
  rcases hp with rfl | rfl | rfl <;> kernel_rfl
theorem lk_takes (w : World) (p : Addr) (hp : p = 27 ∨ p = 28 ∨ p = 29) : takesIn (KK w) (.ref p) = some true := by
  rcases hp with rfl | rfl | rfl <;> kernel_rfl
theorem lk_type (w : World) (p : Addr) (hp : p = 27 ∨ p = 28 ∨ p = 29) : typeIn (KK w) (.ref p) = some (.type "member_descriptor") := by
  rcases hp with rfl | rfl | rfl <;> kernel_rfl
theorem lk_slot (w : World) (p : Addr) (hp : p = 27 ∨ p = 28 ∨ p = 29) : slotIn (KK w) p 26 = some (p - 27) := by
  rcases hp with rfl | rfl | rfl <;> kernel_rfl
end Mine
set_option Elab.async false
set_option maxRecDepth 100000
set_option maxHeartbeats 4000000
namespace Mine
open PySem PySem.W PyProof.Rows PySem.Calls

/-- what stands when law is called, and stays -/
structure Bs (w : World) (h₀ : Heap) : Prop where
  X : (hd.heap_39 w.params).In h₀
  T : ∃ loose mean mg mb, Top hd.view_39 loose mean mg mb h₀
def On (h₀ h : Heap) : Prop := ∀ b o, h₀.get? b = some o → h.get? b = some o

/-- room for a call, nothing in flight -/
structure Room (A : Around) : Prop where
  h : A.handled = none
  d : A.depth < 600
  u : A.units < 2000

theorem filled : PySem.Challenge.rw_ay0038_01 = PySem.Challenge.rw_ay0038_01 ∧ hd.heap_39 = hd.heap_39 := by
  k_fill
  exact ⟨rfl, rfl⟩

theorem enter {w : World} {h₀ : Heap} {A : Around} {s : Shared} {R : Result → Shared → Prop} {name qual : Str} {params : Arguments} {body : List Stmt} {scope : Scope} {dV kV doc pm cdv ct oc : Value} {an od : Option Addr} {osl : Array (Option Value)} {f : Addr} {args : Args} {binds : List (Str × Value)}
    {news : List (Addr × Obj)} (B : Bs w h₀) (O : On h₀ s.heap) (hn : ∀ p ∈ news, s.heap.get? p.1 = some p.2 ∧ h₀.get? p.1 = none)
    (ho : (hd.heap_39 w.params).lookup f = some ⟨oc, od, .func (fnOf name qual params body scope dV kV doc pm an cdv ct), osl⟩) (hcd : codeIn (hd.heap_39 w.params) cdv qual = true) (hroom : A.depth < recursionLimit)
    (hbind : BindsTo s (fnOf name qual params body scope dV kV doc pm an cdv ct) args binds) (hloc : ∀ y ∈ binds, scope.names.lookup y.1 = some .local)
    (h : ∀ g L h₁ loose mean mg mb, (∀ b o, b ∉ news.map (·.1) → s.heap.get? b = some o → g.get? b = some o) → Fr g L h₁ (fun y => binds.reverse.lookup y) → News g L h₁ news → (hd.heap_39 w.params).In g → Top hd.view_39 loose mean mg mb g → (∀ p ∈ news, p.1 < L) → s.heap.get? L = none →
      wpAny (model PR w) (A.deeper (envOf qual scope L f cdv)) (execs body (envOf qual scope L f cdv))
        (fun fl s' => R (.ok (.ret (match fl with | .ret v => v | _ => .none))) s')
        (fun e s' => wpAny (model PR w) (A.deeper (envOf qual scope L f cdv)) (leaving (envOf qual scope L f cdv) e) (fun _ s'' => R (.error e) s'') (fun e' s'' => R (.error e') s'') s')
        { s with heap := h₁, toks := s.toks + binds.length })
    (hco : scope.isCoroutine = false) (hgen : scope.isGenerator = false) (hk : scope.kind = .function)
    (hcell : ∀ x ∈ scope.names, x.2 ≠ .cell) : codeAny (model PR w) A (.call (.ref f) args) R s := by
  obtain ⟨loose, mean, mg, mb, T⟩ := B.T
  have X := B.X.keeps O
  refine codeAny_call_def (fd := fnOf name qual params body scope dV kV doc pm an cdv ct) (body := body) (binds := binds) hroom (X _ _ ho) rfl (T.nolimit.keeps O) (codeRec_of X hcd) rfl hbind hcell hloc (fun h₁ hns hk₁ => ?_) hco hgen hk
  have O' : ∀ b o, h₀.get? b = some o → (hideAll s.heap (news.map (fun p : Addr × Obj => p.1))).get? b = some o := fun b o e => by
    refine hideAll_get _ (O b o e) fun hm => ?_
    obtain ⟨p, hp, rfl⟩ := List.mem_map.mp hm
    rw [(hn p hp).2] at e; cases e
  exact h (hideAll s.heap (news.map (fun p : Addr × Obj => p.1))) s.heap.objs.size h₁ loose mean mg mb (fun b o hb e => hideAll_get _ e hb)
    ⟨hns, fun b o e => hk₁ b o (of_hideAll _ e), Nat.le_of_eq (hideAll_size _ _)⟩
    (fun p hp => ⟨hk₁ _ _ (hn p hp).1, Nat.ne_of_lt (Heap.lt_size (hn p hp).1), hideAll_none _ (List.mem_map_of_mem hp)⟩)
    (B.X.keeps O') (T.keeps O') (fun p hp => Heap.lt_size (hn p hp).1) (by
      cases q : s.heap.get? s.heap.objs.size with
      | none => rfl
      | some o => exact absurd (Heap.lt_size q) (Nat.lt_irrefl _))

abbrev Led := List (Nat × Obj)
def At (h : Heap) (l : Led) : Prop := ∀ p ∈ l, h.get? p.1 = some p.2
def New0 (h₀ : Heap) (l : Led) : Prop := ∀ p ∈ l, h₀.get? p.1 = none
def Kp (l : List Nat) (h h' : Heap) : Prop := ∀ b o, b ∉ l → h.get? b = some o → h'.get? b = some o
theorem at_new {h₀ h : Heap} {l : Led} (a : At h l) (n : New0 h₀ l) : ∀ p ∈ l, h.get? p.1 = some p.2 ∧ h₀.get? p.1 = none := fun p hp => ⟨a p hp, n p hp⟩
theorem fin_keep {h g h' : Heap} {L : Addr} {m : Str → Option Value} {as : List Nat} (hg : ∀ b o, b ∉ as → h.get? b = some o → g.get? b = some o) (F : Fr g L h' m) : Kp as h h' := fun b o hb e => F.keep b o (hg b o hb e)
theorem fin_new {h g h' : Heap} {L : Addr} {news : List (Addr × Obj)} {x : Nat} {o : Obj} {as : List Nat} (hg : ∀ b o, b ∉ as → h.get? b = some o → g.get? b = some o) (N : News g L h' news) (hm : (x, o) ∈ news) (hx : x ∉ as) : h.get? x = none := by
  cases q : h.get? x with
  | none => rfl
  | some o' =>
    have := hg x o' hx q
    rw [(N _ hm).2.2] at this; cases this
theorem at_nil {h : Heap} : At h [] := fun _ hp => nomatch hp
theorem at_cons {h g : Heap} {L : Addr} {news : List (Addr × Obj)} {x : Nat} {o : Obj} {l : Led} (N : News g L h news) (hm : (x, o) ∈ news) (r : At h l) : At h ((x, o) :: l) := fun p hp => by
  rcases List.mem_cons.mp hp with rfl | hp
  · exact (N _ hm).1
  · exact r p hp

abbrev lnk (d : Addr) (k n p : Option Value) : Obj := ⟨.ref 26, some d, .plain, #[k, n, p]⟩
abbrev e_root (w : World) (t : Tok) (root : Addr) : DictEntry := ⟨PyData.keyHash w.params (Str.ofString "_OrderedSet__root"), .str (Str.ofString "_OrderedSet__root") t, .ref root⟩
abbrev e_map (w : World) (t : Tok) (mp : Addr) : DictEntry := ⟨PyData.keyHash w.params (Str.ofString "_OrderedSet__map"), .str (Str.ofString "_OrderedSet__map") t, .ref mp⟩

abbrev k_A (fr : Option (List Env)) (gd : Option (List Code)) (dp un : Nat) : Around := { handled := none, depth := dp, frames := fr, guards := gd, units := un }


section
variable {w : World} {A : Around} {E : Value → Shared → Prop} {s : Shared} {g : Heap} {L mp : Addr} {m : Str → Option Value} {om : Obj} {kvs : List (Str × Value)} {news : List (Addr × Obj)} {gf : Obj → List (Addr × Obj)} {key : Str} {tk : Tok}

theorem sys_of (lo : 3 < mp) : (mp == sysModules) = false := by
  rw [beq_eq_false_iff_ne]
  intro e
  rw [e] at lo
  exact absurd lo (by decide)
theorem q_dict (N : News g L s.heap news) (hm : (mp, om) ∈ news) (hd : om.IsDictOf (strKind PR w) kvs) : s.heap.DictOf (strKind PR w) mp kvs := Heap.dictOf_iff.mpr ⟨om, (N _ hm).1, hd⟩
theorem q_notin0 {Q : Value → Shared → Prop} (N : News g L s.heap news) (hm : (mp, om) ∈ news) (hd : om.IsDictOf (strKind PR w) kvs) (lo : 3 < mp) (hk : valueAt kvs key = none)
    (h : Q (.bool true) { s with toks := s.toks + 1 }) : wpAny (model PR w) A (compareOp .NotIn (.str key tk) (.ref mp)) Q E s :=
  wpAny_notIn_of (strKind_is _ _ key tk) (sys_of lo) (q_dict N hm hd).mapOf (by rw [hk]; exact h)
theorem q_notin1 {v : Value} {Q : Value → Shared → Prop} (N : News g L s.heap news) (hm : (mp, om) ∈ news) (hd : om.IsDictOf (strKind PR w) kvs) (lo : 3 < mp) (hk : valueAt kvs key = some v)
    (h : Q (.bool false) { s with toks := s.toks + 1 }) : wpAny (model PR w) A (compareOp .NotIn (.str key tk) (.ref mp)) Q E s :=
  wpAny_notIn_of (strKind_is _ _ key tk) (sys_of lo) (q_dict N hm hd).mapOf (by rw [hk]; exact h)
theorem q_in {Q : Value → Shared → Prop} (N : News g L s.heap news) (hm : (mp, om) ∈ news) (hd : om.IsDictOf (strKind PR w) kvs) (lo : 3 < mp)
    (h : Q (.bool (valueAt kvs key).isSome) { s with toks := s.toks + 1 }) : wpAny (model PR w) A (compareOp .In (.str key tk) (.ref mp)) Q E s :=
  wpAny_in_of (strKind_is _ _ key tk) (sys_of lo) (q_dict N hm hd).mapOf h
theorem q_in0 {Q : Value → Shared → Prop} (N : News g L s.heap news) (hm : (mp, om) ∈ news) (hd : om.IsDictOf (strKind PR w) kvs) (lo : 3 < mp) (hk : valueAt kvs key = none)
    (h : Q (.bool false) { s with toks := s.toks + 1 }) : wpAny (model PR w) A (compareOp .In (.str key tk) (.ref mp)) Q E s :=
  q_in N hm hd lo (by rw [hk]; exact h)
theorem q_in1 {v : Value} {Q : Value → Shared → Prop} (N : News g L s.heap news) (hm : (mp, om) ∈ news) (hd : om.IsDictOf (strKind PR w) kvs) (lo : 3 < mp) (hk : valueAt kvs key = some v)
    (h : Q (.bool true) { s with toks := s.toks + 1 }) : wpAny (model PR w) A (compareOp .In (.str key tk) (.ref mp)) Q E s :=
  q_in N hm hd lo (by rw [hk]; exact h)
theorem q_set {v : Value} {Q : Unit → Shared → Prop} (F : Fr g L s.heap m) (N : News g L s.heap news) (U : UpdF mp om news gf) (hd : om.IsDictOf (strKind PR w) kvs) (hz : kvs.length ≤ 1000)
    (h : ∀ h' o', Fr g L h' m → News g L h' (gf o') → o'.IsDictOf (strKind PR w) (stored kvs key v) → Q () { s with heap := h', toks := s.toks + 1 }) :
    wpAny (model PR w) A (setItem (.ref mp) (.str key tk) v) Q E s := by
  obtain ⟨pre, post, rfl, hg, a, b⟩ := U.split
  have hm := N (mp, om) (List.mem_append_right _ (.head _))
  refine wpAny_setItem_pairs (strKind_is _ _ key tk) (q_dict N (List.mem_append_right _ (.head _)) hd) (fun h' hd' hs => ?_) (by rw [sizeLine_eq]; omega)
  obtain ⟨o', ho', hd''⟩ := Heap.dictOf_iff.mp hd'
  exact h h' o' (F.change hs hm.2.1 hm.2.2) (hg o' ▸ N.setIn a b hs ho') hd''
theorem q_meth {pl : Sem Bool} {Q : Value × List Value → Shared → Prop} (N : News g L s.heap news) (hm : (mp, om) ∈ news) (hd : om.IsDictOf (strKind PR w) kvs)
    (h : Q (.builtin "dict.pop", [.ref mp]) s) : wpAny (model PR w) A (getMethod (.ref mp) "pop" pl) Q E s :=
  have hD := q_dict N hm hd
  getMethod_builtin hD.typeIs PySem.F.plainAttrs_dict PySem.F.slot_dict_pop PySem.F.type_dict_pop hD.mapOf.noDict h
theorem q_pop {v : Value} {Q : Value → Shared → Prop} (F : Fr g L s.heap m) (N : News g L s.heap news) (U : UpdF mp om news gf) (hd : om.IsDictOf (strKind PR w) kvs) (hz : kvs.length ≤ 1000) (hk : valueAt kvs key = some v)
    (h : ∀ h' o', Fr g L h' m → News g L h' (gf o') → o'.IsDictOf (strKind PR w) (without kvs key) → Q v { s with heap := h', toks := s.toks + 1 }) :
    wpAny (model PR w) A (call (.builtin "dict.pop") [.ref mp, .str key tk]) Q E s := by
  obtain ⟨pre, post, rfl, hg, a, b⟩ := U.split
  have hm := N (mp, om) (List.mem_append_right _ (.head _))
  have hD := q_dict N (List.mem_append_right _ (.head _)) hd
  refine call_meetsIn PySem.F.slot_dict_pop hD.typeIs PySem.F.entry_dict_pop (PySem.F.args_dict_pop_2 _ _) (meets_dict_pop_there (strKind PR w) mp (strKind_is _ _ key tk) [] (.inl rfl) rfl) ⟨kvs, v, hD, (by rw [sizeLine_eq]; omega), hk, fun h' hd' hs => ?_⟩
  obtain ⟨o', ho', hd''⟩ := Heap.dictOf_iff.mp hd'
  exact h h' o' (F.change hs hm.2.1 hm.2.2) (hg o' ▸ N.setIn a b hs ho') hd''
theorem q_len {Q : Value → Shared → Prop} (N : News g L s.heap news) (hm : (mp, om) ∈ news) (hd : om.IsDictOf (strKind PR w) kvs) (lo : 3 < mp) (hz : kvs.length ≤ 1000)
    (h : Q (.int kvs.length (s.toks + 1)) { s with toks := s.toks + 1 + 1 }) : wpAny (model PR w) A (call (.builtin "len") [.ref mp]) Q E s :=
  call_len_dict (sys_of lo) (q_dict N hm hd) (by omega) h
end
local macro_rules | `(tactic| walk_at "compareOp NotIn str ref") => `(tactic| (k_here; k_dflt (first
  | (refine' q_notin0 ?k1 ?k2 ?k3 ?k4 ?k5 ?_; (case k1 => k_asm); (case k2 => k_mem); (case k3 => assumption); (case k4 => assumption); (case k5 => assumption); k_whole)
  | (refine' q_notin1 ?k1 ?k2 ?k3 ?k4 ?k5 ?_; (case k1 => k_asm); (case k2 => k_mem); (case k3 => assumption); (case k4 => assumption); (case k5 => assumption); k_whole))))
local macro_rules | `(tactic| walk_at "compareOp In str ref") => `(tactic| (k_here; k_dflt (first
  | (refine' q_in0 ?k1 ?k2 ?k3 ?k4 ?k5 ?_; (case k1 => k_asm); (case k2 => k_mem); (case k3 => assumption); (case k4 => assumption); (case k5 => assumption); k_whole)
  | (refine' q_in1 ?k1 ?k2 ?k3 ?k4 ?k5 ?_; (case k1 => k_asm); (case k2 => k_mem); (case k3 => assumption); (case k4 => assumption); (case k5 => assumption); k_whole)
  | (refine' q_in ?k1 ?k2 ?k3 ?k4 ?_; (case k1 => k_asm); (case k2 => k_mem); (case k3 => assumption); (case k4 => assumption); k_whole))))
local macro_rules | `(tactic| walk_at "setItem ref str") => `(tactic| (k_here; k_dflt (refine' q_set ?k1 ?k2 ?k3 ?k4 ?k5 ?_; (case k1 => k_asm); (case k2 => k_asm); (case k3 => k_updF); (case k4 => assumption); (case k5 => assumption); k_whole; intro h' o' F' N' hd'; (try dsimp only at N'); (try k_sweep))))
local macro_rules | `(tactic| walk_at "getMethod ref") => `(tactic| (k_here; k_dflt (refine' q_meth ?k1 ?k2 ?k3 ?_; (case k1 => k_asm); (case k2 => k_mem); (case k3 => assumption); k_whole)))
local macro_rules | `(tactic| walk_at "call builtin:dict.pop") => `(tactic| (k_here; k_dflt (refine' q_pop ?k1 ?k2 ?k3 ?k4 ?k5 ?k6 ?_; (case k1 => k_asm); (case k2 => k_asm); (case k3 => k_updF); (case k4 => assumption); (case k5 => assumption); (case k6 => assumption); k_whole; intro h' o' F' N' hd'; (try dsimp only at N'); (try k_sweep))))
local macro_rules | `(tactic| walk_at "call builtin:len") => `(tactic| (k_here; k_dflt (refine' q_len ?k1 ?k2 ?k3 ?k4 ?k5 ?_; (case k1 => k_asm); (case k2 => k_mem); (case k3 => assumption); (case k4 => assumption); (case k5 => assumption); k_whole)))
local macro_rules | `(tactic| walk_at "my at") => `(tactic| first | exact at_nil | (refine' at_cons ?k1 ?k2 ?_; (case k1 => k_asm); (case k2 => k_mem); walk_at "my at"))
local macro_rules | `(tactic| walk_at "my not") => `(tactic| (simp only [List.map_cons, List.map_nil, List.mem_cons, List.not_mem_nil, or_false, not_or]; omega))
local macro_rules | `(tactic| k_ne) => `(tactic| (refine neN ?_; (try dsimp only); first | with_reducible assumption | (refine Ne.symm ?_; with_reducible assumption)))
local macro_rules | `(tactic| walk_at "my enter") => `(tactic| (k_dflt (refine' enter ?k1 ?k2 ?k3 ?k6 ?k7 ?k8 ?k9 ?kB ?_ ?c2 ?c3 ?c4 ?c5; (case k1 => assumption); (case k2 => assumption); (case k3 => exact at_new (by assumption) (by assumption)); (case k6 => k_is); (case k7 => k_is); (case k8 => exact Nat.lt_trans (by assumption) (by decide)); (case k9 => exact BindsTo.of_eq rfl); (case c5 => decide); (case kB => exact locs rfl); (case c2 => exact rfl); (case c3 => exact rfl); (case c4 => exact rfl); k_whole; intro g L h₁ loose mean mg mb hg F N X T hlt hL; (try dsimp only); (try k_fold))))

theorem k_add {w : World} {h₀ : Heap} {fr : Option (List Env)} {gd : Option (List Code)} {dp un : Nat} {s : Shared} {R : Result → Shared → Prop} {x dx mp root rd la ld : Nat} {om : Obj} {t1 t2 tk : Tok} {key : Str} {kl pl fl : Option Value}
    {kvs : List (Str × Value)} (hom : om.IsDictOf (strKind PR w) kvs) (lo : 3 < mp) (hz : kvs.length ≤ 1000) (hk : valueAt kvs key = none)
    (B : Bs w h₀) (O : On h₀ s.heap) (hd : dp < 600) (hu : un < 2000)
    (ha : At s.heap [(x, instObj 121 dx), (dx, dictOf [e_root w t1 root, e_map w t2 mp] 2), (mp, om), (root, lnk rd none fl (some (.ref la))), (rd, dictOf [] 0), (la, lnk ld kl (some (.ref root)) pl), (ld, dictOf [] 0)]) (hn : New0 h₀ [(x, instObj 121 dx), (dx, dictOf [e_root w t1 root, e_map w t2 mp] 2), (mp, om), (root, lnk rd none fl (some (.ref la))), (rd, dictOf [] 0), (la, lnk ld kl (some (.ref root)) pl), (ld, dictOf [] 0)])
    (hdis : [x, dx, mp, root, rd, la, ld].Nodup)
    (ret : ∀ h2 tk2 x2 d2 o2, Kp [x, dx, mp, root, rd, la, ld] s.heap h2 → s.heap.get? x2 = none → s.heap.get? d2 = none → x2 ≠ d2 → At h2 [(x2, lnk d2 (some (.str key tk)) (some (.ref root)) (some (.ref la))), (d2, dictOf [] 0), (x, instObj 121 dx), (dx, dictOf [e_root w t1 root, e_map w t2 mp] 2), (mp, o2), (root, lnk rd none fl (some (.ref x2))), (rd, dictOf [] 0), (la, lnk ld kl (some (.ref x2)) pl), (ld, dictOf [] 0)] → o2.IsDictOf (strKind PR w) (stored kvs key (.ref x2)) → R (.ok (.ret .none)) { s with heap := h2, toks := tk2 }) :
    codeAny (model PR w) (k_A fr gd dp un) (.call (.ref 68) ⟨[.ref x, .str key tk], []⟩) R s := by
  simp only [List.nodup_cons, List.mem_cons, List.not_mem_nil, or_false, not_or, List.nodup_nil, and_true, not_false_eq_true] at hdis
  obtain ⟨⟨h0_1, h0_2, h0_3, h0_4, h0_5, h0_6⟩, ⟨h1_2, h1_3, h1_4, h1_5, h1_6⟩, ⟨h2_3, h2_4, h2_5, h2_6⟩, ⟨h3_4, h3_5, h3_6⟩, ⟨h4_5, h4_6⟩, h5_6⟩ := hdis
  walk_at "my enter"
  clear ha hn
  k_steps
  refine ret _ _ _ _ _ (fin_keep (by assumption) (by k_asm)) (fin_new (by assumption) (by k_asm) (List.Mem.tail _ (List.Mem.head _)) ?_) (fin_new (by assumption) (by k_asm) (List.Mem.tail _ (List.Mem.tail _ (List.Mem.head _))) ?_) ?_ ?_ (by assumption)
  · walk_at "my not"
  · walk_at "my not"
  · exact Nat.ne_of_gt (by assumption)
  · walk_at "my at"

theorem k_add0 {w : World} {h₀ : Heap} {fr : Option (List Env)} {gd : Option (List Code)} {dp un : Nat} {s : Shared} {R : Result → Shared → Prop} {x dx mp root rd : Nat} {om : Obj} {t1 t2 tk : Tok} {key : Str} 
    {kvs : List (Str × Value)} (hom : om.IsDictOf (strKind PR w) kvs) (lo : 3 < mp) (hz : kvs.length ≤ 1000) (hk : valueAt kvs key = none)
    (B : Bs w h₀) (O : On h₀ s.heap) (hd : dp < 600) (hu : un < 2000)
    (ha : At s.heap [(x, instObj 121 dx), (dx, dictOf [e_root w t1 root, e_map w t2 mp] 2), (mp, om), (root, lnk rd none (some (.ref root)) (some (.ref root))), (rd, dictOf [] 0)]) (hn : New0 h₀ [(x, instObj 121 dx), (dx, dictOf [e_root w t1 root, e_map w t2 mp] 2), (mp, om), (root, lnk rd none (some (.ref root)) (some (.ref root))), (rd, dictOf [] 0)])
    (hdis : [x, dx, mp, root, rd].Nodup)
    (ret : ∀ h2 tk2 x2 d2 o2, Kp [x, dx, mp, root, rd] s.heap h2 → s.heap.get? x2 = none → s.heap.get? d2 = none → x2 ≠ d2 → At h2 [(x2, lnk d2 (some (.str key tk)) (some (.ref root)) (some (.ref root))), (d2, dictOf [] 0), (x, instObj 121 dx), (dx, dictOf [e_root w t1 root, e_map w t2 mp] 2), (mp, o2), (root, lnk rd none (some (.ref x2)) (some (.ref x2))), (rd, dictOf [] 0)] → o2.IsDictOf (strKind PR w) (stored kvs key (.ref x2)) → R (.ok (.ret .none)) { s with heap := h2, toks := tk2 }) :
    codeAny (model PR w) (k_A fr gd dp un) (.call (.ref 68) ⟨[.ref x, .str key tk], []⟩) R s := by
  simp only [List.nodup_cons, List.mem_cons, List.not_mem_nil, or_false, not_or, List.nodup_nil, and_true, not_false_eq_true] at hdis
  obtain ⟨⟨h0_1, h0_2, h0_3, h0_4⟩, ⟨h1_2, h1_3, h1_4⟩, ⟨h2_3, h2_4⟩, h3_4⟩ := hdis
  walk_at "my enter"
  clear ha hn
  k_steps
  refine ret _ _ _ _ _ (fin_keep (by assumption) (by k_asm)) (fin_new (by assumption) (by k_asm) (List.Mem.tail _ (List.Mem.head _)) ?_) (fin_new (by assumption) (by k_asm) (List.Mem.tail _ (List.Mem.tail _ (List.Mem.head _))) ?_) ?_ ?_ (by assumption)
  · walk_at "my not"
  · walk_at "my not"
  · exact Nat.ne_of_gt (by assumption)
  · walk_at "my at"

theorem k_add1 {w : World} {h₀ : Heap} {fr : Option (List Env)} {gd : Option (List Code)} {dp un : Nat} {s : Shared} {R : Result → Shared → Prop} {x dx mp : Nat} {om : Obj} {t1 t2 tk : Tok} {key : Str} {root : Nat}
    {kvs : List (Str × Value)} (hom : om.IsDictOf (strKind PR w) kvs) (lo : 3 < mp) (hz : kvs.length ≤ 1000) {v : Value} (hk : valueAt kvs key = some v)
    (B : Bs w h₀) (O : On h₀ s.heap) (hd : dp < 600) (hu : un < 2000)
    (ha : At s.heap [(x, instObj 121 dx), (dx, dictOf [e_root w t1 root, e_map w t2 mp] 2), (mp, om)]) (hn : New0 h₀ [(x, instObj 121 dx), (dx, dictOf [e_root w t1 root, e_map w t2 mp] 2), (mp, om)])
    (hdis : [x, dx, mp].Nodup)
    (ret : ∀ h2 tk2, Kp [x, dx, mp] s.heap h2 → At h2 [(x, instObj 121 dx), (dx, dictOf [e_root w t1 root, e_map w t2 mp] 2), (mp, om)] → R (.ok (.ret .none)) { s with heap := h2, toks := tk2 }) :
    codeAny (model PR w) (k_A fr gd dp un) (.call (.ref 68) ⟨[.ref x, .str key tk], []⟩) R s := by
  simp only [List.nodup_cons, List.mem_cons, List.not_mem_nil, or_false, not_or, List.nodup_nil, and_true, not_false_eq_true] at hdis
  obtain ⟨⟨h0_1, h0_2⟩, h1_2⟩ := hdis
  walk_at "my enter"
  clear ha hn
  k_steps
  refine ret _ _ (fin_keep (by assumption) (by k_asm)) ?_
  walk_at "my at"

theorem k_len {w : World} {h₀ : Heap} {fr : Option (List Env)} {gd : Option (List Code)} {dp un : Nat} {s : Shared} {R : Result → Shared → Prop} {x dx mp : Nat} {om : Obj} {t1 t2 : Tok} {root : Nat}
    {kvs : List (Str × Value)} (hom : om.IsDictOf (strKind PR w) kvs) (lo : 3 < mp) (hz : kvs.length ≤ 1000) 
    (B : Bs w h₀) (O : On h₀ s.heap) (hd : dp < 600) (hu : un < 2000)
    (ha : At s.heap [(x, instObj 121 dx), (dx, dictOf [e_root w t1 root, e_map w t2 mp] 2), (mp, om)]) (hn : New0 h₀ [(x, instObj 121 dx), (dx, dictOf [e_root w t1 root, e_map w t2 mp] 2), (mp, om)])
    (hdis : [x, dx, mp].Nodup)
    (ret : ∀ h2 tk2 tk3, Kp [x, dx, mp] s.heap h2 → At h2 [(x, instObj 121 dx), (dx, dictOf [e_root w t1 root, e_map w t2 mp] 2), (mp, om)] → R (.ok (.ret (.int kvs.length tk3))) { s with heap := h2, toks := tk2 }) :
    codeAny (model PR w) (k_A fr gd dp un) (.call (.ref 54) ⟨[.ref x], []⟩) R s := by
  simp only [List.nodup_cons, List.mem_cons, List.not_mem_nil, or_false, not_or, List.nodup_nil, and_true, not_false_eq_true] at hdis
  obtain ⟨⟨h0_1, h0_2⟩, h1_2⟩ := hdis
  walk_at "my enter"
  clear ha hn
  k_steps
  refine ret _ _ _ (fin_keep (by assumption) (by k_asm)) ?_
  walk_at "my at"

theorem k_contains {w : World} {h₀ : Heap} {fr : Option (List Env)} {gd : Option (List Code)} {dp un : Nat} {s : Shared} {R : Result → Shared → Prop} {x dx mp : Nat} {om : Obj} {t1 t2 tk : Tok} {key : Str} {root : Nat}
    {kvs : List (Str × Value)} (hom : om.IsDictOf (strKind PR w) kvs) (lo : 3 < mp) (hz : kvs.length ≤ 1000) 
    (B : Bs w h₀) (O : On h₀ s.heap) (hd : dp < 600) (hu : un < 2000)
    (ha : At s.heap [(x, instObj 121 dx), (dx, dictOf [e_root w t1 root, e_map w t2 mp] 2), (mp, om)]) (hn : New0 h₀ [(x, instObj 121 dx), (dx, dictOf [e_root w t1 root, e_map w t2 mp] 2), (mp, om)])
    (hdis : [x, dx, mp].Nodup)
    (ret : ∀ h2 tk2, Kp [x, dx, mp] s.heap h2 → At h2 [(x, instObj 121 dx), (dx, dictOf [e_root w t1 root, e_map w t2 mp] 2), (mp, om)] → R (.ok (.ret (.bool (valueAt kvs key).isSome))) { s with heap := h2, toks := tk2 }) :
    codeAny (model PR w) (k_A fr gd dp un) (.call (.ref 61) ⟨[.ref x, .str key tk], []⟩) R s := by
  simp only [List.nodup_cons, List.mem_cons, List.not_mem_nil, or_false, not_or, List.nodup_nil, and_true, not_false_eq_true] at hdis
  obtain ⟨⟨h0_1, h0_2⟩, h1_2⟩ := hdis
  walk_at "my enter"
  clear ha hn
  k_steps
  refine ret _ _ (fin_keep (by assumption) (by k_asm)) ?_
  walk_at "my at"

theorem k_disc0 {w : World} {h₀ : Heap} {fr : Option (List Env)} {gd : Option (List Code)} {dp un : Nat} {s : Shared} {R : Result → Shared → Prop} {x dx mp : Nat} {om : Obj} {t1 t2 tk : Tok} {key : Str} {root : Nat}
    {kvs : List (Str × Value)} (hom : om.IsDictOf (strKind PR w) kvs) (lo : 3 < mp) (hz : kvs.length ≤ 1000) (hk : valueAt kvs key = none)
    (B : Bs w h₀) (O : On h₀ s.heap) (hd : dp < 600) (hu : un < 2000)
    (ha : At s.heap [(x, instObj 121 dx), (dx, dictOf [e_root w t1 root, e_map w t2 mp] 2), (mp, om)]) (hn : New0 h₀ [(x, instObj 121 dx), (dx, dictOf [e_root w t1 root, e_map w t2 mp] 2), (mp, om)])
    (hdis : [x, dx, mp].Nodup)
    (ret : ∀ h2 tk2, Kp [x, dx, mp] s.heap h2 → At h2 [(x, instObj 121 dx), (dx, dictOf [e_root w t1 root, e_map w t2 mp] 2), (mp, om)] → R (.ok (.ret .none)) { s with heap := h2, toks := tk2 }) :
    codeAny (model PR w) (k_A fr gd dp un) (.call (.ref 75) ⟨[.ref x, .str key tk], []⟩) R s := by
  simp only [List.nodup_cons, List.mem_cons, List.not_mem_nil, or_false, not_or, List.nodup_nil, and_true, not_false_eq_true] at hdis
  obtain ⟨⟨h0_1, h0_2⟩, h1_2⟩ := hdis
  walk_at "my enter"
  clear ha hn
  k_steps
  refine ret _ _ (fin_keep (by assumption) (by k_asm)) ?_
  walk_at "my at"

theorem k_disc_a {w : World} {h₀ : Heap} {fr : Option (List Env)} {gd : Option (List Code)} {dp un : Nat} {s : Shared} {R : Result → Shared → Prop} {x dx mp root rd la ld : Nat} {om : Obj} {t1 t2 tk : Tok} {key : Str} {kl : Option Value}
    {kvs : List (Str × Value)} (hom : om.IsDictOf (strKind PR w) kvs) (lo : 3 < mp) (hz : kvs.length ≤ 1000) (hk : valueAt kvs key = some (.ref la))
    (B : Bs w h₀) (O : On h₀ s.heap) (hd : dp < 600) (hu : un < 2000)
    (ha : At s.heap [(x, instObj 121 dx), (dx, dictOf [e_root w t1 root, e_map w t2 mp] 2), (mp, om), (root, lnk rd none (some (.ref la)) (some (.ref la))), (rd, dictOf [] 0), (la, lnk ld kl (some (.ref root)) (some (.ref root))), (ld, dictOf [] 0)]) (hn : New0 h₀ [(x, instObj 121 dx), (dx, dictOf [e_root w t1 root, e_map w t2 mp] 2), (mp, om), (root, lnk rd none (some (.ref la)) (some (.ref la))), (rd, dictOf [] 0), (la, lnk ld kl (some (.ref root)) (some (.ref root))), (ld, dictOf [] 0)])
    (hdis : [x, dx, mp, root, rd, la, ld].Nodup)
    (ret : ∀ h2 tk2 o2, Kp [x, dx, mp, root, rd, la, ld] s.heap h2 → At h2 [(x, instObj 121 dx), (dx, dictOf [e_root w t1 root, e_map w t2 mp] 2), (mp, o2), (root, lnk rd none (some (.ref root)) (some (.ref root))), (rd, dictOf [] 0)] → o2.IsDictOf (strKind PR w) (without kvs key) → R (.ok (.ret .none)) { s with heap := h2, toks := tk2 }) :
    codeAny (model PR w) (k_A fr gd dp un) (.call (.ref 75) ⟨[.ref x, .str key tk], []⟩) R s := by
  simp only [List.nodup_cons, List.mem_cons, List.not_mem_nil, or_false, not_or, List.nodup_nil, and_true, not_false_eq_true] at hdis
  obtain ⟨⟨h0_1, h0_2, h0_3, h0_4, h0_5, h0_6⟩, ⟨h1_2, h1_3, h1_4, h1_5, h1_6⟩, ⟨h2_3, h2_4, h2_5, h2_6⟩, ⟨h3_4, h3_5, h3_6⟩, ⟨h4_5, h4_6⟩, h5_6⟩ := hdis
  walk_at "my enter"
  clear ha hn
  k_steps
  refine ret _ _ _ (fin_keep (by assumption) (by k_asm)) ?_ (by assumption)
  walk_at "my at"

theorem k_disc_b {w : World} {h₀ : Heap} {fr : Option (List Env)} {gd : Option (List Code)} {dp un : Nat} {s : Shared} {R : Result → Shared → Prop} {x dx mp root rd q qd la ld : Nat} {om : Obj} {t1 t2 tk : Tok} {key : Str} {kl : Option Value} {rp : Option Value} {qk qn : Option Value}
    {kvs : List (Str × Value)} (hom : om.IsDictOf (strKind PR w) kvs) (lo : 3 < mp) (hz : kvs.length ≤ 1000) (hk : valueAt kvs key = some (.ref la))
    (B : Bs w h₀) (O : On h₀ s.heap) (hd : dp < 600) (hu : un < 2000)
    (ha : At s.heap [(x, instObj 121 dx), (dx, dictOf [e_root w t1 root, e_map w t2 mp] 2), (mp, om), (root, lnk rd none (some (.ref la)) rp), (rd, dictOf [] 0), (q, lnk qd qk qn (some (.ref la))), (qd, dictOf [] 0), (la, lnk ld kl (some (.ref q)) (some (.ref root))), (ld, dictOf [] 0)]) (hn : New0 h₀ [(x, instObj 121 dx), (dx, dictOf [e_root w t1 root, e_map w t2 mp] 2), (mp, om), (root, lnk rd none (some (.ref la)) rp), (rd, dictOf [] 0), (q, lnk qd qk qn (some (.ref la))), (qd, dictOf [] 0), (la, lnk ld kl (some (.ref q)) (some (.ref root))), (ld, dictOf [] 0)])
    (hdis : [x, dx, mp, root, rd, q, qd, la, ld].Nodup)
    (ret : ∀ h2 tk2 o2, Kp [x, dx, mp, root, rd, q, qd, la, ld] s.heap h2 → At h2 [(x, instObj 121 dx), (dx, dictOf [e_root w t1 root, e_map w t2 mp] 2), (mp, o2), (root, lnk rd none (some (.ref q)) rp), (rd, dictOf [] 0), (q, lnk qd qk qn (some (.ref root))), (qd, dictOf [] 0)] → o2.IsDictOf (strKind PR w) (without kvs key) → R (.ok (.ret .none)) { s with heap := h2, toks := tk2 }) :
    codeAny (model PR w) (k_A fr gd dp un) (.call (.ref 75) ⟨[.ref x, .str key tk], []⟩) R s := by
  simp only [List.nodup_cons, List.mem_cons, List.not_mem_nil, or_false, not_or, List.nodup_nil, and_true, not_false_eq_true] at hdis
  obtain ⟨⟨h0_1, h0_2, h0_3, h0_4, h0_5, h0_6, h0_7, h0_8⟩, ⟨h1_2, h1_3, h1_4, h1_5, h1_6, h1_7, h1_8⟩, ⟨h2_3, h2_4, h2_5, h2_6, h2_7, h2_8⟩, ⟨h3_4, h3_5, h3_6, h3_7, h3_8⟩, ⟨h4_5, h4_6, h4_7, h4_8⟩, ⟨h5_6, h5_7, h5_8⟩, ⟨h6_7, h6_8⟩, h7_8⟩ := hdis
  walk_at "my enter"
  clear ha hn
  k_steps
  refine ret _ _ _ (fin_keep (by assumption) (by k_asm)) ?_ (by assumption)
  walk_at "my at"

theorem k_disc_c {w : World} {h₀ : Heap} {fr : Option (List Env)} {gd : Option (List Code)} {dp un : Nat} {s : Shared} {R : Result → Shared → Prop} {x dx mp root rd p pd la ld : Nat} {om : Obj} {t1 t2 tk : Tok} {key : Str} {kl : Option Value} {rn : Option Value} {pk pp : Option Value}
    {kvs : List (Str × Value)} (hom : om.IsDictOf (strKind PR w) kvs) (lo : 3 < mp) (hz : kvs.length ≤ 1000) (hk : valueAt kvs key = some (.ref la))
    (B : Bs w h₀) (O : On h₀ s.heap) (hd : dp < 600) (hu : un < 2000)
    (ha : At s.heap [(x, instObj 121 dx), (dx, dictOf [e_root w t1 root, e_map w t2 mp] 2), (mp, om), (root, lnk rd none rn (some (.ref la))), (rd, dictOf [] 0), (p, lnk pd pk (some (.ref la)) pp), (pd, dictOf [] 0), (la, lnk ld kl (some (.ref root)) (some (.ref p))), (ld, dictOf [] 0)]) (hn : New0 h₀ [(x, instObj 121 dx), (dx, dictOf [e_root w t1 root, e_map w t2 mp] 2), (mp, om), (root, lnk rd none rn (some (.ref la))), (rd, dictOf [] 0), (p, lnk pd pk (some (.ref la)) pp), (pd, dictOf [] 0), (la, lnk ld kl (some (.ref root)) (some (.ref p))), (ld, dictOf [] 0)])
    (hdis : [x, dx, mp, root, rd, p, pd, la, ld].Nodup)
    (ret : ∀ h2 tk2 o2, Kp [x, dx, mp, root, rd, p, pd, la, ld] s.heap h2 → At h2 [(x, instObj 121 dx), (dx, dictOf [e_root w t1 root, e_map w t2 mp] 2), (mp, o2), (root, lnk rd none rn (some (.ref p))), (rd, dictOf [] 0), (p, lnk pd pk (some (.ref root)) pp), (pd, dictOf [] 0)] → o2.IsDictOf (strKind PR w) (without kvs key) → R (.ok (.ret .none)) { s with heap := h2, toks := tk2 }) :
    codeAny (model PR w) (k_A fr gd dp un) (.call (.ref 75) ⟨[.ref x, .str key tk], []⟩) R s := by
  simp only [List.nodup_cons, List.mem_cons, List.not_mem_nil, or_false, not_or, List.nodup_nil, and_true, not_false_eq_true] at hdis
  obtain ⟨⟨h0_1, h0_2, h0_3, h0_4, h0_5, h0_6, h0_7, h0_8⟩, ⟨h1_2, h1_3, h1_4, h1_5, h1_6, h1_7, h1_8⟩, ⟨h2_3, h2_4, h2_5, h2_6, h2_7, h2_8⟩, ⟨h3_4, h3_5, h3_6, h3_7, h3_8⟩, ⟨h4_5, h4_6, h4_7, h4_8⟩, ⟨h5_6, h5_7, h5_8⟩, ⟨h6_7, h6_8⟩, h7_8⟩ := hdis
  walk_at "my enter"
  clear ha hn
  k_steps
  refine ret _ _ _ (fin_keep (by assumption) (by k_asm)) ?_ (by assumption)
  walk_at "my at"

theorem k_disc_d {w : World} {h₀ : Heap} {fr : Option (List Env)} {gd : Option (List Code)} {dp un : Nat} {s : Shared} {R : Result → Shared → Prop} {x dx mp root rd p pd q qd la ld : Nat} {om : Obj} {t1 t2 tk : Tok} {key : Str} {kl : Option Value} {rn : Option Value} {rp : Option Value} {pk pp : Option Value} {qk qn : Option Value}
    {kvs : List (Str × Value)} (hom : om.IsDictOf (strKind PR w) kvs) (lo : 3 < mp) (hz : kvs.length ≤ 1000) (hk : valueAt kvs key = some (.ref la))
    (B : Bs w h₀) (O : On h₀ s.heap) (hd : dp < 600) (hu : un < 2000)
    (ha : At s.heap [(x, instObj 121 dx), (dx, dictOf [e_root w t1 root, e_map w t2 mp] 2), (mp, om), (root, lnk rd none rn rp), (rd, dictOf [] 0), (p, lnk pd pk (some (.ref la)) pp), (pd, dictOf [] 0), (q, lnk qd qk qn (some (.ref la))), (qd, dictOf [] 0), (la, lnk ld kl (some (.ref q)) (some (.ref p))), (ld, dictOf [] 0)]) (hn : New0 h₀ [(x, instObj 121 dx), (dx, dictOf [e_root w t1 root, e_map w t2 mp] 2), (mp, om), (root, lnk rd none rn rp), (rd, dictOf [] 0), (p, lnk pd pk (some (.ref la)) pp), (pd, dictOf [] 0), (q, lnk qd qk qn (some (.ref la))), (qd, dictOf [] 0), (la, lnk ld kl (some (.ref q)) (some (.ref p))), (ld, dictOf [] 0)])
    (hdis : [x, dx, mp, root, rd, p, pd, q, qd, la, ld].Nodup)
    (ret : ∀ h2 tk2 o2, Kp [x, dx, mp, root, rd, p, pd, q, qd, la, ld] s.heap h2 → At h2 [(x, instObj 121 dx), (dx, dictOf [e_root w t1 root, e_map w t2 mp] 2), (mp, o2), (root, lnk rd none rn rp), (rd, dictOf [] 0), (p, lnk pd pk (some (.ref q)) pp), (pd, dictOf [] 0), (q, lnk qd qk qn (some (.ref p))), (qd, dictOf [] 0)] → o2.IsDictOf (strKind PR w) (without kvs key) → R (.ok (.ret .none)) { s with heap := h2, toks := tk2 }) :
    codeAny (model PR w) (k_A fr gd dp un) (.call (.ref 75) ⟨[.ref x, .str key tk], []⟩) R s := by
  simp only [List.nodup_cons, List.mem_cons, List.not_mem_nil, or_false, not_or, List.nodup_nil, and_true, not_false_eq_true] at hdis
  obtain ⟨⟨h0_1, h0_2, h0_3, h0_4, h0_5, h0_6, h0_7, h0_8, h0_9, h0_10⟩, ⟨h1_2, h1_3, h1_4, h1_5, h1_6, h1_7, h1_8, h1_9, h1_10⟩, ⟨h2_3, h2_4, h2_5, h2_6, h2_7, h2_8, h2_9, h2_10⟩, ⟨h3_4, h3_5, h3_6, h3_7, h3_8, h3_9, h3_10⟩, ⟨h4_5, h4_6, h4_7, h4_8, h4_9, h4_10⟩, ⟨h5_6, h5_7, h5_8, h5_9, h5_10⟩, ⟨h6_7, h6_8, h6_9, h6_10⟩, ⟨h7_8, h7_9, h7_10⟩, ⟨h8_9, h8_10⟩, h9_10⟩ := hdis
  walk_at "my enter"
  clear ha hn
  k_steps
  refine ret _ _ _ (fin_keep (by assumption) (by k_asm)) ?_ (by assumption)
  walk_at "my at"
end Mine
set_option Elab.async false
set_option maxRecDepth 100000
set_option maxHeartbeats 1000000
namespace Mine
open PySem PySem.W PyProof.Rows PySem.Calls

structure Nd where
  la : Nat
  ld : Nat
  key : Str
  tok : Tok
structure SetI where
  dx : Nat
  mp : Nat
  root : Nat
  rd : Nat
  t1 : Tok
  t2 : Tok
  l : List Nd
def SetI.keys (i : SetI) : List Str := i.l.map (·.key)
def SetI.fp (a : Nat) (i : SetI) : List Nat := a :: i.dx :: i.mp :: i.root :: i.rd :: (i.l.map (·.la) ++ i.l.map (·.ld))
def kvsOf (l : List Nd) : List (Str × Value) := l.map fun n => (n.key, .ref n.la)

def Chain (nx pv : Nat → Nat) : List Nat → Prop
  | a :: b :: r => nx a = b ∧ pv b = a ∧ Chain nx pv (b :: r)
  | _ => True

theorem Chain.congr {nx pv nx' pv' : Nat → Nat} : ∀ {l : List Nat}, (∀ a ∈ l.dropLast, nx' a = nx a) → (∀ b ∈ l.tail, pv' b = pv b) → Chain nx pv l → Chain nx' pv' l
  | [], _, _, _ => trivial
  | [_], _, _, _ => trivial
  | a :: b :: r, h1, h2, ⟨x, y, z⟩ => by
    refine ⟨(h1 a (by simp [List.dropLast])).trans x, (h2 b (by simp)).trans y, Chain.congr (fun c hc => h1 c ?_) (fun c hc => h2 c ?_) z⟩
    · simp only [List.dropLast_cons_cons, List.mem_cons]; exact .inr hc
    · simp only [List.tail_cons] at hc ⊢; exact List.mem_cons_of_mem _ hc
theorem Chain.append {nx pv : Nat → Nat} {a : Nat} : ∀ {l1 l2 : List Nat}, Chain nx pv (l1 ++ a :: l2) ↔ Chain nx pv (l1 ++ [a]) ∧ Chain nx pv (a :: l2)
  | [], l2 => by simp [Chain]
  | [b], l2 => by
    show (nx b = a ∧ pv a = b ∧ Chain nx pv (a :: l2)) ↔ (nx b = a ∧ pv a = b ∧ True) ∧ Chain nx pv (a :: l2)
    constructor
    · rintro ⟨x, y, z⟩; exact ⟨⟨x, y, trivial⟩, z⟩
    · rintro ⟨⟨x, y, _⟩, z⟩; exact ⟨x, y, z⟩
  | b :: c :: r, l2 => by
    have ih := Chain.append (nx := nx) (pv := pv) (a := a) (l1 := c :: r) (l2 := l2)
    show (nx b = c ∧ pv c = b ∧ Chain nx pv ((c :: r) ++ a :: l2)) ↔ (nx b = c ∧ pv c = b ∧ Chain nx pv ((c :: r) ++ [a])) ∧ Chain nx pv (a :: l2)
    rw [ih]
    constructor
    · rintro ⟨x, y, z, t⟩; exact ⟨⟨x, y, z⟩, t⟩
    · rintro ⟨⟨x, y, z⟩, t⟩; exact ⟨x, y, z, t⟩
theorem Chain.get {nx pv : Nat → Nat} : ∀ {l : List Nat} {i : Nat} {a b : Nat}, Chain nx pv l → l[i]? = some a → l[i + 1]? = some b → nx a = b ∧ pv b = a
  | [], _, _, _, _, h, _ => by cases h
  | [_], i, _, _, _, _, h => by cases i <;> cases h
  | x :: y :: r, 0, a, b, h, ha, hb => by
    simp only [List.getElem?_cons_zero, Option.some.injEq, List.getElem?_cons_succ] at ha hb
    subst ha hb
    exact ⟨h.1, h.2.1⟩
  | x :: y :: r, i + 1, a, b, h, ha, hb => by
    simp only [List.getElem?_cons_succ] at ha
    exact Chain.get (l := y :: r) (i := i) h.2.2 (by simpa using ha) (by simpa using hb)

def HP (h : Heap) : Nat → Obj → Prop := fun b o => h.get? b = some o

structure OSet (w : World) (h₀ : Heap) (P : Nat → Obj → Prop) (a : Nat) (i : SetI) : Prop where
  ox : P a (instObj 121 i.dx)
  od : P i.dx (dictOf [e_root w i.t1 i.root, e_map w i.t2 i.mp] 2)
  om : ∃ o, P i.mp o ∧ o.IsDictOf (strKind PR w) (kvsOf i.l)
  lo : 3 < i.mp
  links : ∃ nx pv : Nat → Nat, P i.root (lnk i.rd none (some (.ref (nx i.root))) (some (.ref (pv i.root)))) ∧ P i.rd (dictOf [] 0) ∧
    (∀ n ∈ i.l, P n.la (lnk n.ld (some (.str n.key n.tok)) (some (.ref (nx n.la))) (some (.ref (pv n.la)))) ∧ P n.ld (dictOf [] 0)) ∧
    Chain nx pv (i.root :: i.l.map (·.la) ++ [i.root])
  nd : (i.fp a).Nodup
  fr : ∀ b ∈ i.fp a, h₀.get? b = none

section
variable {w : World} {h₀ : Heap} {P P' : Nat → Obj → Prop} {a : Nat} {i : SetI}
theorem fp_la {n : Nd} (hn : n ∈ i.l) : n.la ∈ i.fp a := by
  unfold SetI.fp; simp only [List.mem_cons, List.mem_append]; exact .inr (.inr (.inr (.inr (.inr (.inl (List.mem_map_of_mem hn))))))
theorem fp_ld {n : Nd} (hn : n ∈ i.l) : n.ld ∈ i.fp a := by
  unfold SetI.fp; simp only [List.mem_cons, List.mem_append]; exact .inr (.inr (.inr (.inr (.inr (.inr (List.mem_map_of_mem hn))))))
theorem fp_a : a ∈ i.fp a := by unfold SetI.fp; simp
theorem fp_dx : i.dx ∈ i.fp a := by unfold SetI.fp; simp
theorem fp_mp : i.mp ∈ i.fp a := by unfold SetI.fp; simp
theorem fp_root : i.root ∈ i.fp a := by unfold SetI.fp; simp
theorem fp_rd : i.rd ∈ i.fp a := by unfold SetI.fp; simp
theorem OSet.mono (S : OSet w h₀ P a i) (h : ∀ b ∈ i.fp a, ∀ o, P b o → P' b o) : OSet w h₀ P' a i := by
  obtain ⟨ox, od, ⟨o, om, hd⟩, lo, ⟨nx, pv, l1, l2, l3, l4⟩, nd, fr⟩ := S
  exact ⟨h _ fp_a _ ox, h _ fp_dx _ od, ⟨o, h _ fp_mp _ om, hd⟩, lo, ⟨nx, pv, h _ fp_root _ l1, h _ fp_rd _ l2, fun n hn => ⟨h _ (fp_la hn) _ (l3 n hn).1, h _ (fp_ld hn) _ (l3 n hn).2⟩, l4⟩, nd, fr⟩
theorem OSet.kp {h h' : Heap} {as : List Nat} (S : OSet w h₀ (HP h) a i) (k : Kp as h h') (hd : ∀ b ∈ i.fp a, b ∉ as) : OSet w h₀ (HP h') a i := S.mono fun b hb o e => k b o (hd b hb) e
theorem OSet.on {h h' : Heap} (S : OSet w h₀ (HP h) a i) (k : On h h') : OSet w h₀ (HP h') a i := S.mono fun b _ o e => k b o e
theorem OSet.alive {h : Heap} (S : OSet w h₀ (HP h) a i) : ∀ b ∈ i.fp a, ∃ o, h.get? b = some o := by
  obtain ⟨ox, od, ⟨o, om, hd⟩, lo, ⟨nx, pv, l1, l2, l3, l4⟩, nd, fr⟩ := S
  intro b hb
  unfold SetI.fp at hb
  simp only [List.mem_cons, List.mem_append, List.mem_map] at hb
  rcases hb with rfl | rfl | rfl | rfl | rfl | ⟨n, hn, rfl⟩ | ⟨n, hn, rfl⟩
  · exact ⟨_, ox⟩
  · exact ⟨_, od⟩
  · exact ⟨_, om⟩
  · exact ⟨_, l1⟩
  · exact ⟨_, l2⟩
  · exact ⟨_, (l3 n hn).1⟩
  · exact ⟨_, (l3 n hn).2⟩
theorem keys_nodup (S : OSet w h₀ P a i) : i.keys.Nodup := by
  obtain ⟨o, _, es, ep, _, _, _, _, hn⟩ := S.om
  have e : (kvsOf i.l).map (·.1) = i.keys := by unfold kvsOf SetI.keys; rw [List.map_map]; rfl
  rwa [e] at hn
end

theorem valueAt_none {l : List Nd} {k : Str} (h : k ∉ l.map (·.key)) : valueAt (kvsOf l) k = none := by
  unfold valueAt kvsOf
  rw [List.find?_map]
  rw [Option.map_map, Option.map_eq_none_iff]
  rw [List.find?_eq_none]
  intro n hn
  simp only [Function.comp, decide_eq_true_eq]
  intro e
  exact h (List.mem_map.mpr ⟨n, hn, e⟩)
theorem valueAt_some {l l1 l2 : List Nd} {n : Nd} (hl : l = l1 ++ n :: l2) (h : n.key ∉ l1.map (·.key)) : valueAt (kvsOf l) n.key = some (.ref n.la) := by
  subst hl
  unfold valueAt kvsOf
  rw [List.find?_map, Option.map_map]
  rw [List.find?_append]
  have : l1.find? ((fun kv : Str × Value => decide (kv.1 = n.key)) ∘ fun n : Nd => (n.key, Value.ref n.la)) = none := by
    rw [List.find?_eq_none]
    intro m hm
    simp only [Function.comp, decide_eq_true_eq]
    intro e
    exact h (List.mem_map.mpr ⟨m, hm, e⟩)
  rw [this, Option.none_or, List.find?_cons]
  simp
theorem stored_new {l : List Nd} {k : Str} {v : Value} (h : k ∉ l.map (·.key)) : stored (kvsOf l) k v = kvsOf l ++ [(k, v)] := by
  unfold stored
  rw [if_neg]
  simp only [List.any_eq_true, kvsOf, List.mem_map, decide_eq_true_eq, not_exists, not_and]
  rintro ⟨k', v'⟩ ⟨n, hn, e⟩ e2
  cases e
  exact h (List.mem_map.mpr ⟨n, hn, e2⟩)
theorem without_mid {l1 l2 : List Nd} {n : Nd} (h : ((l1 ++ n :: l2).map (·.key)).Nodup) : without (kvsOf (l1 ++ n :: l2)) n.key = kvsOf (l1 ++ l2) := by
  unfold without kvsOf
  rw [List.filter_map, List.filter_append, List.filter_cons]
  simp only [List.map_append, List.map_cons, List.nodup_append, List.nodup_cons, List.mem_cons, List.mem_map] at h
  obtain ⟨_, ⟨h2, _⟩, h3⟩ := h
  have e1 : l1.filter ((fun kv : Str × Value => decide (kv.1 ≠ n.key)) ∘ fun n : Nd => (n.key, Value.ref n.la)) = l1 := by
    rw [List.filter_eq_self]
    intro m hm
    simp only [Function.comp, decide_eq_true_eq]
    exact fun e => h3 m.key ⟨m, hm, rfl⟩ n.key (.inl rfl) e
  have e2 : l2.filter ((fun kv : Str × Value => decide (kv.1 ≠ n.key)) ∘ fun n : Nd => (n.key, Value.ref n.la)) = l2 := by
    rw [List.filter_eq_self]
    intro m hm
    simp only [Function.comp, decide_eq_true_eq]
    exact fun e => h2 ⟨m, hm, e⟩
  rw [e1, e2, if_neg (by simp)]
end Mine
set_option Elab.async false
set_option maxRecDepth 100000
set_option maxHeartbeats 1000000
namespace Mine
open PySem PySem.W PyProof.Rows PySem.Calls

section
variable {w : World} {h₀ : Heap} {fr : Option (List Env)} {gd : Option (List Code)} {dp un : Nat} {s : Shared} {R : Result → Shared → Prop} {a : Nat} {i : SetI} {key : Str} {tk : Tok}

theorem led_at {P : Nat → Obj → Prop} (S : OSet w h₀ P a i) : ∃ o, P i.mp o ∧ o.IsDictOf (strKind PR w) (kvsOf i.l) := S.om
theorem kvs_len {l : List Nd} : (kvsOf l).length = l.length := by unfold kvsOf; rw [List.length_map]
theorem at3 {h : Heap} {o : Obj} (S : OSet w h₀ (HP h) a i) (ho : HP h i.mp o) : At h [(a, instObj 121 i.dx), (i.dx, dictOf [e_root w i.t1 i.root, e_map w i.t2 i.mp] 2), (i.mp, o)] := by
  intro p hp
  simp only [List.mem_cons, List.not_mem_nil, or_false] at hp
  rcases hp with rfl | rfl | rfl
  · exact S.ox
  · exact S.od
  · exact ho
theorem new3 {h : Heap} {o : Obj} (S : OSet w h₀ (HP h) a i) : New0 h₀ [(a, instObj 121 i.dx), (i.dx, dictOf [e_root w i.t1 i.root, e_map w i.t2 i.mp] 2), (i.mp, o)] := by
  intro p hp
  simp only [List.mem_cons, List.not_mem_nil, or_false] at hp
  rcases hp with rfl | rfl | rfl
  · exact S.fr _ fp_a
  · exact S.fr _ fp_dx
  · exact S.fr _ fp_mp
theorem nd3 {P : Nat → Obj → Prop} (S : OSet w h₀ P a i) : [a, i.dx, i.mp].Nodup := by
  have := S.nd
  unfold SetI.fp at this
  simp only [List.nodup_cons, List.mem_cons, not_or, List.not_mem_nil, not_false_eq_true, List.nodup_nil, and_true] at this ⊢
  exact ⟨⟨this.1.1, this.1.2.1⟩, this.2.1.1⟩
theorem keep3 {h h' : Heap} {o : Obj} (S : OSet w h₀ (HP h) a i) (ho : HP h i.mp o) (k : Kp [a, i.dx, i.mp] h h') (t : At h' [(a, instObj 121 i.dx), (i.dx, dictOf [e_root w i.t1 i.root, e_map w i.t2 i.mp] 2), (i.mp, o)]) : On h h' := by
  intro b ob e
  by_cases h1 : b = a
  · subst h1
    have := t (b, instObj 121 i.dx) (by simp)
    rw [show h.get? b = some (instObj 121 i.dx) from S.ox] at e
    cases e; exact this
  by_cases h2 : b = i.dx
  · subst h2
    have := t (i.dx, dictOf [e_root w i.t1 i.root, e_map w i.t2 i.mp] 2) (by simp)
    rw [show h.get? i.dx = some _ from S.od] at e
    cases e; exact this
  by_cases h3 : b = i.mp
  · subst h3
    have := t (i.mp, o) (by simp)
    rw [show h.get? i.mp = some _ from ho] at e
    cases e; exact this
  exact k b ob (by simp [h1, h2, h3]) e

/-- len -/
theorem s_len (B : Bs w h₀) (O : On h₀ s.heap) (hd : dp < 600) (hu : un < 2000) (S : OSet w h₀ (HP s.heap) a i) (hz : i.l.length ≤ 900)
    (ret : ∀ h2 tk2 tk3, On s.heap h2 → R (.ok (.ret (.int i.l.length tk3))) { s with heap := h2, toks := tk2 }) :
    codeAny (model PR w) (k_A fr gd dp un) (.call (.ref 54) ⟨[.ref a], []⟩) R s := by
  obtain ⟨o, ho, hdd⟩ := S.om
  exact k_len (root := i.root) hdd S.lo (by rw [kvs_len]; omega) B O hd hu (at3 S ho) (new3 S) (nd3 S) fun h2 tk2 tk3 k t => by
    rw [kvs_len]; exact ret h2 tk2 tk3 (keep3 S ho k t)
/-- in -/
theorem s_contains (B : Bs w h₀) (O : On h₀ s.heap) (hd : dp < 600) (hu : un < 2000) (S : OSet w h₀ (HP s.heap) a i) (hz : i.l.length ≤ 900)
    (ret : ∀ h2 tk2, On s.heap h2 → R (.ok (.ret (.bool (decide (key ∈ i.keys))))) { s with heap := h2, toks := tk2 }) :
    codeAny (model PR w) (k_A fr gd dp un) (.call (.ref 61) ⟨[.ref a, .str key tk], []⟩) R s := by
  obtain ⟨o, ho, hdd⟩ := S.om
  refine k_contains (root := i.root) hdd S.lo (by rw [kvs_len]; omega) B O hd hu (at3 S ho) (new3 S) (nd3 S) fun h2 tk2 k t => ?_
  have e : (valueAt (kvsOf i.l) key).isSome = decide (key ∈ i.keys) := by
    by_cases hk : key ∈ i.keys
    · rw [decide_eq_true hk]
      unfold SetI.keys at hk
      obtain ⟨n, hn, rfl⟩ := List.mem_map.mp hk
      unfold valueAt
      rw [Option.isSome_map, List.find?_isSome]
      exact ⟨(n.key, .ref n.la), List.mem_map.mpr ⟨n, hn, rfl⟩, by simp⟩
    · rw [decide_eq_false hk, valueAt_none hk]; rfl
  rw [e]
  exact ret h2 tk2 (keep3 S ho k t)

theorem key_split {l : List Nd} (hk : key ∈ l.map (·.key)) : ∃ l1 n l2, l = l1 ++ n :: l2 ∧ n.key = key ∧ key ∉ l1.map (·.key) := by
  induction l with
  | nil => cases hk
  | cons m r ih =>
    by_cases e : m.key = key
    · exact ⟨[], m, r, rfl, e, by simp⟩
    · have : key ∈ r.map (·.key) := by
        simp only [List.map_cons, List.mem_cons] at hk
        exact hk.resolve_left fun h => e h.symm
      obtain ⟨l1, n, l2, rfl, h1, h2⟩ := ih this
      exact ⟨m :: l1, n, l2, rfl, h1, by simp only [List.map_cons, List.mem_cons, not_or]; exact ⟨fun h => e h.symm, h2⟩⟩

/-- add of a name that is there -/
theorem s_add1 (B : Bs w h₀) (O : On h₀ s.heap) (hd : dp < 600) (hu : un < 2000) (S : OSet w h₀ (HP s.heap) a i) (hz : i.l.length ≤ 900) (hk : key ∈ i.keys)
    (ret : ∀ h2 tk2, On s.heap h2 → R (.ok (.ret .none)) { s with heap := h2, toks := tk2 }) :
    codeAny (model PR w) (k_A fr gd dp un) (.call (.ref 68) ⟨[.ref a, .str key tk], []⟩) R s := by
  obtain ⟨o, ho, hdd⟩ := S.om
  obtain ⟨l1, n, l2, e, rfl, h2⟩ := key_split hk
  exact k_add1 (root := i.root) hdd S.lo (by rw [kvs_len]; omega) (valueAt_some e h2) B O hd hu (at3 S ho) (new3 S) (nd3 S) fun h2 tk2 k t => ret h2 tk2 (keep3 S ho k t)
theorem s_disc0 (B : Bs w h₀) (O : On h₀ s.heap) (hd : dp < 600) (hu : un < 2000) (S : OSet w h₀ (HP s.heap) a i) (hz : i.l.length ≤ 900) (hk : key ∉ i.keys)
    (ret : ∀ h2 tk2, On s.heap h2 → R (.ok (.ret .none)) { s with heap := h2, toks := tk2 }) :
    codeAny (model PR w) (k_A fr gd dp un) (.call (.ref 75) ⟨[.ref a, .str key tk], []⟩) R s := by
  obtain ⟨o, ho, hdd⟩ := S.om
  exact k_disc0 (root := i.root) hdd S.lo (by rw [kvs_len]; omega) (valueAt_none hk) B O hd hu (at3 S ho) (new3 S) (nd3 S) fun h2 tk2 k t => ret h2 tk2 (keep3 S ho k t)
end
end Mine
set_option Elab.async false
set_option maxRecDepth 100000
set_option maxHeartbeats 1000000
namespace Mine
open PySem PySem.W PyProof.Rows PySem.Calls

def restL (l : List Nd) : List Nat := l.map (·.la) ++ l.map (·.ld)
def baseL (a : Nat) (i : SetI) : List Nat := [a, i.dx, i.mp, i.root, i.rd]
theorem fp_eq (a : Nat) (i : SetI) : i.fp a = baseL a i ++ restL i.l := rfl
def SetI.with (i : SetI) (l : List Nd) : SetI := ⟨i.dx, i.mp, i.root, i.rd, i.t1, i.t2, l⟩
theorem base_with (a : Nat) (i : SetI) (l : List Nd) : baseL a (i.with l) = baseL a i := rfl
theorem rest_perm (l1 l2 : List Nd) (n : Nd) : (restL (l1 ++ n :: l2)).Perm (n.la :: n.ld :: restL (l1 ++ l2)) := by
  refine List.perm_iff_count.mpr fun b => ?_
  unfold restL
  simp only [List.map_append, List.map_cons, List.count_append, List.count_cons]
  omega
theorem fp_perm (a : Nat) (i : SetI) (l1 l2 : List Nd) (n : Nd) : ((i.with (l1 ++ n :: l2)).fp a).Perm (n.la :: n.ld :: (i.with (l1 ++ l2)).fp a) := by
  rw [fp_eq, fp_eq, base_with, base_with]
  show (baseL a i ++ restL (l1 ++ n :: l2)).Perm (n.la :: n.ld :: (baseL a i ++ restL (l1 ++ l2)))
  have h1 := (rest_perm l1 l2 n).append_left (baseL a i)
  refine h1.trans ?_
  refine List.perm_iff_count.mpr fun b => ?_
  simp only [List.count_append, List.count_cons]
  omega
theorem rest_la {l : List Nd} {n : Nd} (h : n ∈ l) : n.la ∈ restL l := List.mem_append_left _ (List.mem_map_of_mem h)
theorem rest_ld {l : List Nd} {n : Nd} (h : n ∈ l) : n.ld ∈ restL l := List.mem_append_right _ (List.mem_map_of_mem h)
theorem nd_split {a : Nat} {i : SetI} (h : (i.fp a).Nodup) : (baseL a i).Nodup ∧ (restL i.l).Nodup ∧ ∀ b ∈ restL i.l, b ∉ baseL a i := by
  rw [fp_eq, List.nodup_append] at h
  exact ⟨h.1, h.2.1, fun b hb hb' => h.2.2 b hb' b hb rfl⟩
theorem base_ne {a : Nat} {i : SetI} (h : (baseL a i).Nodup) : a ≠ i.dx ∧ a ≠ i.mp ∧ a ≠ i.root ∧ a ≠ i.rd ∧ i.dx ≠ i.mp ∧ i.dx ≠ i.root ∧ i.dx ≠ i.rd ∧ i.mp ≠ i.root ∧ i.mp ≠ i.rd ∧ i.root ≠ i.rd := by
  unfold baseL at h
  simp only [List.nodup_cons, List.mem_cons, List.not_mem_nil, or_false, not_or, not_false_eq_true, List.nodup_nil, and_true] at h
  obtain ⟨⟨a1, a2, a3, a4⟩, ⟨a5, a6, a7⟩, ⟨a8, a9⟩, a10⟩ := h
  exact ⟨a1, a2, a3, a4, a5, a6, a7, a8, a9, a10⟩
theorem not_base {a : Nat} {i : SetI} {b : Nat} (h : b ∉ baseL a i) : b ≠ a ∧ b ≠ i.dx ∧ b ≠ i.mp ∧ b ≠ i.root ∧ b ≠ i.rd := by
  unfold baseL at h
  simpa only [List.mem_cons, List.not_mem_nil, or_false, not_or] using h
/-- two places of one row of nodes -/
theorem rest_sep {l1 l2 : List Nd} {n : Nd} (h : (restL (l1 ++ n :: l2)).Nodup) : n.la ≠ n.ld ∧ n.la ∉ restL (l1 ++ l2) ∧ n.ld ∉ restL (l1 ++ l2) ∧ (restL (l1 ++ l2)).Nodup := by
  have := (rest_perm l1 l2 n).nodup_iff.mp h
  simp only [List.nodup_cons, List.mem_cons, not_or] at this
  exact ⟨this.1.1, this.1.2, this.2.1, this.2.2⟩

theorem At.hd {h : Heap} {p : Nat × Obj} {l : Led} (t : At h (p :: l)) : h.get? p.1 = some p.2 := t p (.head _)
theorem At.tl {h : Heap} {p : Nat × Obj} {l : Led} (t : At h (p :: l)) : At h l := fun q hq => t q (.tail _ hq)
theorem at_cons' {h : Heap} {x : Nat} {o : Obj} {l : Led} (e : h.get? x = some o) (t : At h l) : At h ((x, o) :: l) := fun p hp => by
  rcases List.mem_cons.mp hp with rfl | hp
  · exact e
  · exact t p hp
theorem new_nil {h : Heap} : New0 h [] := fun _ hp => nomatch hp
theorem new_cons {h : Heap} {x : Nat} {o : Obj} {l : Led} (e : h.get? x = none) (t : New0 h l) : New0 h ((x, o) :: l) := fun p hp => by
  rcases List.mem_cons.mp hp with rfl | hp
  · exact e
  · exact t p hp
theorem nin5 {b a1 a2 a3 a4 a5 : Nat} (h1 : b ≠ a1) (h2 : b ≠ a2) (h3 : b ≠ a3) (h4 : b ≠ a4) (h5 : b ≠ a5) : b ∉ [a1, a2, a3, a4, a5] := by
  simp only [List.mem_cons, List.not_mem_nil, or_false, not_or]; exact ⟨h1, h2, h3, h4, h5⟩

section
variable {w : World} {h₀ : Heap} {fr : Option (List Env)} {gd : Option (List Code)} {dp un : Nat} {s : Shared} {R : Result → Shared → Prop} {a : Nat} {i : SetI} {key : Str} {tk : Tok}

theorem fp_new {h : Heap} {n : Nd} (S : OSet w h₀ (HP h) a i) (h1 : h.get? n.la = none) (h2 : h.get? n.ld = none) (hne : n.la ≠ n.ld) : ((i.with (i.l ++ [n])).fp a).Nodup := by
  have p := fp_perm a i i.l [] n
  rw [List.append_nil] at p
  rw [p.nodup_iff]
  have e : (i.with i.l).fp a = i.fp a := rfl
  rw [e]
  simp only [List.nodup_cons, List.mem_cons, not_or]
  refine ⟨⟨hne, fun hm => ?_⟩, fun hm => ?_, S.nd⟩
  · obtain ⟨o, ho⟩ := S.alive _ hm; rw [h1] at ho; cases ho
  · obtain ⟨o, ho⟩ := S.alive _ hm; rw [h2] at ho; cases ho

theorem old_none {h : Heap} {x : Nat} (O : On h₀ h) (e : h.get? x = none) : h₀.get? x = none := by
  cases q : h₀.get? x with
  | none => rfl
  | some o' => have := O x o' q; rw [e] at this; cases this

/-- the set behind an add, out of what stands at its places -/
theorem add_final {h h2 : Heap} {n : Nd} {o2 : Obj} {nx pv : Nat → Nat} {p : Nat} (S : OSet w h₀ (HP h) a i) (O : On h₀ h) (hk : n.key ∉ i.keys) (e1 : h.get? n.la = none) (e2 : h.get? n.ld = none) (hne : n.la ≠ n.ld)
    (hd2 : o2.IsDictOf (strKind PR w) (stored (kvsOf i.l) n.key (.ref n.la)))
    (q1 : h2.get? a = some (instObj 121 i.dx)) (q2 : h2.get? i.dx = some (dictOf [e_root w i.t1 i.root, e_map w i.t2 i.mp] 2)) (q3 : h2.get? i.mp = some o2)
    (q4 : h2.get? i.root = some (lnk i.rd none (some (.ref (if i.root = p then n.la else nx i.root))) (some (.ref n.la)))) (q5 : h2.get? i.rd = some (dictOf [] 0))
    (q6 : ∀ m ∈ i.l, h2.get? m.la = some (lnk m.ld (some (.str m.key m.tok)) (some (.ref (if m.la = p then n.la else nx m.la))) (some (.ref (pv m.la)))) ∧ h2.get? m.ld = some (dictOf [] 0))
    (q7 : h2.get? n.la = some (lnk n.ld (some (.str n.key n.tok)) (some (.ref i.root)) (some (.ref p)))) (q8 : h2.get? n.ld = some (dictOf [] 0))
    {pre : List Nat} (hp : i.root :: i.l.map (·.la) = pre ++ [p]) (hc : Chain nx pv (pre ++ [p])) (hpn : (pre ++ [p]).Nodup) :
    OSet w h₀ (HP h2) a (i.with (i.l ++ [n])) := by
  have alive : ∀ b ∈ i.fp a, b ≠ n.la := fun b hb e => by
    obtain ⟨o, ho⟩ := S.alive b hb
    rw [e, e1] at ho; cases ho
  have hr : i.root ≠ n.la := alive _ fp_root
  have hmem : ∀ b ∈ pre ++ [p], b ≠ n.la := fun b hb => by
    rw [← hp] at hb
    rcases List.mem_cons.mp hb with rfl | hb
    · exact hr
    · obtain ⟨m, hm, rfl⟩ := List.mem_map.mp hb
      exact alive _ (fp_la hm)
  have hpn' : p ≠ n.la := hmem p (by simp)
  have hroot : ∀ m ∈ i.l, m.la ≠ i.root := fun m hm => (not_base ((nd_split S.nd).2.2 _ (rest_la hm))).2.2.2.1
  refine ⟨q1, q2, ⟨o2, q3, ?_⟩, S.lo, ⟨fun b => if b = p then n.la else if b = n.la then i.root else nx b, fun b => if b = i.root then n.la else if b = n.la then p else pv b, ?_, q5, ?_, ?_⟩, fp_new S e1 e2 hne, ?_⟩
  · rw [stored_new hk] at hd2
    show o2.IsDictOf _ (kvsOf (i.l ++ [n]))
    unfold kvsOf at hd2 ⊢
    rw [List.map_append]; exact hd2
  · show h2.get? i.root = _
    rw [q4]
    show _ = some (lnk i.rd none (some (.ref (if i.root = p then n.la else if i.root = n.la then i.root else nx i.root))) (some (.ref (if i.root = i.root then n.la else if i.root = n.la then p else pv i.root))))
    rw [if_pos rfl, if_neg hr]
  · intro m hm
    have hm' : m ∈ i.l ∨ m = n := by
      have : m ∈ i.l ++ [n] := hm
      simpa using this
    rcases hm' with hm' | rfl
    · have z1 : m.la ≠ n.la := alive _ (fp_la hm')
      have z2 := hroot m hm'
      show h2.get? m.la = some (lnk m.ld (some (.str m.key m.tok)) (some (.ref (if m.la = p then n.la else if m.la = n.la then i.root else nx m.la))) (some (.ref (if m.la = i.root then n.la else if m.la = n.la then p else pv m.la)))) ∧ _
      rw [if_neg z2, if_neg z1, if_neg z1]
      exact q6 m hm'
    · show h2.get? m.la = some (lnk m.ld (some (.str m.key m.tok)) (some (.ref (if m.la = p then m.la else if m.la = m.la then i.root else nx m.la))) (some (.ref (if m.la = i.root then m.la else if m.la = m.la then p else pv m.la)))) ∧ _
      rw [if_neg hpn'.symm, if_pos rfl, if_neg hr.symm, if_pos rfl]
      exact ⟨q7, q8⟩
  · have e5 : (i.with (i.l ++ [n])).root :: (i.with (i.l ++ [n])).l.map (·.la) ++ [(i.with (i.l ++ [n])).root] = pre ++ p :: [n.la, i.root] := by
      show i.root :: (i.l ++ [n]).map (·.la) ++ [i.root] = _
      rw [List.map_append, ← List.cons_append, hp]; simp
    rw [e5, Chain.append]
    have hpn2 := List.nodup_append.mp hpn
    refine ⟨hc.congr (fun b hb => ?_) (fun b hb => ?_), ?_⟩
    · rw [List.dropLast_concat] at hb
      have z1 : b ≠ p := fun e => hpn2.2.2 b hb p (by simp) e
      have z2 : b ≠ n.la := hmem b (by simp [hb])
      show (if b = p then n.la else if b = n.la then i.root else nx b) = nx b
      rw [if_neg z1, if_neg z2]
    · have hb' : b ∈ i.l.map (·.la) := by
        have : (pre ++ [p]).tail = i.l.map (·.la) := by rw [← hp]; rfl
        rw [← this]; exact hb
      obtain ⟨m, hm, rfl⟩ := List.mem_map.mp hb'
      show (if m.la = i.root then n.la else if m.la = n.la then p else pv m.la) = pv m.la
      rw [if_neg (hroot m hm), if_neg (alive _ (fp_la hm))]
    · show ((if p = p then n.la else if p = n.la then i.root else nx p) = n.la ∧ (if n.la = i.root then n.la else if n.la = n.la then p else pv n.la) = p ∧ (if n.la = p then n.la else if n.la = n.la then i.root else nx n.la) = i.root ∧ (if i.root = i.root then n.la else if i.root = n.la then p else pv i.root) = n.la ∧ True)
      rw [if_pos rfl, if_neg hr.symm, if_pos rfl, if_neg hpn'.symm, if_pos rfl, if_pos rfl]
      exact ⟨rfl, rfl, rfl, rfl, trivial⟩
  · intro b hb
    have pm := fp_perm a i i.l [] n
    rw [List.append_nil] at pm
    have hb' := pm.mem_iff.mp hb
    simp only [List.mem_cons] at hb'
    rcases hb' with rfl | rfl | hb'
    · exact old_none O e1
    · exact old_none O e2
    · exact S.fr b hb'

theorem cyc_nodup {P : Nat → Obj → Prop} (S : OSet w h₀ P a i) : (i.root :: i.l.map (·.la)).Nodup := by
  obtain ⟨nb, nr, nbr⟩ := nd_split S.nd
  rw [List.nodup_cons]
  refine ⟨fun hm => ?_, (List.nodup_append.mp nr).1⟩
  obtain ⟨m, hm, e⟩ := List.mem_map.mp hm
  exact (not_base (nbr _ (rest_la hm))).2.2.2.1 e

theorem s_add (B : Bs w h₀) (O : On h₀ s.heap) (hd : dp < 600) (hu : un < 2000) (S : OSet w h₀ (HP s.heap) a i) (hz : i.l.length ≤ 900) (hk : key ∉ i.keys)
    (ret : ∀ h2 tk2 (n : Nd), n.key = key → Kp (i.fp a) s.heap h2 → s.heap.get? n.la = none → s.heap.get? n.ld = none → OSet w h₀ (HP h2) a (i.with (i.l ++ [n])) → R (.ok (.ret .none)) { s with heap := h2, toks := tk2 }) :
    codeAny (model PR w) (k_A fr gd dp un) (.call (.ref 68) ⟨[.ref a, .str key tk], []⟩) R s := by
  obtain ⟨o, ho, hdd⟩ := S.om
  obtain ⟨nx, pv, l1, l2, l3, l4⟩ := S.links
  obtain ⟨nb, nr, nbr⟩ := nd_split S.nd
  obtain ⟨b1, b2, b3, b4, b5, b6, b7, b8, b9, b10⟩ := base_ne nb
  have hkn := valueAt_none (l := i.l) hk
  have cn := cyc_nodup S
  rcases List.eq_nil_or_concat i.l with hl | ⟨l', z, hl⟩
  · -- empty
    have l4' := l4
    rw [hl] at l4'
    simp only [List.map_nil, List.nil_append, List.cons_append, Chain, and_true] at l4'
    obtain ⟨c1, c2⟩ := l4'
    have l1' := l1
    rw [c1, c2] at l1'
    refine k_add0 (x := a) (dx := i.dx) (mp := i.mp) (root := i.root) (rd := i.rd) (om := o) (t1 := i.t1) (t2 := i.t2) hdd S.lo (by rw [kvs_len]; omega) hkn B O hd hu
      (at_cons' S.ox (at_cons' S.od (at_cons' ho (at_cons' l1' (at_cons' l2 at_nil))))) (new_cons (S.fr _ fp_a) (new_cons (S.fr _ fp_dx) (new_cons (S.fr _ fp_mp) (new_cons (S.fr _ fp_root) (new_cons (S.fr _ fp_rd) new_nil))))) nb ?_
    intro h2 tk2 x2 d2 o2 k e1 e2 hne t hd2
    refine ret h2 tk2 ⟨x2, d2, key, tk⟩ rfl (fun b ob hb e => k b ob (fun hm => hb (by rw [fp_eq, List.mem_append]; exact .inl hm)) e) e1 e2
      (add_final (n := ⟨x2, d2, key, tk⟩) (nx := nx) (pv := pv) (p := i.root) (pre := []) S O hk e1 e2 hne hd2 t.tl.tl.hd t.tl.tl.tl.hd t.tl.tl.tl.tl.hd ?_ t.tl.tl.tl.tl.tl.tl.hd ?_ t.hd t.tl.hd (by rw [hl]; rfl) trivial (by simp))
    · rw [if_pos rfl]; exact t.tl.tl.tl.tl.tl.hd
    · intro m hm; rw [hl] at hm; cases hm
  · -- a last one
    have hl' : i.l = l' ++ [z] := by rw [hl, List.concat_eq_append]
    have hzm : z ∈ i.l := by rw [hl']; simp
    have e4 : i.root :: i.l.map (·.la) ++ [i.root] = (i.root :: l'.map (·.la)) ++ z.la :: [i.root] := by rw [hl']; simp
    have e6 : i.root :: i.l.map (·.la) = (i.root :: l'.map (·.la)) ++ [z.la] := by rw [hl']; simp
    rw [e4, Chain.append] at l4
    obtain ⟨c0, c1, c2, -⟩ := l4
    have nr' : (restL (l' ++ z :: [])).Nodup := by rw [hl'] at nr; exact nr
    obtain ⟨r1, r2, r3, r4⟩ := rest_sep nr'
    rw [List.append_nil] at r2 r3 r4
    obtain ⟨za1, za2, za3, za4, za5⟩ := not_base (nbr _ (rest_la hzm))
    obtain ⟨zd1, zd2, zd3, zd4, zd5⟩ := not_base (nbr _ (rest_ld hzm))
    have lz := l3 z hzm
    have lz1 : s.heap.get? z.la = some (lnk z.ld (some (.str z.key z.tok)) (some (.ref i.root)) (some (.ref (pv z.la)))) := by rw [← c1]; exact lz.1
    have lr : s.heap.get? i.root = some (lnk i.rd none (some (.ref (nx i.root))) (some (.ref z.la))) := by rw [← c2]; exact l1
    refine k_add (x := a) (dx := i.dx) (mp := i.mp) (root := i.root) (rd := i.rd) (la := z.la) (ld := z.ld) (om := o) (t1 := i.t1) (t2 := i.t2) (fl := some (.ref (nx i.root))) (kl := some (.str z.key z.tok)) (pl := some (.ref (pv z.la))) hdd S.lo (by rw [kvs_len]; omega) hkn B O hd hu
      (at_cons' S.ox (at_cons' S.od (at_cons' ho (at_cons' lr (at_cons' l2 (at_cons' lz1 (at_cons' lz.2 at_nil)))))))
      (new_cons (S.fr _ fp_a) (new_cons (S.fr _ fp_dx) (new_cons (S.fr _ fp_mp) (new_cons (S.fr _ fp_root) (new_cons (S.fr _ fp_rd) (new_cons (S.fr _ (fp_la hzm)) (new_cons (S.fr _ (fp_ld hzm)) new_nil))))))) ?_ ?_
    · simp only [List.nodup_cons, List.mem_cons, List.not_mem_nil, or_false, not_or, not_false_eq_true, List.nodup_nil, and_true]
      exact ⟨⟨b1, b2, b3, b4, za1.symm, zd1.symm⟩, ⟨b5, b6, b7, za2.symm, zd2.symm⟩, ⟨b8, b9, za3.symm, zd3.symm⟩, ⟨b10, za4.symm, zd4.symm⟩, ⟨za5.symm, zd5.symm⟩, r1⟩
    · intro h2 tk2 x2 d2 o2 k e1 e2 hne t hd2
      refine ret h2 tk2 ⟨x2, d2, key, tk⟩ rfl (fun b ob hb e => k b ob (fun hm => hb ?_) e) e1 e2
        (add_final (n := ⟨x2, d2, key, tk⟩) (nx := nx) (pv := pv) (p := z.la) (pre := i.root :: l'.map (·.la)) S O hk e1 e2 hne hd2 t.tl.tl.hd t.tl.tl.tl.hd t.tl.tl.tl.tl.hd ?_ t.tl.tl.tl.tl.tl.tl.hd ?_ t.hd t.tl.hd e6 c0 (e6 ▸ cn))
      · simp only [List.mem_cons, List.not_mem_nil, or_false] at hm
        rcases hm with rfl | rfl | rfl | rfl | rfl | rfl | rfl
        · exact fp_a
        · exact fp_dx
        · exact fp_mp
        · exact fp_root
        · exact fp_rd
        · exact fp_la hzm
        · exact fp_ld hzm
      · rw [if_neg za4.symm]; exact t.tl.tl.tl.tl.tl.hd
      · intro m hm
        have hm' : m ∈ l' ∨ m = z := by rw [hl'] at hm; simpa using hm
        rcases hm' with hm' | rfl
        · obtain ⟨n1, n2, n3, n4, n5⟩ := not_base (nbr _ (rest_la hm))
          obtain ⟨m1, m2, m3, m4, m5⟩ := not_base (nbr _ (rest_ld hm))
          have q1 : m.la ≠ z.la := fun e => r2 (e ▸ rest_la hm')
          have q2 : m.la ≠ z.ld := fun e => r3 (e ▸ rest_la hm')
          have q3 : m.ld ≠ z.la := fun e => r2 (e ▸ rest_ld hm')
          have q4 : m.ld ≠ z.ld := fun e => r3 (e ▸ rest_ld hm')
          rw [if_neg q1]
          refine ⟨k _ _ ?_ (l3 m hm).1, k _ _ ?_ (l3 m hm).2⟩
          · simp only [List.mem_cons, List.not_mem_nil, or_false, not_or]; exact ⟨n1, n2, n3, n4, n5, q1, q2⟩
          · simp only [List.mem_cons, List.not_mem_nil, or_false, not_or]; exact ⟨m1, m2, m3, m4, m5, q3, q4⟩
        · rw [if_pos rfl]
          exact ⟨t.tl.tl.tl.tl.tl.tl.tl.hd, t.tl.tl.tl.tl.tl.tl.tl.tl.hd⟩
end
end Mine
set_option Elab.async false
set_option maxRecDepth 100000
set_option maxHeartbeats 1000000
namespace Mine
open PySem PySem.W PyProof.Rows PySem.Calls

section
variable {w : World} {h₀ : Heap} {fr : Option (List Env)} {gd : Option (List Code)} {dp un : Nat} {s : Shared} {R : Result → Shared → Prop} {a : Nat} {i : SetI} {key : Str} {tk : Tok}

theorem disc_final {h h2 : Heap} {n : Nd} {l1 l2 : List Nd} {o2 : Obj} {nx pv : Nat → Nat} {p q : Nat} {pre post : List Nat} (S : OSet w h₀ (HP h) a i) (hl : i.l = l1 ++ n :: l2)
    (hd2 : o2.IsDictOf (strKind PR w) (without (kvsOf i.l) n.key))
    (q1 : h2.get? a = some (instObj 121 i.dx)) (q2 : h2.get? i.dx = some (dictOf [e_root w i.t1 i.root, e_map w i.t2 i.mp] 2)) (q3 : h2.get? i.mp = some o2)
    (q4 : h2.get? i.root = some (lnk i.rd none (some (.ref (if i.root = p then q else nx i.root))) (some (.ref (if i.root = q then p else pv i.root))))) (q5 : h2.get? i.rd = some (dictOf [] 0))
    (q6 : ∀ m ∈ l1 ++ l2, h2.get? m.la = some (lnk m.ld (some (.str m.key m.tok)) (some (.ref (if m.la = p then q else nx m.la))) (some (.ref (if m.la = q then p else pv m.la)))) ∧ h2.get? m.ld = some (dictOf [] 0))
    (hp : i.root :: l1.map (·.la) = pre ++ [p]) (hq : l2.map (·.la) ++ [i.root] = q :: post) (hc : Chain nx pv (i.root :: i.l.map (·.la) ++ [i.root])) :
    OSet w h₀ (HP h2) a (i.with (l1 ++ l2)) := by
  have kn := keys_nodup S
  unfold SetI.keys at kn
  rw [hl] at kn
  have nd' : ((i.with (l1 ++ n :: l2)).fp a).Nodup := by rw [← hl]; exact S.nd
  have pm := fp_perm a i l1 l2 n
  have nd2 := pm.nodup_iff.mp nd'
  simp only [List.nodup_cons, List.mem_cons, not_or] at nd2
  have cn := cyc_nodup S
  rw [hl] at cn
  have ec : i.root :: (l1 ++ n :: l2).map (·.la) = (i.root :: l1.map (·.la)) ++ n.la :: l2.map (·.la) := by simp
  rw [ec, hp] at cn
  -- who is whom
  have hroot2 : i.root ∉ l2.map (·.la) := by
    intro hm
    have h1 : i.root ∈ pre ++ [p] := by rw [← hp]; simp
    exact (List.nodup_append.mp cn).2.2 _ h1 _ (List.mem_cons_of_mem _ hm) rfl
  have hsep : ∀ b ∈ pre ++ [p], b ∉ l2.map (·.la) := fun b hb hm => (List.nodup_append.mp cn).2.2 _ hb _ (List.mem_cons_of_mem _ hm) rfl
  have hn2 : (l2.map (·.la)).Nodup := (List.nodup_cons.mp (List.nodup_append.mp cn).2.1).2
  have hpre : (pre ++ [p]).Nodup := (List.nodup_append.mp cn).1
  have hc' : Chain nx pv (pre ++ p :: (n.la :: q :: post)) := by
    have e : i.root :: i.l.map (·.la) ++ [i.root] = pre ++ p :: (n.la :: q :: post) := by
      rw [hl, ec, hp]; simp only [List.append_assoc, List.cons_append, List.nil_append, hq]
    rw [← e]; exact hc
  rw [Chain.append] at hc'
  obtain ⟨c0, c1, c2, c3, c4, c5⟩ := hc'
  refine ⟨q1, q2, ⟨o2, q3, ?_⟩, S.lo, ⟨fun b => if b = p then q else nx b, fun b => if b = q then p else pv b, q4, q5, q6, ?_⟩, nd2.2.2, fun b hb => S.fr b ?_⟩
  · rw [hl, without_mid kn] at hd2; exact hd2
  · have e5 : (i.with (l1 ++ l2)).root :: (i.with (l1 ++ l2)).l.map (·.la) ++ [(i.with (l1 ++ l2)).root] = pre ++ p :: (q :: post) := by
      show i.root :: (l1 ++ l2).map (·.la) ++ [i.root] = _
      rw [List.map_append, ← List.cons_append, hp]; simp only [List.append_assoc, List.cons_append, List.nil_append, hq]
    rw [e5, Chain.append]
    refine ⟨c0.congr (fun b hb => ?_) (fun b hb => ?_), ?_, ?_, c5.congr (fun b hb => ?_) (fun b hb => ?_)⟩
    · rw [List.dropLast_concat] at hb
      show (if b = p then q else nx b) = nx b
      rw [if_neg fun e => (List.nodup_append.mp hpre).2.2 b hb p (by simp) e]
    · have hb' : b ∈ l1.map (·.la) := by
        have : (pre ++ [p]).tail = l1.map (·.la) := by rw [← hp]; rfl
        rw [← this]; exact hb
      show (if b = q then p else pv b) = pv b
      rw [if_neg]
      rintro rfl
      cases l2 with
      | nil =>
        simp only [List.map_nil, List.nil_append, List.cons.injEq] at hq
        have h9 := hpre
        rw [← hp] at h9
        exact (List.nodup_cons.mp h9).1 (hq.1 ▸ hb')
      | cons z l2' =>
        simp only [List.map_cons, List.cons_append, List.cons.injEq] at hq
        refine hsep b ?_ (by rw [List.map_cons, hq.1]; exact List.mem_cons_self)
        rw [← hp]; exact List.mem_cons_of_mem _ hb'
    · show (if p = p then q else nx p) = q
      rw [if_pos rfl]
    · show (if q = q then p else pv q) = p
      rw [if_pos rfl]
    · have hb' : b ∈ l2.map (·.la) := by rw [← hq, List.dropLast_concat] at hb; exact hb
      show (if b = p then q else nx b) = nx b
      rw [if_neg]
      rintro rfl
      exact hsep b (by simp) hb'
    · show (if b = q then p else pv b) = pv b
      rw [if_neg]
      rintro rfl
      rw [List.tail_cons] at hb
      cases l2 with
      | nil =>
        simp only [List.map_nil, List.nil_append, List.cons.injEq] at hq
        rw [← hq.2] at hb; cases hb
      | cons z l2' =>
        simp only [List.map_cons, List.cons_append, List.cons.injEq] at hq
        rw [← hq.2, List.mem_append, List.mem_singleton] at hb
        rcases hb with hb | rfl
        · rw [List.map_cons] at hn2
          exact (List.nodup_cons.mp hn2).1 (hq.1 ▸ hb)
        · exact hroot2 (by rw [List.map_cons, hq.1]; exact List.mem_cons_self)
  · have hb' := pm.mem_iff.mpr (List.mem_cons_of_mem _ (List.mem_cons_of_mem _ hb))
    have e : i.with (l1 ++ n :: l2) = i := by rw [← hl]; rfl
    rw [e] at hb'; exact hb'

theorem nin0 {x : Nat} : x ∉ ([] : List Nat) := fun h => nomatch h
theorem nin1 {x y : Nat} {l : List Nat} (h : x ≠ y) (t : x ∉ l) : x ∉ y :: l := fun q => (List.mem_cons.mp q).elim h t
theorem ndn : ([] : List Nat).Nodup := .nil
theorem ndc {x : Nat} {l : List Nat} (h : x ∉ l) (t : l.Nodup) : (x :: l).Nodup := List.nodup_cons.mpr ⟨h, t⟩
theorem fp0 {F : List Nat} : ∀ b ∈ ([] : List Nat), b ∈ F := fun _ h => nomatch h
theorem fp1 {F : List Nat} {x : Nat} {l : List Nat} (h : x ∈ F) (t : ∀ b ∈ l, b ∈ F) : ∀ b ∈ x :: l, b ∈ F := fun b q => (List.mem_cons.mp q).elim (fun e => e ▸ h) (t b)
theorem s_disc {l1 l2 : List Nd} {n : Nd} (B : Bs w h₀) (O : On h₀ s.heap) (hd : dp < 600) (hu : un < 2000) (S : OSet w h₀ (HP s.heap) a i) (hz : i.l.length ≤ 900) (hl : i.l = l1 ++ n :: l2)
    (ret : ∀ h2 tk2, Kp (i.fp a) s.heap h2 → OSet w h₀ (HP h2) a (i.with (l1 ++ l2)) → R (.ok (.ret .none)) { s with heap := h2, toks := tk2 }) :
    codeAny (model PR w) (k_A fr gd dp un) (.call (.ref 75) ⟨[.ref a, .str n.key tk], []⟩) R s := by
  obtain ⟨o, ho, hdd⟩ := S.om
  obtain ⟨nx, pv, k1, k2, k3, k4⟩ := S.links
  obtain ⟨nb, nr, nbr⟩ := nd_split S.nd
  obtain ⟨b1, b2, b3, b4, b5, b6, b7, b8, b9, b10⟩ := base_ne nb
  have kn := keys_nodup S
  unfold SetI.keys at kn
  have hkn : valueAt (kvsOf i.l) n.key = some (.ref n.la) := by
    refine valueAt_some hl fun hm => ?_
    rw [hl] at kn
    simp only [List.map_append, List.map_cons, List.nodup_append, List.mem_cons] at kn
    exact kn.2.2 _ hm _ (.inl rfl) rfl
  have hnm : n ∈ i.l := by rw [hl]; simp
  have ln := k3 n hnm
  obtain ⟨na1, na2, na3, na4, na5⟩ := not_base (nbr _ (rest_la hnm))
  obtain ⟨nd1, nd2, nd3, nd4, nd5⟩ := not_base (nbr _ (rest_ld hnm))
  have nr' := nr
  rw [hl] at nr'
  obtain ⟨r1, r2, r3, r4⟩ := rest_sep nr'
  have h12 : ∀ m ∈ l1 ++ l2, m ∈ i.l := fun m hm => by
    rw [hl]
    rcases List.mem_append.mp hm with h | h
    · exact List.mem_append_left _ h
    · exact List.mem_append_right _ (List.mem_cons_of_mem _ h)
  have hmla : ∀ m ∈ l1 ++ l2, m.la ≠ n.la ∧ m.la ≠ n.ld ∧ m.ld ≠ n.la ∧ m.ld ≠ n.ld := fun m hm => ⟨fun e => r2 (e ▸ rest_la hm), fun e => r3 (e ▸ rest_la hm), fun e => r2 (e ▸ rest_ld hm), fun e => r3 (e ▸ rest_ld hm)⟩
  -- the two neighbours
  obtain ⟨pre, p, hp⟩ : ∃ pre p, i.root :: l1.map (·.la) = pre ++ [p] := by
    rcases List.eq_nil_or_concat (i.root :: l1.map (·.la)) with h | ⟨a, b, h⟩
    · cases h
    · exact ⟨a, b, by rw [h, List.concat_eq_append]⟩
  obtain ⟨q, post, hq⟩ : ∃ q post, l2.map (·.la) ++ [i.root] = q :: post := by
    cases l2 with
    | nil => exact ⟨_, _, rfl⟩
    | cons z r => exact ⟨_, _, rfl⟩
  have hc' : Chain nx pv (pre ++ p :: (n.la :: q :: post)) := by
    have e : i.root :: i.l.map (·.la) ++ [i.root] = pre ++ p :: (n.la :: q :: post) := by
      have ec : i.root :: (l1 ++ n :: l2).map (·.la) = (i.root :: l1.map (·.la)) ++ n.la :: l2.map (·.la) := by simp
      rw [hl, ec, hp]; simp only [List.append_assoc, List.cons_append, List.nil_append, hq]
    rw [← e]; exact k4
  rw [Chain.append] at hc'
  obtain ⟨-, c1, c2, c3, c4, -⟩ := hc'
  have ln1 : s.heap.get? n.la = some (lnk n.ld (some (.str n.key n.tok)) (some (.ref q)) (some (.ref p))) := by
    have := ln.1
    rw [c3, c2] at this; exact this
  have fpm : ∀ {b : Nat}, b ∈ i.fp a ↔ b ∈ baseL a i ∨ b ∈ restL i.l := by intro b; rw [fp_eq, List.mem_append]
  have hmm : ∀ m ∈ l1 ++ l2, ∀ h2, Kp (i.fp a) s.heap h2 → True := fun _ _ _ _ => trivial
  rcases List.eq_nil_or_concat l1 with e1 | ⟨l1', pn, e1⟩ <;> rcases l2 with _ | ⟨qn, l2'⟩
  · -- alone
    subst e1
    simp only [List.map_nil] at hp hq
    have hp' : p = i.root := by
      cases pre with
      | nil => simp only [List.nil_append, List.cons.injEq, and_true] at hp; exact hp.symm
      | cons x r => simp at hp
    have hq' : q = i.root := by simp only [List.nil_append, List.cons.injEq] at hq; exact hq.1.symm
    subst hp' hq'
    have k1' := k1
    rw [c1, c4] at k1'
    refine k_disc_a (x := a) (dx := i.dx) (mp := i.mp) (root := i.root) (rd := i.rd) (la := n.la) (ld := n.ld) (om := o) (t1 := i.t1) (t2 := i.t2) (kl := some (.str n.key n.tok)) hdd S.lo (by rw [kvs_len]; omega) hkn B O hd hu
      (at_cons' S.ox (at_cons' S.od (at_cons' ho (at_cons' k1' (at_cons' k2 (at_cons' ln1 (at_cons' ln.2 at_nil)))))))
      (new_cons (S.fr _ fp_a) (new_cons (S.fr _ fp_dx) (new_cons (S.fr _ fp_mp) (new_cons (S.fr _ fp_root) (new_cons (S.fr _ fp_rd) (new_cons (S.fr _ (fp_la hnm)) (new_cons (S.fr _ (fp_ld hnm)) new_nil))))))) ?_ ?_
    · exact ndc (nin1 b1 (nin1 b2 (nin1 b3 (nin1 b4 (nin1 na1.symm (nin1 nd1.symm nin0)))))) (ndc (nin1 b5 (nin1 b6 (nin1 b7 (nin1 na2.symm (nin1 nd2.symm nin0))))) (ndc (nin1 b8 (nin1 b9 (nin1 na3.symm (nin1 nd3.symm nin0)))) (ndc (nin1 b10 (nin1 na4.symm (nin1 nd4.symm nin0))) (ndc (nin1 na5.symm (nin1 nd5.symm nin0)) (ndc (nin1 r1 nin0) (ndc nin0 ndn))))))
    · intro h2 tk2 o2 k t hd2
      refine ret h2 tk2 (fun b ob hb e => k b ob (fun hm => hb ?_) e) (disc_final (n := n) (nx := nx) (pv := pv) (p := i.root) (q := i.root) (l1 := []) (l2 := []) (pre := pre) (post := post) S hl hd2 t.hd t.tl.hd t.tl.tl.hd ?_ t.tl.tl.tl.tl.hd (fun m hm => nomatch hm) hp hq k4)
      · exact fp1 fp_a (fp1 fp_dx (fp1 fp_mp (fp1 fp_root (fp1 fp_rd (fp1 (fp_la hnm) (fp1 (fp_ld hnm) fp0)))))) b hm
      · rw [if_pos rfl, if_pos rfl]; exact t.tl.tl.tl.hd
  · -- the first, others behind
    subst e1
    simp only [List.map_nil] at hp
    have hp' : p = i.root := by
      cases pre with
      | nil => simp only [List.nil_append, List.cons.injEq, and_true] at hp; exact hp.symm
      | cons x r => simp at hp
    have hq' : q = qn.la := by simp only [List.map_cons, List.cons_append, List.cons.injEq] at hq; exact hq.1.symm
    subst hp' hq'
    have hqm : qn ∈ [] ++ qn :: l2' := by simp
    have hqi := h12 qn hqm
    obtain ⟨qa1, qa2, qa3, qa4, qa5⟩ := not_base (nbr _ (rest_la hqi))
    obtain ⟨qd1, qd2, qd3, qd4, qd5⟩ := not_base (nbr _ (rest_ld hqi))
    obtain ⟨qx1, qx2, qx3, qx4⟩ := hmla qn hqm
    obtain ⟨s1, s2, s3, s4⟩ := rest_sep r4
    have kq := k3 qn hqi
    have kq1 : s.heap.get? qn.la = some (lnk qn.ld (some (.str qn.key qn.tok)) (some (.ref (nx qn.la))) (some (.ref n.la))) := by have := kq.1; rw [c4] at this; exact this
    have kr : s.heap.get? i.root = some (lnk i.rd none (some (.ref n.la)) (some (.ref (pv i.root)))) := by have := k1; rw [c1] at this; exact this
    refine k_disc_b (x := a) (dx := i.dx) (mp := i.mp) (root := i.root) (rd := i.rd) (q := qn.la) (qd := qn.ld) (la := n.la) (ld := n.ld) (om := o) (t1 := i.t1) (t2 := i.t2) (kl := some (.str n.key n.tok)) (rp := some (.ref (pv i.root))) (qk := some (.str qn.key qn.tok)) (qn := some (.ref (nx qn.la))) hdd S.lo (by rw [kvs_len]; omega) hkn B O hd hu
      (at_cons' S.ox (at_cons' S.od (at_cons' ho (at_cons' kr (at_cons' k2 (at_cons' kq1 (at_cons' kq.2 (at_cons' ln1 (at_cons' ln.2 at_nil)))))))))
      (new_cons (S.fr _ fp_a) (new_cons (S.fr _ fp_dx) (new_cons (S.fr _ fp_mp) (new_cons (S.fr _ fp_root) (new_cons (S.fr _ fp_rd) (new_cons (S.fr _ (fp_la hqi)) (new_cons (S.fr _ (fp_ld hqi)) (new_cons (S.fr _ (fp_la hnm)) (new_cons (S.fr _ (fp_ld hnm)) new_nil))))))))) ?_ ?_
    · exact ndc (nin1 b1 (nin1 b2 (nin1 b3 (nin1 b4 (nin1 qa1.symm (nin1 qd1.symm (nin1 na1.symm (nin1 nd1.symm nin0)))))))) (ndc (nin1 b5 (nin1 b6 (nin1 b7 (nin1 qa2.symm (nin1 qd2.symm (nin1 na2.symm (nin1 nd2.symm nin0))))))) (ndc (nin1 b8 (nin1 b9 (nin1 qa3.symm (nin1 qd3.symm (nin1 na3.symm (nin1 nd3.symm nin0)))))) (ndc (nin1 b10 (nin1 qa4.symm (nin1 qd4.symm (nin1 na4.symm (nin1 nd4.symm nin0))))) (ndc (nin1 qa5.symm (nin1 qd5.symm (nin1 na5.symm (nin1 nd5.symm nin0)))) (ndc (nin1 s1 (nin1 qx1 (nin1 qx2 nin0))) (ndc (nin1 qx3 (nin1 qx4 nin0)) (ndc (nin1 r1 nin0) (ndc nin0 ndn))))))))
    · intro h2 tk2 o2 k t hd2
      refine ret h2 tk2 (fun b ob hb e => k b ob (fun hm => hb ?_) e) (disc_final (n := n) (nx := nx) (pv := pv) (p := i.root) (q := qn.la) (l1 := []) (l2 := qn :: l2') (pre := pre) (post := post) S hl hd2 t.hd t.tl.hd t.tl.tl.hd ?_ t.tl.tl.tl.tl.hd ?_ hp hq k4)
      · exact fp1 fp_a (fp1 fp_dx (fp1 fp_mp (fp1 fp_root (fp1 fp_rd (fp1 (fp_la hqi) (fp1 (fp_ld hqi) (fp1 (fp_la hnm) (fp1 (fp_ld hnm) fp0)))))))) b hm
      · rw [if_pos rfl, if_neg qa4.symm]; exact t.tl.tl.tl.hd
      · intro m hm
        have hmi := h12 m hm
        obtain ⟨m1, m2, m3, m4, m5⟩ := not_base (nbr _ (rest_la hmi))
        obtain ⟨m1', m2', m3', m4', m5'⟩ := not_base (nbr _ (rest_ld hmi))
        obtain ⟨y1, y2, y3, y4⟩ := hmla m hm
        rcases List.mem_cons.mp (show m ∈ qn :: l2' from hm) with rfl | hm'
        · rw [if_neg m4, if_pos rfl]
          exact ⟨t.tl.tl.tl.tl.tl.hd, t.tl.tl.tl.tl.tl.tl.hd⟩
        · have z1 : m.la ≠ qn.la := fun e => s2 (e ▸ rest_la (show m ∈ [] ++ l2' from hm'))
          have z2 : m.la ≠ qn.ld := fun e => s3 (e ▸ rest_la (show m ∈ [] ++ l2' from hm'))
          have z3 : m.ld ≠ qn.la := fun e => s2 (e ▸ rest_ld (show m ∈ [] ++ l2' from hm'))
          have z4 : m.ld ≠ qn.ld := fun e => s3 (e ▸ rest_ld (show m ∈ [] ++ l2' from hm'))
          rw [if_neg m4, if_neg z1]
          refine ⟨k _ _ ?_ (k3 m hmi).1, k _ _ ?_ (k3 m hmi).2⟩
          · exact nin1 m1 (nin1 m2 (nin1 m3 (nin1 m4 (nin1 m5 (nin1 z1 (nin1 z2 (nin1 y1 (nin1 y2 nin0))))))))
          · exact nin1 m1' (nin1 m2' (nin1 m3' (nin1 m4' (nin1 m5' (nin1 z3 (nin1 z4 (nin1 y3 (nin1 y4 nin0))))))))
  · -- the last, others ahead
    have e1' : l1 = l1' ++ [pn] := by rw [e1, List.concat_eq_append]
    have hp2 : (i.root :: l1'.map (·.la)) ++ [pn.la] = pre ++ [p] := by rw [← hp, e1']; simp
    have hp' : p = pn.la := by
      have := List.append_inj_right' hp2 rfl
      simp only [List.cons.injEq, and_true] at this; exact this.symm
    have hq' : q = i.root := by simp only [List.map_nil, List.nil_append, List.cons.injEq] at hq; exact hq.1.symm
    subst hp' hq'
    have hpm : pn ∈ l1 ++ [] := by rw [e1']; simp
    have hpi := h12 pn hpm
    obtain ⟨pa1, pa2, pa3, pa4, pa5⟩ := not_base (nbr _ (rest_la hpi))
    obtain ⟨pd1, pd2, pd3, pd4, pd5⟩ := not_base (nbr _ (rest_ld hpi))
    obtain ⟨px1, px2, px3, px4⟩ := hmla pn hpm
    have r4' : (restL (l1' ++ pn :: [])).Nodup := by rw [← e1']; simpa using r4
    obtain ⟨s1, s2, s3, s4⟩ := rest_sep r4'
    rw [List.append_nil] at s2 s3
    have kp := k3 pn hpi
    have kp1 : s.heap.get? pn.la = some (lnk pn.ld (some (.str pn.key pn.tok)) (some (.ref n.la)) (some (.ref (pv pn.la)))) := by have := kp.1; rw [c1] at this; exact this
    have kr : s.heap.get? i.root = some (lnk i.rd none (some (.ref (nx i.root))) (some (.ref n.la))) := by have := k1; rw [c4] at this; exact this
    refine k_disc_c (x := a) (dx := i.dx) (mp := i.mp) (root := i.root) (rd := i.rd) (p := pn.la) (pd := pn.ld) (la := n.la) (ld := n.ld) (om := o) (t1 := i.t1) (t2 := i.t2) (kl := some (.str n.key n.tok)) (rn := some (.ref (nx i.root))) (pk := some (.str pn.key pn.tok)) (pp := some (.ref (pv pn.la))) hdd S.lo (by rw [kvs_len]; omega) hkn B O hd hu
      (at_cons' S.ox (at_cons' S.od (at_cons' ho (at_cons' kr (at_cons' k2 (at_cons' kp1 (at_cons' kp.2 (at_cons' ln1 (at_cons' ln.2 at_nil)))))))))
      (new_cons (S.fr _ fp_a) (new_cons (S.fr _ fp_dx) (new_cons (S.fr _ fp_mp) (new_cons (S.fr _ fp_root) (new_cons (S.fr _ fp_rd) (new_cons (S.fr _ (fp_la hpi)) (new_cons (S.fr _ (fp_ld hpi)) (new_cons (S.fr _ (fp_la hnm)) (new_cons (S.fr _ (fp_ld hnm)) new_nil))))))))) ?_ ?_
    · exact ndc (nin1 b1 (nin1 b2 (nin1 b3 (nin1 b4 (nin1 pa1.symm (nin1 pd1.symm (nin1 na1.symm (nin1 nd1.symm nin0)))))))) (ndc (nin1 b5 (nin1 b6 (nin1 b7 (nin1 pa2.symm (nin1 pd2.symm (nin1 na2.symm (nin1 nd2.symm nin0))))))) (ndc (nin1 b8 (nin1 b9 (nin1 pa3.symm (nin1 pd3.symm (nin1 na3.symm (nin1 nd3.symm nin0)))))) (ndc (nin1 b10 (nin1 pa4.symm (nin1 pd4.symm (nin1 na4.symm (nin1 nd4.symm nin0))))) (ndc (nin1 pa5.symm (nin1 pd5.symm (nin1 na5.symm (nin1 nd5.symm nin0)))) (ndc (nin1 s1 (nin1 px1 (nin1 px2 nin0))) (ndc (nin1 px3 (nin1 px4 nin0)) (ndc (nin1 r1 nin0) (ndc nin0 ndn))))))))
    · intro h2 tk2 o2 k t hd2
      refine ret h2 tk2 (fun b ob hb e => k b ob (fun hm => hb ?_) e) (disc_final (n := n) (nx := nx) (pv := pv) (p := pn.la) (q := i.root) (l1 := l1) (l2 := []) (pre := pre) (post := post) S hl hd2 t.hd t.tl.hd t.tl.tl.hd ?_ t.tl.tl.tl.tl.hd ?_ hp hq k4)
      · exact fp1 fp_a (fp1 fp_dx (fp1 fp_mp (fp1 fp_root (fp1 fp_rd (fp1 (fp_la hpi) (fp1 (fp_ld hpi) (fp1 (fp_la hnm) (fp1 (fp_ld hnm) fp0)))))))) b hm
      · rw [if_neg pa4.symm, if_pos rfl]; exact t.tl.tl.tl.hd
      · intro m hm
        have hmi := h12 m hm
        obtain ⟨m1, m2, m3, m4, m5⟩ := not_base (nbr _ (rest_la hmi))
        obtain ⟨m1', m2', m3', m4', m5'⟩ := not_base (nbr _ (rest_ld hmi))
        obtain ⟨y1, y2, y3, y4⟩ := hmla m hm
        have hm2 : m ∈ l1' ∨ m = pn := by rw [e1'] at hm; simpa using hm
        rcases hm2 with hm' | rfl
        · have z1 : m.la ≠ pn.la := fun e => s2 (e ▸ rest_la hm')
          have z2 : m.la ≠ pn.ld := fun e => s3 (e ▸ rest_la hm')
          have z3 : m.ld ≠ pn.la := fun e => s2 (e ▸ rest_ld hm')
          have z4 : m.ld ≠ pn.ld := fun e => s3 (e ▸ rest_ld hm')
          rw [if_neg z1, if_neg m4]
          refine ⟨k _ _ ?_ (k3 m hmi).1, k _ _ ?_ (k3 m hmi).2⟩
          · exact nin1 m1 (nin1 m2 (nin1 m3 (nin1 m4 (nin1 m5 (nin1 z1 (nin1 z2 (nin1 y1 (nin1 y2 nin0))))))))
          · exact nin1 m1' (nin1 m2' (nin1 m3' (nin1 m4' (nin1 m5' (nin1 z3 (nin1 z4 (nin1 y3 (nin1 y4 nin0))))))))
        · rw [if_pos rfl, if_neg m4]
          exact ⟨t.tl.tl.tl.tl.tl.hd, t.tl.tl.tl.tl.tl.tl.hd⟩
  · -- in the middle
    have e1' : l1 = l1' ++ [pn] := by rw [e1, List.concat_eq_append]
    have hp2 : (i.root :: l1'.map (·.la)) ++ [pn.la] = pre ++ [p] := by rw [← hp, e1']; simp
    have hp' : p = pn.la := by
      have := List.append_inj_right' hp2 rfl
      simp only [List.cons.injEq, and_true] at this; exact this.symm
    have hq' : q = qn.la := by simp only [List.map_cons, List.cons_append, List.cons.injEq] at hq; exact hq.1.symm
    subst hp' hq'
    have hpm : pn ∈ l1 ++ qn :: l2' := by rw [e1']; simp
    have hqm : qn ∈ l1 ++ qn :: l2' := by simp
    have hpi := h12 pn hpm
    have hqi := h12 qn hqm
    obtain ⟨pa1, pa2, pa3, pa4, pa5⟩ := not_base (nbr _ (rest_la hpi))
    obtain ⟨pd1, pd2, pd3, pd4, pd5⟩ := not_base (nbr _ (rest_ld hpi))
    obtain ⟨px1, px2, px3, px4⟩ := hmla pn hpm
    obtain ⟨qa1, qa2, qa3, qa4, qa5⟩ := not_base (nbr _ (rest_la hqi))
    obtain ⟨qd1, qd2, qd3, qd4, qd5⟩ := not_base (nbr _ (rest_ld hqi))
    obtain ⟨qx1, qx2, qx3, qx4⟩ := hmla qn hqm
    obtain ⟨s1, s2, s3, s4⟩ := rest_sep r4
    have s4' : (restL (l1' ++ pn :: l2')).Nodup := by rw [e1'] at s4; simpa using s4
    obtain ⟨u1, u2, u3, u4⟩ := rest_sep s4'
    have hpm' : pn ∈ l1 ++ l2' := by rw [e1']; simp
    have v1 : pn.la ≠ qn.la := fun e => s2 (e ▸ rest_la hpm')
    have v2 : pn.la ≠ qn.ld := fun e => s3 (e ▸ rest_la hpm')
    have v3 : pn.ld ≠ qn.la := fun e => s2 (e ▸ rest_ld hpm')
    have v4 : pn.ld ≠ qn.ld := fun e => s3 (e ▸ rest_ld hpm')
    have kp := k3 pn hpi
    have kq := k3 qn hqi
    have kp1 : s.heap.get? pn.la = some (lnk pn.ld (some (.str pn.key pn.tok)) (some (.ref n.la)) (some (.ref (pv pn.la)))) := by have := kp.1; rw [c1] at this; exact this
    have kq1 : s.heap.get? qn.la = some (lnk qn.ld (some (.str qn.key qn.tok)) (some (.ref (nx qn.la))) (some (.ref n.la))) := by have := kq.1; rw [c4] at this; exact this
    refine k_disc_d (x := a) (dx := i.dx) (mp := i.mp) (root := i.root) (rd := i.rd) (p := pn.la) (pd := pn.ld) (q := qn.la) (qd := qn.ld) (la := n.la) (ld := n.ld) (om := o) (t1 := i.t1) (t2 := i.t2) (kl := some (.str n.key n.tok)) (rn := some (.ref (nx i.root))) (rp := some (.ref (pv i.root))) (pk := some (.str pn.key pn.tok)) (pp := some (.ref (pv pn.la))) (qk := some (.str qn.key qn.tok)) (qn := some (.ref (nx qn.la))) hdd S.lo (by rw [kvs_len]; omega) hkn B O hd hu
      (at_cons' S.ox (at_cons' S.od (at_cons' ho (at_cons' k1 (at_cons' k2 (at_cons' kp1 (at_cons' kp.2 (at_cons' kq1 (at_cons' kq.2 (at_cons' ln1 (at_cons' ln.2 at_nil)))))))))))
      (new_cons (S.fr _ fp_a) (new_cons (S.fr _ fp_dx) (new_cons (S.fr _ fp_mp) (new_cons (S.fr _ fp_root) (new_cons (S.fr _ fp_rd) (new_cons (S.fr _ (fp_la hpi)) (new_cons (S.fr _ (fp_ld hpi)) (new_cons (S.fr _ (fp_la hqi)) (new_cons (S.fr _ (fp_ld hqi)) (new_cons (S.fr _ (fp_la hnm)) (new_cons (S.fr _ (fp_ld hnm)) new_nil))))))))))) ?_ ?_
    · exact ndc (nin1 b1 (nin1 b2 (nin1 b3 (nin1 b4 (nin1 pa1.symm (nin1 pd1.symm (nin1 qa1.symm (nin1 qd1.symm (nin1 na1.symm (nin1 nd1.symm nin0)))))))))) (ndc (nin1 b5 (nin1 b6 (nin1 b7 (nin1 pa2.symm (nin1 pd2.symm (nin1 qa2.symm (nin1 qd2.symm (nin1 na2.symm (nin1 nd2.symm nin0))))))))) (ndc (nin1 b8 (nin1 b9 (nin1 pa3.symm (nin1 pd3.symm (nin1 qa3.symm (nin1 qd3.symm (nin1 na3.symm (nin1 nd3.symm nin0)))))))) (ndc (nin1 b10 (nin1 pa4.symm (nin1 pd4.symm (nin1 qa4.symm (nin1 qd4.symm (nin1 na4.symm (nin1 nd4.symm nin0))))))) (ndc (nin1 pa5.symm (nin1 pd5.symm (nin1 qa5.symm (nin1 qd5.symm (nin1 na5.symm (nin1 nd5.symm nin0)))))) (ndc (nin1 u1 (nin1 v1 (nin1 v2 (nin1 px1 (nin1 px2 nin0))))) (ndc (nin1 v3 (nin1 v4 (nin1 px3 (nin1 px4 nin0)))) (ndc (nin1 s1 (nin1 qx1 (nin1 qx2 nin0))) (ndc (nin1 qx3 (nin1 qx4 nin0)) (ndc (nin1 r1 nin0) (ndc nin0 ndn))))))))))
    · intro h2 tk2 o2 k t hd2
      refine ret h2 tk2 (fun b ob hb e => k b ob (fun hm => hb ?_) e) (disc_final (n := n) (nx := nx) (pv := pv) (p := pn.la) (q := qn.la) (l1 := l1) (l2 := qn :: l2') (pre := pre) (post := post) S hl hd2 t.hd t.tl.hd t.tl.tl.hd ?_ t.tl.tl.tl.tl.hd ?_ hp hq k4)
      · exact fp1 fp_a (fp1 fp_dx (fp1 fp_mp (fp1 fp_root (fp1 fp_rd (fp1 (fp_la hpi) (fp1 (fp_ld hpi) (fp1 (fp_la hqi) (fp1 (fp_ld hqi) (fp1 (fp_la hnm) (fp1 (fp_ld hnm) fp0)))))))))) b hm
      · rw [if_neg pa4.symm, if_neg qa4.symm]; exact t.tl.tl.tl.hd
      · intro m hm
        have hmi := h12 m hm
        obtain ⟨m1, m2, m3, m4, m5⟩ := not_base (nbr _ (rest_la hmi))
        obtain ⟨m1', m2', m3', m4', m5'⟩ := not_base (nbr _ (rest_ld hmi))
        obtain ⟨y1, y2, y3, y4⟩ := hmla m hm
        have hm2 : m = qn ∨ m = pn ∨ m ∈ l1' ++ l2' := by
          rw [e1'] at hm
          simp only [List.append_assoc, List.mem_append, List.mem_cons, List.not_mem_nil, or_false] at hm
          rw [List.mem_append]
          rcases hm with h | h | h | h
          · exact .inr (.inr (.inl h))
          · exact .inr (.inl h)
          · exact .inl h
          · exact .inr (.inr (.inr h))
        rcases hm2 with rfl | rfl | hm'
        · rw [if_neg v1.symm, if_pos rfl]
          exact ⟨t.tl.tl.tl.tl.tl.tl.tl.hd, t.tl.tl.tl.tl.tl.tl.tl.tl.hd⟩
        · rw [if_pos rfl, if_neg v1]
          exact ⟨t.tl.tl.tl.tl.tl.hd, t.tl.tl.tl.tl.tl.tl.hd⟩
        · have hm3 : m ∈ l1 ++ l2' := by
            rw [e1']
            rcases List.mem_append.mp hm' with h | h
            · exact List.mem_append_left _ (List.mem_append_left _ h)
            · exact List.mem_append_right _ h
          have z1 : m.la ≠ qn.la := fun e => s2 (e ▸ rest_la hm3)
          have z2 : m.la ≠ qn.ld := fun e => s3 (e ▸ rest_la hm3)
          have z3 : m.ld ≠ qn.la := fun e => s2 (e ▸ rest_ld hm3)
          have z4 : m.ld ≠ qn.ld := fun e => s3 (e ▸ rest_ld hm3)
          have z5 : m.la ≠ pn.la := fun e => u2 (e ▸ rest_la hm')
          have z6 : m.la ≠ pn.ld := fun e => u3 (e ▸ rest_la hm')
          have z7 : m.ld ≠ pn.la := fun e => u2 (e ▸ rest_ld hm')
          have z8 : m.ld ≠ pn.ld := fun e => u3 (e ▸ rest_ld hm')
          rw [if_neg z5, if_neg z1]
          refine ⟨k _ _ ?_ (k3 m hmi).1, k _ _ ?_ (k3 m hmi).2⟩
          · exact nin1 m1 (nin1 m2 (nin1 m3 (nin1 m4 (nin1 m5 (nin1 z5 (nin1 z6 (nin1 z1 (nin1 z2 (nin1 y1 (nin1 y2 nin0))))))))))
          · exact nin1 m1' (nin1 m2' (nin1 m3' (nin1 m4' (nin1 m5' (nin1 z7 (nin1 z8 (nin1 z3 (nin1 z4 (nin1 y3 (nin1 y4 nin0))))))))))
end
end Mine
set_option Elab.async false
set_option maxRecDepth 100000
set_option maxHeartbeats 1000000
namespace Mine
open PySem PySem.W PyProof.Rows PySem.Calls PySem.W.X

/-- the ways a generator is woken: what code, tree and frames go on -/
def Wk (gs : GenState) (c : Code) (t : Sem PySem.Fin) (fs : List Frame) : Prop :=
  (gs = .fresh c ∧ t = denote table c ∧ fs = []) ∨ ∃ k₀ l₀ p₀ cl, gs = .suspended k₀ l₀ c p₀ fs cl ∧ t = k₀ (.send .none)

section
variable {w : World} {A : Around} {s : Shared} {c : Code} {fs : List Frame} {P : End → Shared → Prop}

theorem sx_wrap {α : Type} {m : Sem α} {K : α → Sem PySem.Fin} {H : Value → Sem PySem.Fin} {gd lv}
    (h : wpAny (model PR w) (A.over c fs) m (fun a s' => SegX (model PR w) A c (K a) fs s' P) (fun x s' => SegX (model PR w) A c (H x) fs s' P) s) :
    SegX (model PR w) A c (m.wrap K H gd lv) fs s P := by
  rintro Γ p rfl hΓ
  obtain ⟨e, s', hr, hq⟩ := runs_wrap_of_wp (Φ := fun e s' => e.quiet = true ∧ P e s') K H gd lv m (h (Γ.over fs) p (hΓ.over fs)) (fun a p' s' h' => h' Γ p' rfl hΓ) (fun x p' s' h' => h' Γ p' rfl hΓ)
  exact ⟨e, s', hr, hq⟩
theorem sx_bind {α β : Type} {m : Sem α} {f : α → Sem β} {K : β → Sem PySem.Fin} {H : Value → Sem PySem.Fin} {gd lv}
    (h : wpAny (model PR w) (A.over c fs) m (fun a s' => SegX (model PR w) A c ((f a).wrap K H gd lv) fs s' P) (fun x s' => SegX (model PR w) A c (H x) fs s' P) s) :
    SegX (model PR w) A c ((m >>= f).wrap K H gd lv) fs s P := by
  rw [Sem.bind_eq_wrap', Sem.wrap_wrap]; exact sx_wrap h

/-- generator.__next__ upon a generator object: on to the next yield, or the end -/
theorem gnext {a g : Nat} {gs : GenState} {c₀ : Code} {t₀ : Sem PySem.Fin} {fs₀ : List Frame} {Q : Value → Shared → Prop} {E : Value → Shared → Prop} (hh : A.handled = none) (hl : s.heap.NoLimit) (hroom : A.depth < recursionLimit)
    (hg : s.heap.IsGen a g) (hgs : s.gens[g]? = some gs) (hw : Wk gs c₀ t₀ fs₀)
    (x : SegX (model PR w) A.in1 c₀ t₀ fs₀ (s.setGen g .running) (fun e s₁ => match e with
      | .ret r => r = .ok (.ret .none) ∧ ∀ h' e o, On s₁.heap h' → h'.get? e = some o → o.cls = .type "StopIteration" → E (.ref e) { s₁.setGen g .finished with heap := h' }
      | .susp v gd l k c p fs => Q v (s₁.setGen g (.suspended k l c p fs (gd || fs.any Frame.guarded))))) :
    wpAny (model PR w) A (call (.builtin "generator.__next__") [.ref a]) Q E s := by
  refine wpAny_call_entry slot_gen_next hg.typeIs entry_gen_next ?_ (args_gen_next _)
  show wpAny _ _ (Builtin.Generator.genWake (.ref a) (.send .none)) _ _ s
  unfold Builtin.Generator.genWake
  refine wpAny_bind (wpAny_holding (wpAny_genNumber hg (wpAny_bind (wpAny_genState hgs ?_))))
  have wk := fun (k : GenResult → Sem PySem.Fin) (Q' : PySem.Fin → Shared → Prop) (y : SegX (model PR w) A.in1 c₀ t₀ fs₀ (s.setGen g .running) (fun e s₁ => ∀ Γ p, Γ.In A.in1 → Sem.wp (model PR w) Γ (k e.result) (fun a _ s' => Q' a s') (fun e _ s' => E e s') p (s₁.setGen g e.genState))) =>
    wake_any PySem.Fin PR w (A := A.in1) (Q := Q') (E := E) (s := s) (g := g) (gs := gs) (r := .send .none) (l := []) (k := k) (c₀ := c₀) (t₀ := t₀) (fs₀ := fs₀) hgs (by
      rcases hw with ⟨a, b, c⟩ | ⟨k₀, l₀, p₀, cl, a, b⟩
      · exact .inl ⟨a, rfl, b, c⟩
      · exact .inr ⟨k₀, l₀, p₀, cl, a, b⟩) (fun Γ => Γ.In A.in1) (fun _ h => h) y
  rcases hw with ⟨rfl, ht, hf⟩ | ⟨k₀, l₀, p₀, cl, rfl, ht⟩
  all_goals
    refine wpAny_bind (wpAny_roomToWake hl hroom ?_)
    show wpAny _ _ (.resume g (.send .none) [] _) _ _ s
    refine wk _ _ (x.mono fun e s₁ he => ?_)
    rcases e with r | ⟨v, gd, l, k, c, p, fs⟩
    · obtain ⟨rfl, hE⟩ := he
      show wpAny _ _ (newExc (.type "StopIteration") [] >>= _) _ _ _
      refine wpAny_bind ?_
      simp only [newExc, newTuple]
      refine wpAny_bind (wpAny_newObj_type ?_ (by size_fits))
      refine wpAny_bind (m := firstArgMember _ _) (wpAny_of_eq (a := Value.none) (by first | rfl | (simp only [firstArgMember]; rfl)) ?_)
      refine wpAny_newObj_type ?_ (by size_fits)
      simp only [raiseNew]
      refine wpAny_bind (wpAny_bind (wpAny_handled ?_))
      rw [show A.in1.handled = none from hh]
      refine wpAny_throw ?_
      exact hE _ _ _ (fun b o hb => Heap.get?_push_of_some _ (Heap.get?_push_of_some _ hb)) (Heap.get?_push_size _ rfl) rfl
    · exact wpAny_pure ⟨v, rfl, he⟩

theorem pynext {a g : Nat} {gs : GenState} {c₀ : Code} {t₀ : Sem PySem.Fin} {fs₀ : List Frame} {Q : Option Value → Shared → Prop} {E : Value → Shared → Prop} (hh : A.handled = none) (hl : s.heap.NoLimit) (hroom : A.depth < recursionLimit)
    (hg : s.heap.IsGen a g) (hgs : s.gens[g]? = some gs) (hw : Wk gs c₀ t₀ fs₀)
    (x : SegX (model PR w) A.in1 c₀ t₀ fs₀ (s.setGen g .running) (fun e s₁ => match e with
      | .ret r => r = .ok (.ret .none) ∧ ∀ h', On s₁.heap h' → Q none { s₁.setGen g .finished with heap := h' }
      | .susp v gd l k c p fs => Q (some v) (s₁.setGen g (.suspended k l c p fs (gd || fs.any Frame.guarded))))) :
    wpAny (model PR w) A (pyNext (.ref a)) Q E s := by
  unfold pyNext
  refine wpAny_bind (wpAny_attempt (wpAny_callSpecial?_slot (name := Str.ofString "__next__") hg.typeIs slot_gen_next ?_))
  refine gnext hh hl hroom hg hgs hw (x.mono fun e s₁ he => ?_)
  rcases e with r | ⟨v, gd, l, k, c, p, fs⟩
  · refine ⟨he.1, fun h' e o hk ho hc => ?_⟩
    refine wpAny_bind (wpAny_isInstance (T := "StopIteration") (b := true) ⟨o, ho, hc⟩ isSubtype_stop ?_)
    exact wpAny_pure (he.2 h' hk)
  · exact wpAny_pure he
end
end Mine
set_option Elab.async false
set_option maxRecDepth 100000
set_option maxHeartbeats 1000000
namespace Mine
open PySem PySem.W PyProof.Rows PySem.Calls PySem.W.X

section
variable {w : World} {A : Around} {E : Value → Shared → Prop} {s : Shared}

theorem inst_link {b d : Nat} {k n p : Option Value} {h : Heap} (e : h.get? b = some (lnk d k n p)) (e2 : h.get? d = some (dictOf [] 0)) : PySem.W.InstAt h b (lnk d k n p) 26 (some (dictOf [] 0)) := ⟨e, rfl, rfl, e2⟩
theorem inst_set {a dx : Nat} {od : Obj} {h : Heap} (e : h.get? a = some (instObj 121 dx)) (e2 : h.get? dx = some od) : PySem.W.InstAt h a (instObj 121 dx) 121 (some od) := ⟨e, rfl, rfl, e2⟩

theorem g_slot {nm : Str} {p : Nat} {b d : Nat} {k n pr : Option Value} {v : Value} {expr : Bool} {Q : Value → Shared → Prop} (X : (KK w).In s.heap) (e : s.heap.get? b = some (lnk d k n pr)) (e2 : s.heap.get? d = some (dictOf [] 0))
    (hp : p = 27 ∨ p = 28 ∨ p = 29) (hf : findIn (KK w) (.ref 26) nm = some (some (.ref p))) (hv : ((#[k, n, pr] : Array (Option Value))[p - 27]?).join = some v) (hh : handedIn v = true) (h : Q v { s with toks := s.toks + 1 }) :
    wpAny (model PR w) A (getAttr (.ref b) nm expr) Q E s :=
  get_bind X (inst_link e e2) (lk_ga w) (findObj_data (lk_cls w) hf (lk_get w p hp) (lk_takes w p hp)) (lk_gat w)
    (wpAny_call (slot_get (s := { s with toks := s.toks + 1 }) X (inst_link e e2) (lk_slot w p hp) hv (handed_on hh h)))
theorem os_nog (w : World) : noGet (KK w) none = true := rfl
theorem os_hasd (w : World) : hasDictIn (KK w) 121 = true := by kernel_rfl
theorem g_root {a dx root mp : Nat} {t1 t2 : Tok} {expr : Bool} {Q : Value → Shared → Prop} (X : (KK w).In s.heap) (e : s.heap.get? a = some (instObj 121 dx)) (e2 : s.heap.get? dx = some (dictOf [e_root w t1 root, e_map w t2 mp] 2))
    (h : Q (.ref root) { s with toks := s.toks + 1 }) : wpAny (model PR w) A (getAttr (.ref a) "_OrderedSet__root" expr) Q E s :=
  get_value X (inst_set e e2) (os_ga w) (findObj_own (os_hasd w) (os_root w) (os_nog w) rfl) rfl h
theorem g_map {a dx root mp : Nat} {t1 t2 : Tok} {expr : Bool} {Q : Value → Shared → Prop} (X : (KK w).In s.heap) (e : s.heap.get? a = some (instObj 121 dx)) (e2 : s.heap.get? dx = some (dictOf [e_root w t1 root, e_map w t2 mp] 2))
    (h : Q (.ref mp) { s with toks := s.toks + 1 }) : wpAny (model PR w) A (getAttr (.ref a) "_OrderedSet__map" expr) Q E s :=
  get_value X (inst_set e e2) (os_ga w) (findObj_own (os_hasd w) (os_map w) (os_nog w) rfl) rfl h
end

/-- the frame of a generator of the class -/
structure GEnv (env : Env) (L : Nat) : Prop where
  loc : env.locals = L
  kind : env.scope.kind = .function
  kself : env.kindOf "self" = some .local
  kroot : env.kindOf "root" = some .local
  kcurr : env.kindOf "curr" = some .local
  co : env.scope.isCoroutine = false

def whB (nm : Str) (q9 q10 q11 q12 q13 q14 q15 q16 q17 q18 q19 : Pos) : Expr × List Stmt :=
  (.Compare (.Name "curr" q9) [.IsNot] [.Name "root" q10] q11, [.Expr (.Yield (some (.Attribute (.Name "curr" q12) "key" q13)) q14) q15, .Assign [.Name "curr" q16] (.Attribute (.Name "curr" q17) nm q18) q19])

section
variable {w : World} {A : Around} {E : Value → Shared → Prop} {s : Shared} {env : Env} {L : Nat} {m : Str → Option Value}

theorem p_name {x : Str} {q : Pos} {v : Value} {Q : Value → Shared → Prop} (G : GEnv env L) (kx : env.kindOf x = some .local) (hn : s.heap.Ns L m) (hv : m x = some v) (h : Q v s) (hd : (x == ("__debug__" : Str)) = false := by decide) :
    wpAny (model PR w) A (eval (.Name x q) env) Q E s :=
  wpAny_Name (wpAny_loadName_local G.kind kx (by rw [G.loc]; exact hn) hv h) hd
theorem p_store {x : Str} {v : Value} {Q : Unit → Shared → Prop} (G : GEnv env L) (kx : env.kindOf x = some .local) (hn : s.heap.Ns L m)
    (h : ∀ h', h'.Ns L (fun y => if y = x then some v else m y) → Heap.SameBut L s.heap h' → Q () { s with heap := h', toks := s.toks + 1 }) :
    wpAny (model PR w) A (storeName env x v) Q E s :=
  wpAny_storeName_local kx (by rw [G.loc]; exact hn) (fun h' a b => h h' (by rw [← G.loc]; exact a) (by rw [← G.loc]; exact b)) (by rw [G.kind]; rfl)

/-- x = y.attr, by what the attribute is -/
theorem p_assign {x y : Str} {at' : Str} {q1 q2 q3 q4 : Pos} {v o : Value} {Q : Flow → Shared → Prop} (G : GEnv env L) (kx : env.kindOf x = some .local) (ky : env.kindOf y = some .local) (hn : s.heap.Ns L m) (hv : m y = some o)
    (hg : ∀ (Q' : Value → Shared → Prop), Q' v { s with toks := s.toks + 1 } → wpAny (model PR w) A (getAttr o at' true) Q' E s)
    (h : ∀ h' tk, h'.Ns L (fun z => if z = x then some v else m z) → Heap.SameBut L s.heap h' → Q .next { s with heap := h', toks := tk }) (hd : (y == ("__debug__" : Str)) = false := by decide) :
    wpAny (model PR w) A (exec (.Assign [.Name x q1] (.Attribute (.Name y q2) at' q3) q4) env) Q E s := by
  refine wpAny_Assign_Name (Attribute_name (p_name G ky hn hv (hg _ ?_) hd)) rfl
  exact p_store (s := { s with toks := s.toks + 1 }) G kx hn fun h' a b => h h' _ a b

theorem p_test {c r : Nat} {oc orr : Obj} {q9 q10 q11 : Pos} {wh : Sem Value} {Q : Bool → Shared → Prop} (G : GEnv env L) (hn : s.heap.Ns L m) (hc : m "curr" = some (.ref c)) (hr : m "root" = some (.ref r))
    (ho : s.heap.get? c = some oc) (hor : s.heap.get? r = some orr) (hcl : oc.cls ≠ .type "tuple") (h : Q (decide (c ≠ r)) s) :
    wpAny (model PR w) A (isTrue (.Compare (.Name "curr" q9) [.IsNot] [.Name "root" q10] q11) env wh) Q E s := by
  refine wpAny_isTrue_Compare1 (p_name G G.kcurr hn hc (p_name G G.kroot hn hr ?_)) rfl
  by_cases e : c = r
  · subst e
    refine wpAny_isNot_ref_self (wpAny_truthy_bool ?_)
    simpa using h
  · refine wpAny_isNot_ref_other e ho hor hcl (wpAny_truthy_bool ?_)
    rw [decide_eq_true e] at h; exact h
end
end Mine
set_option Elab.async false
set_option maxRecDepth 100000
set_option maxHeartbeats 1000000
namespace Mine
open PySem PySem.W PyProof.Rows PySem.Calls PySem.W.X

section
variable {w : World} {A : Around} {s : Shared} {c : Code} {fs : List Frame} {P : End → Shared → Prop}
theorem sx_in {α β : Type} {m : Sem α} {g : α → Sem β} {K : β → Sem PySem.Fin} {H : Value → Sem PySem.Fin} {gd lv}
    (h : SegX (model PR w) A c (m.wrap (fun a => (g a).wrap K H gd lv) H gd lv) fs s P) : SegX (model PR w) A c ((m >>= g).wrap K H gd lv) fs s P := by
  rw [Sem.bind_eq_wrap', Sem.wrap_wrap]; exact h
theorem sx_on {α : Type} {m : Sem α} {h : Value → Sem Unit} {K : α → Sem PySem.Fin} {H : Value → Sem PySem.Fin} {gd lv}
    (x : SegX (model PR w) A c (m.wrap K (fun e => ((h e).bind fun _ => .raise e).wrap K H gd lv) gd lv) fs s P) : SegX (model PR w) A c ((m.onRaise h).wrap K H gd lv) fs s P := by
  rw [Sem.onRaise_eq_wrap, Sem.wrap_wrap]; exact x
theorem sx_on0 {m : Sem PySem.Fin} {h : Value → Sem Unit} (x : SegX (model PR w) A c (m.wrap .pure (fun e => (h e).bind fun _ => .raise e) id id) fs s P) : SegX (model PR w) A c (m.onRaise h) fs s P := by
  rw [Sem.onRaise_eq_wrap]; exact x
theorem sx_at {α : Type} {pos : Pos} {f : Unit → Sem α} {K : α → Sem PySem.Fin} {H : Value → Sem PySem.Fin} {gd lv}
    (h : SegX (model PR w) A c ((f ()).wrap K H gd lv) fs s P) : SegX (model PR w) A c ((standAt pos >>= f).wrap K H gd lv) fs s P := sx_bind (wpAny_standAt h)
end

def Agr (as : List Nat) (h h' : Heap) : Prop := ∀ b ∈ as, ∀ o, h.get? b = some o → h'.get? b = some o
theorem Agr.trans {as : List Nat} {h h' h'' : Heap} (x : Agr as h h') (y : Agr as h' h'') : Agr as h h'' := fun b hb o e => y b hb o (x b hb o e)
def Stp (L : Nat) (s s' : Shared) : Prop := ∃ h' tk, s' = { s with heap := h', toks := tk } ∧ ∀ b o, b ≠ L → s.heap.get? b = some o → h'.get? b = some o

/-- the generator at rest: what its next wakes bring -/
def Rdy (w : World) (h₀ : Heap) (L : Nat) (fp : List Nat) : List Value → GenState → Heap → Prop
  | [], gs, h => (∃ o, h.get? L = some o) ∧ ∃ c t fs, Wk gs c t fs ∧ ∀ A s P, On h₀ s.heap → Agr (L :: fp) h s.heap → (∀ s', Stp L s s' → P (.ret (.ok (.ret .none))) s') → SegX (model PR w) A c t fs s P
  | v :: vs, gs, h => (∃ o, h.get? L = some o) ∧ ∃ c t fs, Wk gs c t fs ∧ ∀ A s P, On h₀ s.heap → Agr (L :: fp) h s.heap →
      (∀ s' gd lv k c' p fs', Stp L s s' → (gd || fs'.any Frame.guarded) = false → Rdy w h₀ L fp vs (.suspended k lv c' p fs' (gd || fs'.any Frame.guarded)) s'.heap → P (.susp v gd lv k c' p fs') s') → SegX (model PR w) A c t fs s P

theorem Rdy.agr {w : World} {h₀ : Heap} {L : Nat} {fp : List Nat} {vs : List Value} {gs : GenState} {h h' : Heap} (r : Rdy w h₀ L fp vs gs h) (a : Agr (L :: fp) h h') : Rdy w h₀ L fp vs gs h' := by
  cases vs with
  | nil => obtain ⟨⟨o, ho⟩, c, t, fs, hw, r⟩ := r; exact ⟨⟨o, a L (.head _) o ho⟩, c, t, fs, hw, fun A s P o b => r A s P o (a.trans b)⟩
  | cons v vs => obtain ⟨⟨o, ho⟩, c, t, fs, hw, r⟩ := r; exact ⟨⟨o, a L (.head _) o ho⟩, c, t, fs, hw, fun A s P o b => r A s P o (a.trans b)⟩

def vals (l : List Nd) : List Value := l.map fun n => .str n.key n.tok

/-- the places and the links, as the walk along them asks for them -/
structure Walkable (w : World) (h : Heap) (a : Nat) (i : SetI) (nx : Nat → Nat) (nm : Str) : Prop where
  X : (KK w).In h
  ox : h.get? a = some (instObj 121 i.dx)
  od : h.get? i.dx = some (dictOf [e_root w i.t1 i.root, e_map w i.t2 i.mp] 2)
  root : ∃ o, h.get? i.root = some o ∧ o.cls = .ref 26
  go : ∀ b, b = i.root ∨ (∃ n ∈ i.l, n.la = b) → ∀ (A : Around) (E : Value → Shared → Prop) (Q : Value → Shared → Prop) (s : Shared), s.heap = h → Q (.ref (nx b)) { s with toks := s.toks + 1 } → wpAny (model PR w) A (getAttr (.ref b) nm true) Q E s
  key : ∀ n ∈ i.l, (∃ o, h.get? n.la = some o ∧ o.cls = .ref 26) ∧ ∀ (A : Around) (E : Value → Shared → Prop) (Q : Value → Shared → Prop) (s : Shared), s.heap = h → Q (.str n.key n.tok) { s with toks := s.toks + 1 } → wpAny (model PR w) A (getAttr (.ref n.la) "key" true) Q E s

section
variable {w : World} {h₀ : Heap} {a : Nat} {i : SetI} {env : Env} {L : Nat} {nm : Str}

theorem not_inter (G : GEnv env L) : interactive env = false := by
  unfold interactive
  rw [G.kind]; rfl

theorem walk_turn {hb : Heap} {vl : List Nd} (G : GEnv env L) (hL0 : h₀.get? L = none) (hLf : L ∉ i.fp a) {nx : Nat → Nat} (hW : ∀ h, On h₀ h → Agr (i.fp a) hb h → Walkable w h a i nx nm) (hvl : ∀ n ∈ vl, n ∈ i.l) (hne : ∀ n ∈ vl, n.la ≠ i.root)
    (hnx : ∀ done r rs, vl = done ++ r :: rs → nx r.la = (rs.map (·.la) ++ [i.root]).headD 0)
    {q9 q10 q11 q12 q13 q14 q15 q16 q17 q18 q19 : Pos} (kF : Result → Sem PySem.Fin) (cF : Code) (pF : Pos)
    (hkF : kF (.ok .next) = leafOf (.ok (.ret .none))) :
    ∀ (rest done : List Nd), vl = done ++ rest → ∀ (A : Around) (s : Shared) (m : Str → Option Value) (P : End → Shared → Prop), On h₀ s.heap → Agr (i.fp a) hb s.heap → s.heap.Ns L m → m "root" = some (.ref i.root) →
      m "curr" = some (.ref ((rest.map (·.la) ++ [i.root]).headD 0)) →
      (match rest with
        | [] => ∀ s', Stp L s s' → P (.ret (.ok (.ret .none))) s'
        | r :: rs => ∀ s' gd lv k c' p fs', Stp L s s' → (gd || fs'.any Frame.guarded) = false → Rdy w h₀ L (i.fp a) (vals rs) (.suspended k lv c' p fs' (gd || fs'.any Frame.guarded)) s'.heap → P (.susp (.str r.key r.tok) gd lv k c' p fs') s') →
      SegX (model PR w) A (.whileLoop (whB nm q9 q10 q11 q12 q13 q14 q15 q16 q17 q18 q19).1 (whB nm q9 q10 q11 q12 q13 q14 q15 q16 q17 q18 q19).2 [] env) (denote table (.whileLoop (whB nm q9 q10 q11 q12 q13 q14 q15 q16 q17 q18 q19).1 (whB nm q9 q10 q11 q12 q13 q14 q15 q16 q17 q18 q19).2 [] env))
        [.ret kF none false [] cF pF []] s P := by
  intro rest
  induction rest with
  | nil =>
    intro done hl A s m P O ag hn hr hc hP
    have Wl := hW s.heap O ag
    obtain ⟨oR, hoR, hcR⟩ := Wl.root
    refine sx_on0 ?_
    refine sx_bind (p_test G hn (by simpa using hc) hr hoR hoR (by rw [hcR]; exact fun e => by cases e) ?_)
    rw [decide_eq_false (by simp)]
    show SegX _ A _ (.pure (.done .next)) _ s P
    refine s_pop PR w A _ [] P s (.ok .next) _ rfl kF none false [] cF pF [] ?_
    rw [hkF]
    exact s_end PR w A cF P s (.ok (.ret .none)) _ rfl (hP s ⟨s.heap, s.toks, rfl, fun _ _ _ e => e⟩)
  | cons r rs ih =>
    intro done hl A s m P O ag hn hr hc hP
    have Wl := hW s.heap O ag
    have hrv : r ∈ vl := by rw [hl]; simp
    have hrm := hvl r hrv
    obtain ⟨oR, hoR, hcR⟩ := Wl.root
    obtain ⟨⟨oC, hoC, hcC⟩, hkey⟩ := Wl.key r hrm
    have hc' : m "curr" = some (.ref r.la) := by simpa using hc
    refine sx_on0 ?_
    refine sx_bind (p_test G hn hc' hr hoC hoR (by rw [hcC]; exact fun e => by cases e) ?_)
    rw [decide_eq_true (hne r hrv)]
    show SegX _ A _ ((execs _ env >>= _).wrap _ _ _ _) _ s P
    refine sx_in ?_
    show SegX _ A _ ((exec (.Expr _ _) env >>= _).wrap _ _ _ _) _ s P
    refine sx_in ?_
    rw [arm_exec_Expr]
    refine sx_at ?_
    rw [not_inter G, if_neg (by decide)]
    show SegX _ A _ ((eval (.Yield (some (.Attribute (.Name "curr" q12) "key" q13)) q14) env >>= _).wrap _ _ _ _) _ s P
    refine sx_in ?_
    rw [arm_eval_Yield]
    show SegX _ A _ ((eval (.Attribute (.Name "curr" q12) "key" q13) env >>= _).wrap _ _ _ _) _ s P
    refine sx_bind (Attribute_name (p_name G G.kcurr hn hc' (hkey _ _ _ s rfl ?_)))
    refine sx_at ?_
    unfold yieldOut
    rw [G.co, if_neg (by decide)]
    refine s_yield PR w A _ _ P _ (.str r.key r.tok) _ _ rfl rfl fun p => ?_
    refine hP _ _ _ _ _ _ _ ⟨s.heap, s.toks + 1, rfl, fun _ _ _ e => e⟩ rfl ?_
    -- what is woken behind it
    rcases rs with _ | ⟨r2, rs'⟩
    all_goals
      refine ⟨(by obtain ⟨o, _, _, ho, _⟩ := hn; exact ⟨o, ho⟩), _, _, _, .inr ⟨_, _, _, _, rfl, rfl⟩, fun A' s2 P2 O2 ag2 hP2 => ?_⟩
      show SegX _ A' _ ((exec (.Assign [.Name "curr" q16] (.Attribute (.Name "curr" q17) nm q18) q19) env >>= _).wrap _ _ _ _) _ s2 P2
      have hn2 : s2.heap.Ns L m := hn.at' fun o e => ag2 L (by simp) o e
      have agf : Agr (i.fp a) s.heap s2.heap := fun b hb' o e => ag2 b (List.mem_cons_of_mem _ hb') o e
      have W2 := hW s2.heap O2 (ag.trans agf)
      refine sx_bind (p_assign (v := .ref (nx r.la)) G G.kcurr G.kcurr hn2 hc' (fun Q' hq => W2.go r.la (.inr ⟨r, hrm, rfl⟩) _ _ _ s2 rfl hq) fun h' tk hn' hs => ?_)
      show SegX _ A' _ (.pure (.again _)) _ _ _
      refine s_again PR w A' _ _ P2 _ _ rfl ?_
      have k2 : ∀ b o, b ≠ L → s2.heap.get? b = some o → h'.get? b = some o := fun b o hbL e => hs.extBut b o hbL e
      have hx := hnx done r _ hl
      refine ih (done ++ [r]) (by rw [hl]; simp) A' _ _ P2 (fun b o e => k2 b o (fun e2 => by rw [e2, hL0] at e; cases e) (O2 b o e)) ((ag.trans agf).trans fun b hb' o e => k2 b o (fun e2 => hLf (e2 ▸ hb')) e) hn' (by rw [if_neg (by decide)]; exact hr) (by rw [if_pos rfl, hx]) ?_
    · exact fun s' st => hP2 s' (by
        obtain ⟨h2, tk2, rfl, k3⟩ := st
        exact ⟨h2, tk2, rfl, fun b o hb' e => k3 b o hb' (k2 b o hb' e)⟩)
    · exact fun s' gd lv k c' p fs' st hg hR => hP2 s' gd lv k c' p fs' (by
        obtain ⟨h2, tk2, rfl, k3⟩ := st
        exact ⟨h2, tk2, rfl, fun b o hb' e => k3 b o hb' (k2 b o hb' e)⟩) hg hR
end
end Mine
set_option Elab.async false
set_option maxRecDepth 100000
set_option maxHeartbeats 1000000
namespace Mine
open PySem PySem.W PyProof.Rows PySem.Calls PySem.W.X

def itB (nm : Str) (q1 q2 q3 q4 q5 q6 q7 q8 q9 q10 q11 q12 q13 q14 q15 q16 q17 q18 q19 q20 : Pos) : List Stmt :=
  [.Assign [.Name "root" q1] (.Attribute (.Name "self" q2) "_OrderedSet__root" q3) q4,
   .Assign [.Name "curr" q5] (.Attribute (.Name "root" q6) nm q7) q8,
   .While (whB nm q9 q10 q11 q12 q13 q14 q15 q16 q17 q18 q19).1 (whB nm q9 q10 q11 q12 q13 q14 q15 q16 q17 q18 q19).2 [] q20]

section
variable {w : World} {h₀ : Heap} {a : Nat} {i : SetI} {env : Env} {L : Nat} {nm : Str}

theorem rdy_fresh {h : Heap} {vl : List Nd} {m : Str → Option Value} (G : GEnv env L) (hL0 : h₀.get? L = none) (hLf : L ∉ i.fp a) {nx : Nat → Nat} (hW : ∀ h', On h₀ h' → Agr (i.fp a) h h' → Walkable w h' a i nx nm) (hvl : ∀ n ∈ vl, n ∈ i.l) (hne : ∀ n ∈ vl, n.la ≠ i.root)
    (hnx : ∀ done r rs, vl = done ++ r :: rs → nx r.la = (rs.map (·.la) ++ [i.root]).headD 0) (hn0 : nx i.root = (vl.map (·.la) ++ [i.root]).headD 0) (hn : h.Ns L m) (hm : m "self" = some (.ref a))
    {q1 q2 q3 q4 q5 q6 q7 q8 q9 q10 q11 q12 q13 q14 q15 q16 q17 q18 q19 q20 : Pos} :
    Rdy w h₀ L (i.fp a) (vals vl) (.fresh (.func (itB nm q1 q2 q3 q4 q5 q6 q7 q8 q9 q10 q11 q12 q13 q14 q15 q16 q17 q18 q19 q20) env)) h := by
  have main : ∀ (A : Around) (s : Shared) (P : End → Shared → Prop), On h₀ s.heap → Agr (L :: i.fp a) h s.heap →
      (match vl with
        | [] => ∀ s', Stp L s s' → P (.ret (.ok (.ret .none))) s'
        | r :: rs => ∀ s' gd lv k c' p fs', Stp L s s' → (gd || fs'.any Frame.guarded) = false → Rdy w h₀ L (i.fp a) (vals rs) (.suspended k lv c' p fs' (gd || fs'.any Frame.guarded)) s'.heap → P (.susp (.str r.key r.tok) gd lv k c' p fs') s') →
      SegX (model PR w) A (.func (itB nm q1 q2 q3 q4 q5 q6 q7 q8 q9 q10 q11 q12 q13 q14 q15 q16 q17 q18 q19 q20) env) (denote table (.func (itB nm q1 q2 q3 q4 q5 q6 q7 q8 q9 q10 q11 q12 q13 q14 q15 q16 q17 q18 q19 q20) env)) [] s P := by
    intro A s P O ag hP
    have agf : Agr (i.fp a) h s.heap := fun b hb' o e => ag b (List.mem_cons_of_mem _ hb') o e
    have hn1 : s.heap.Ns L m := hn.at' fun o e => ag L (by simp) o e
    have W1 := hW s.heap O agf
    show SegX _ A _ (point >>= _) _ s P
    rw [Sem.bind_eq_wrap']
    refine sx_wrap (wpAny_point ?_)
    rw [Sem.bind_eq_wrap']
    refine sx_on ?_
    show SegX _ A _ ((exec (.Assign [.Name "root" q1] (.Attribute (.Name "self" q2) "_OrderedSet__root" q3) q4) env >>= _).wrap _ _ _ _) _ s P
    refine sx_bind (p_assign (v := .ref i.root) G G.kroot G.kself hn1 hm (fun Q' hq => g_root W1.X W1.ox W1.od hq) fun h1 tk1 hn2 hs1 => ?_)
    have k1 : ∀ b o, b ≠ L → s.heap.get? b = some o → h1.get? b = some o := fun b o hbL e => hs1.extBut b o hbL e
    have O1 : On h₀ h1 := fun b o e => k1 b o (fun e2 => by rw [e2, hL0] at e; cases e) (O b o e)
    have ag1 : Agr (i.fp a) h h1 := agf.trans fun b hb' o e => k1 b o (fun e2 => hLf (e2 ▸ hb')) e
    have W2 := hW h1 O1 ag1
    show SegX _ A _ ((exec (.Assign [.Name "curr" q5] (.Attribute (.Name "root" q6) nm q7) q8) env >>= _).wrap _ _ _ _) _ _ P
    refine sx_bind (p_assign (s := { s with heap := h1, toks := tk1 }) (v := .ref (nx i.root)) G G.kcurr G.kroot hn2 (by rw [if_pos rfl]) (fun Q' hq => W2.go i.root (.inl rfl) _ _ _ _ rfl hq) fun h2 tk2 hn3 hs2 => ?_)
    have k2 : ∀ b o, b ≠ L → h1.get? b = some o → h2.get? b = some o := fun b o hbL e => hs2.extBut b o hbL e
    have O2 : On h₀ h2 := fun b o e => k2 b o (fun e2 => by rw [e2, hL0] at e; cases e) (O1 b o e)
    have ag2 : Agr (i.fp a) h h2 := ag1.trans fun b hb' o e => k2 b o (fun e2 => hLf (e2 ▸ hb')) e
    have st : ∀ s', Stp L ({ s with heap := h2, toks := tk2 } : Shared) s' → Stp L s s' := fun s' z => by
      obtain ⟨h3, tk3, rfl, k3⟩ := z
      exact ⟨h3, tk3, rfl, fun b o hb' e => k3 b o hb' (k2 b o hb' (k1 b o hb' e))⟩
    show SegX _ A _ ((exec (.While _ _ [] q20) env >>= _).wrap _ _ _ _) _ _ P
    refine sx_in ?_
    show SegX _ A _ ((standAt q20 >>= fun _ => runOwn _ env).wrap _ _ _ _) _ _ P
    refine sx_at ?_
    refine sx_on ?_
    refine s_call PR w A _ _ P _ _ none false [] _ fun p => ?_
    refine walk_turn (hb := h) (vl := vl) G hL0 hLf hW hvl hne hnx _ _ _ rfl vl [] rfl A _ _ P O2 ag2 hn3 (by rw [if_neg (by decide), if_pos rfl]) (by rw [if_pos rfl, hn0]) ?_
    cases vl with
    | nil => exact fun s' z => hP s' (st s' z)
    | cons r rs => exact fun s' gd lv k c' p fs' z hg hR => hP s' gd lv k c' p fs' (st s' z) hg hR
  cases vl with
  | nil => exact ⟨(by obtain ⟨o, _, _, ho, _⟩ := hn; exact ⟨o, ho⟩), _, _, _, .inl ⟨rfl, rfl, rfl⟩, main⟩
  | cons r rs => exact ⟨(by obtain ⟨o, _, _, ho, _⟩ := hn; exact ⟨o, ho⟩), _, _, _, .inl ⟨rfl, rfl, rfl⟩, main⟩
end
end Mine
set_option Elab.async false
set_option maxRecDepth 100000
set_option maxHeartbeats 1000000
namespace Mine
open PySem PySem.W PyProof.Rows PySem.Calls PySem.W.X

section
variable {w : World} {h₀ : Heap} {a : Nat} {i : SetI}

theorem chain_head {nx pv : Nat → Nat} {b x : Nat} {r : List Nat} (h : Chain nx pv (b :: (r ++ [x]))) : nx b = (r ++ [x]).headD 0 := by
  cases r with
  | nil => exact h.1
  | cons y r => exact h.1
theorem chain_last {nx pv : Nat → Nat} {b x : Nat} : ∀ {l : List Nat}, Chain nx pv (x :: l ++ [b]) → pv b = (l.reverse ++ [x]).headD 0 := by
  intro l
  rcases List.eq_nil_or_concat l with rfl | ⟨l', z, rfl⟩
  · exact fun h => h.2.1
  · rw [List.concat_eq_append]
    intro h
    have e : x :: (l' ++ [z]) ++ [b] = (x :: l') ++ z :: [b] := by simp
    rw [e, Chain.append] at h
    rw [h.2.2.1]; simp

theorem walk_next {h : Heap} (B : Bs w h₀) (S : OSet w h₀ (HP h) a i) : ∃ nx, (∀ h', On h₀ h' → Agr (i.fp a) h h' → Walkable w h' a i nx "next") ∧ (∀ done r rs, i.l = done ++ r :: rs → nx r.la = (rs.map (·.la) ++ [i.root]).headD 0) ∧ nx i.root = (i.l.map (·.la) ++ [i.root]).headD 0 := by
  obtain ⟨nx, pv, l1, l2, l3, l4⟩ := S.links
  refine ⟨nx, fun h' O ag => ?_, fun done r rs hl => ?_, ?_⟩
  · have X := B.X.keeps O
    have r1 := ag _ fp_root _ l1
    have r2 := ag _ fp_rd _ l2
    have r3 := fun n hn => And.intro (ag _ (fp_la hn) _ (l3 n hn).1) (ag _ (fp_ld hn) _ (l3 n hn).2)
    refine ⟨X, ag _ fp_a _ S.ox, ag _ fp_dx _ S.od, ⟨_, r1, rfl⟩, fun b hb A E Q s hs hq => ?_, fun n hn => ⟨⟨_, (r3 n hn).1, rfl⟩, fun A E Q s hs hq => ?_⟩⟩
    · subst hs
      rcases hb with rfl | ⟨n, hn, rfl⟩
      · exact g_slot X r1 r2 (.inr (.inl rfl)) (lk_next w) rfl rfl hq
      · exact g_slot X (r3 n hn).1 (r3 n hn).2 (.inr (.inl rfl)) (lk_next w) rfl rfl hq
    · subst hs
      exact g_slot X (r3 n hn).1 (r3 n hn).2 (.inl rfl) (lk_key w) rfl rfl hq
  · have e : i.root :: i.l.map (·.la) ++ [i.root] = (i.root :: done.map (·.la)) ++ r.la :: (rs.map (·.la) ++ [i.root]) := by rw [hl]; simp
    rw [e, Chain.append] at l4
    exact chain_head l4.2
  · exact chain_head (by simpa using l4)
theorem walk_prev {h : Heap} (B : Bs w h₀) (S : OSet w h₀ (HP h) a i) : ∃ nx, (∀ h', On h₀ h' → Agr (i.fp a) h h' → Walkable w h' a i nx "prev") ∧ (∀ done r rs, i.l.reverse = done ++ r :: rs → nx r.la = (rs.map (·.la) ++ [i.root]).headD 0) ∧ nx i.root = (i.l.reverse.map (·.la) ++ [i.root]).headD 0 := by
  obtain ⟨nx, pv, l1, l2, l3, l4⟩ := S.links
  refine ⟨pv, fun h' O ag => ?_, fun done r rs hl => ?_, ?_⟩
  · have X := B.X.keeps O
    have r1 := ag _ fp_root _ l1
    have r2 := ag _ fp_rd _ l2
    have r3 := fun n hn => And.intro (ag _ (fp_la hn) _ (l3 n hn).1) (ag _ (fp_ld hn) _ (l3 n hn).2)
    refine ⟨X, ag _ fp_a _ S.ox, ag _ fp_dx _ S.od, ⟨_, r1, rfl⟩, fun b hb A E Q s hs hq => ?_, fun n hn => ⟨⟨_, (r3 n hn).1, rfl⟩, fun A E Q s hs hq => ?_⟩⟩
    · subst hs
      rcases hb with rfl | ⟨n, hn, rfl⟩
      · exact g_slot X r1 r2 (.inr (.inr rfl)) (lk_prev w) rfl rfl hq
      · exact g_slot X (r3 n hn).1 (r3 n hn).2 (.inr (.inr rfl)) (lk_prev w) rfl rfl hq
    · subst hs
      exact g_slot X (r3 n hn).1 (r3 n hn).2 (.inl rfl) (lk_key w) rfl rfl hq
  · have hl' : i.l = rs.reverse ++ r :: done.reverse := by
      have := congrArg List.reverse hl
      simpa using this
    have e : i.root :: i.l.map (·.la) ++ [i.root] = (i.root :: (rs.reverse.map (·.la))) ++ r.la :: (done.reverse.map (·.la) ++ [i.root]) := by rw [hl']; simp
    rw [e, Chain.append] at l4
    have := chain_last l4.1
    rw [this, ← List.map_reverse, List.reverse_reverse]
  · have := chain_last l4
    rw [this, List.map_reverse]
end

/-- a generator object of the class, its next items vs -/
structure GenAt (w : World) (h₀ : Heap) (fp : List Nat) (vs : List Value) (G g L : Nat) (s : Shared) : Prop where
  gen : s.heap.IsGen G g
  st : ∃ gs, s.gens[g]? = some gs ∧ gs.bare = true ∧ Rdy w h₀ L fp vs gs s.heap

section
variable {w : World} {h₀ : Heap} {a : Nat} {i : SetI} {A : Around} {s : Shared} {R : Result → Shared → Prop}

theorem enter_gen {name qual : Str} {params : Arguments} {body : List Stmt} {scope : Scope} {dV kV doc pm cdv ct oc : Value} {an od : Option Addr} {osl : Array (Option Value)} {f : Addr} {args : Args} {binds : List (Str × Value)}
    (B : Bs w h₀) (O : On h₀ s.heap)
    (ho : (hd.heap_39 w.params).lookup f = some ⟨oc, od, .func (fnOf name qual params body scope dV kV doc pm an cdv ct), osl⟩) (hcd : codeIn (hd.heap_39 w.params) cdv qual = true) (hroom : A.depth < recursionLimit)
    (hbind : BindsTo s (fnOf name qual params body scope dV kV doc pm an cdv ct) args binds) (hloc : ∀ y ∈ binds, scope.names.lookup y.1 = some .local)
    (h : ∀ h₁ L G tk, h₁.Ns L (fun x => binds.reverse.lookup x) → On s.heap h₁ → s.heap.get? L = none → s.heap.get? G = none → G ≠ L → h₁.IsGen G s.gens.size →
      R (.ok (.ret (.ref G))) { s with heap := h₁, gens := s.gens.push (.fresh (.func body (envOf qual scope L f cdv))), toks := tk })
    (hco : scope.isCoroutine = false) (hgen : scope.isGenerator = true) (hk : scope.kind = .function)
    (hcell : ∀ x ∈ scope.names, x.2 ≠ .cell) : codeAny (model PR w) A (.call (.ref f) args) R s := by
  obtain ⟨loose, mean, mg, mb, T⟩ := B.T
  have X := B.X.keeps O
  refine codeAny_call_generator (fd := fnOf name qual params body scope dV kV doc pm an cdv ct) (body := body) hroom (X _ _ ho) rfl hco hgen rfl (codeRec_of X hcd) ?_
  refine hbind _ _ _ _ ?_
  refine wpAny_newFunctionEnv hcell hloc (fun h₁ hns hsb => ?_) hk
  refine ⟨(T.nolimit.keeps O).fresh _ hsb, ?_⟩
  have on : On s.heap h₁ := fun b o e => hsb.extBut b o (Nat.ne_of_lt (Heap.lt_size e)) (Heap.get?_push_of_some _ e)
  have sz : h₁.objs.size = s.heap.objs.size + 1 := by rw [hsb.1, Heap.size_push]
  have none_at : ∀ {n : Nat}, s.heap.objs.size ≤ n → s.heap.get? n = none := fun {n} hn => by
    cases q : s.heap.get? n with
    | none => rfl
    | some o => exact absurd (Nat.lt_of_lt_of_le (Heap.lt_size q) hn) (Nat.lt_irrefl _)
  exact h _ s.heap.objs.size h₁.objs.size _ (hns.push _) (fun b o e => Heap.get?_push_of_some _ (on b o e)) (none_at (Nat.le_refl _)) (none_at (by rw [sz]; exact Nat.le_succ _)) (by rw [sz]; exact Nat.succ_ne_self _) ⟨_, _, _, Heap.get?_push_size _ rfl, rfl, rfl, rfl⟩

theorem fp_not {h : Heap} {b : Nat} (S : OSet w h₀ (HP h) a i) (e : h.get? b = none) : b ∉ i.fp a := fun hm => by
  obtain ⟨o, ho⟩ := S.alive b hm
  rw [e] at ho; cases ho
theorem root_ne (S : OSet w h₀ P a i) : ∀ n ∈ i.l, n.la ≠ i.root := fun n hn => (not_base ((nd_split S.nd).2.2 _ (rest_la hn))).2.2.2.1

theorem filled11 : PySem.Challenge.rw_ay0038_01 = PySem.Challenge.rw_ay0038_01 ∧ hd.heap_39 = hd.heap_39 := by
  k_fill
  exact ⟨rfl, rfl⟩
theorem c_iter (B : Bs w h₀) (O : On h₀ s.heap) (hd : A.depth < 600) (S : OSet w h₀ (HP s.heap) a i)
    (ret : ∀ h1 gs tk G L, On s.heap h1 → s.heap.get? L = none → s.heap.get? G = none → G ≠ L → GenAt w h₀ (i.fp a) (vals i.l) G s.gens.size L { s with heap := h1, gens := s.gens.push gs, toks := tk } → gs.bare = true →
      R (.ok (.ret (.ref G))) { s with heap := h1, gens := s.gens.push gs, toks := tk }) :
    codeAny (model PR w) A (.call (.ref 82) ⟨[.ref a], []⟩) R s := by
  k_dflt (refine' enter_gen ?k1 ?k2 ?k6 ?k7 ?k8 ?k9 ?kB ?_ ?c2 ?c3 ?c4 ?c5; (case k1 => assumption); (case k2 => assumption); (case k6 => k_is); (case k7 => k_is); (case k8 => exact Nat.lt_trans (by assumption) (by decide)); (case k9 => exact BindsTo.of_eq rfl); (case c5 => decide); (case kB => exact locs rfl); (case c2 => exact rfl); (case c3 => exact rfl); (case c4 => exact rfl))
  intro h₁ L G tk hn on hL hG hne hg
  obtain ⟨nx, hW, hnx, hn0⟩ := walk_next B S
  have hL0 := old_none O hL
  refine ret h₁ _ tk G L on hL hG hne ⟨hg, _, Array.getElem?_push_size .., rfl, ?_⟩ rfl
  refine rdy_fresh (nm := "next") (vl := i.l) ?_ hL0 (fp_not S hL) (fun h' O' ag => hW h' O' fun b hb o e => ag b hb o (on b o e)) (fun _ h => h) (root_ne S) hnx hn0 hn ?_
  · exact ⟨rfl, rfl, rfl, rfl, rfl, rfl⟩
  · exact rfl
theorem c_reversed (B : Bs w h₀) (O : On h₀ s.heap) (hd : A.depth < 600) (S : OSet w h₀ (HP s.heap) a i)
    (ret : ∀ h1 gs tk G L, On s.heap h1 → s.heap.get? L = none → s.heap.get? G = none → G ≠ L → GenAt w h₀ (i.fp a) (vals i.l.reverse) G s.gens.size L { s with heap := h1, gens := s.gens.push gs, toks := tk } → gs.bare = true →
      R (.ok (.ret (.ref G))) { s with heap := h1, gens := s.gens.push gs, toks := tk }) :
    codeAny (model PR w) A (.call (.ref 89) ⟨[.ref a], []⟩) R s := by
  k_dflt (refine' enter_gen ?k1 ?k2 ?k6 ?k7 ?k8 ?k9 ?kB ?_ ?c2 ?c3 ?c4 ?c5; (case k1 => assumption); (case k2 => assumption); (case k6 => k_is); (case k7 => k_is); (case k8 => exact Nat.lt_trans (by assumption) (by decide)); (case k9 => exact BindsTo.of_eq rfl); (case c5 => decide); (case kB => exact locs rfl); (case c2 => exact rfl); (case c3 => exact rfl); (case c4 => exact rfl))
  intro h₁ L G tk hn on hL hG hne hg
  obtain ⟨nx, hW, hnx, hn0⟩ := walk_prev B S
  have hL0 := old_none O hL
  refine ret h₁ _ tk G L on hL hG hne ⟨hg, _, Array.getElem?_push_size .., rfl, ?_⟩ rfl
  refine rdy_fresh (nm := "prev") (vl := i.l.reverse) ?_ hL0 (fp_not S hL) (fun h' O' ag => hW h' O' fun b hb o e => ag b hb o (on b o e)) (fun n h => by simpa using h) (fun n h => root_ne S n (by simpa using h)) hnx hn0 hn ?_
  · exact ⟨rfl, rfl, rfl, rfl, rfl, rfl⟩
  · exact rfl
end
end Mine
set_option Elab.async false
set_option maxRecDepth 100000
set_option maxHeartbeats 1000000
namespace Mine
open PySem PySem.W PyProof.Rows PySem.Calls PySem.W.X PySem.Builtin

section
variable {w : World} {h₀ : Heap} {a : Nat} {i : SetI} {A : Around} {s : Shared} {E : Value → Shared → Prop}

theorem setGen2 (s : Shared) (g : Nat) (x : GenState) (h' : Heap) (tk : Nat) (y : GenState) :
    ({ s.setGen g x with heap := h', toks := tk } : Shared).setGen g y = { s with heap := h', toks := tk, gens := s.gens.setIfInBounds g y } := by
  unfold Shared.setGen
  simp only [Array.setIfInBounds_setIfInBounds]

/-- on to the next item -/
theorem it_item {fp : List Nat} {v : Value} {vs : List Value} {G g L : Nat} {Q : Option Value → Shared → Prop} (B : Bs w h₀) (O : On h₀ s.heap) (hh : A.handled = none) (hd : A.depth < recursionLimit) (hGL : G ≠ L) (I : GenAt w h₀ fp (v :: vs) G g L s)
    (h : ∀ h' tk gs, gs.bare = true → (∀ b o, b ≠ L → s.heap.get? b = some o → h'.get? b = some o) → GenAt w h₀ fp vs G g L { s with heap := h', toks := tk, gens := s.gens.setIfInBounds g gs } → Q (some v) { s with heap := h', toks := tk, gens := s.gens.setIfInBounds g gs }) :
    wpAny (model PR w) A (pyNext (.ref G)) Q E s := by
  obtain ⟨hg, gs, hgs, -, -, c, t, fs, hw, hr⟩ := I
  obtain ⟨loose, mean, mg, mb, T⟩ := B.T
  refine pynext hh (T.nolimit.keeps O) hd hg hgs hw (hr A.in1 (s.setGen g .running) _ O (fun b _ o e => e) fun s' gd lv k c' p fs' st hgd hR => ?_)
  obtain ⟨h', tk, rfl, hk⟩ := st
  show Q (some v) (({ s.setGen g .running with heap := h', toks := tk } : Shared).setGen g _)
  rw [setGen2]
  have hlt : g < s.gens.size := by
    rcases Nat.lt_or_ge g s.gens.size with q | q
    · exact q
    · rw [Array.getElem?_eq_none q] at hgs; cases hgs
  refine h h' tk _ (by simp only [GenState.bare, hgd]; rfl) hk ⟨?_, _, Array.getElem?_setIfInBounds_self_of_lt hlt, by simp only [GenState.bare, hgd]; rfl, hR⟩
  obtain ⟨o, nm, qn, ho, r⟩ := hg
  exact ⟨o, nm, qn, hk G o hGL ho, r⟩

theorem it_end {fp : List Nat} {G g L : Nat} {Q : Option Value → Shared → Prop} (B : Bs w h₀) (O : On h₀ s.heap) (hh : A.handled = none) (hd : A.depth < recursionLimit) (I : GenAt w h₀ fp [] G g L s)
    (h : ∀ h' tk, (∀ b o, b ≠ L → s.heap.get? b = some o → h'.get? b = some o) → Q none { s with heap := h', toks := tk, gens := s.gens.setIfInBounds g .finished }) :
    wpAny (model PR w) A (pyNext (.ref G)) Q E s := by
  obtain ⟨hg, gs, hgs, -, -, c, t, fs, hw, hr⟩ := I
  obtain ⟨loose, mean, mg, mb, T⟩ := B.T
  refine pynext hh (T.nolimit.keeps O) hd hg hgs hw (hr A.in1 (s.setGen g .running) _ O (fun b _ o e => e) fun s' st => ?_)
  obtain ⟨h', tk, rfl, hk⟩ := st
  refine ⟨rfl, fun h2 hk2 => ?_⟩
  have := h h2 tk (fun b o hb e => hk2 b o (hk b o hb e))
  have e : ({ ({ s.setGen g .running with heap := h', toks := tk } : Shared).setGen g .finished with heap := h2 } : Shared) = { s with heap := h2, toks := tk, gens := s.gens.setIfInBounds g .finished } := by
    rw [setGen2]
  rw [e]; exact this

/-- next(it), where an item is left -/
theorem n_next {fp : List Nat} {v : Value} {vs : List Value} {G g L : Nat} {Q : Value → Shared → Prop} (B : Bs w h₀) (O : On h₀ s.heap) (hh : A.handled = none) (hd : A.depth < recursionLimit) (I : GenAt w h₀ fp (v :: vs) G g L s)
    (h : ∀ h' tk gs, gs.bare = true → (∀ b o, b ≠ L → s.heap.get? b = some o → h'.get? b = some o) → Q v { s with heap := h', toks := tk, gens := s.gens.setIfInBounds g gs }) :
    wpAny (model PR w) A (call (.builtin "next") [.ref G]) Q E s := by
  obtain ⟨hg, gs, hgs, -, -, c, t, fs, hw, hr⟩ := I
  obtain ⟨loose, mean, mg, mb, T⟩ := B.T
  refine call_function_entry (by decide +kernel) (by decide +kernel) kdk_entry_next (kdk_args_next _) ?_
  unfold Builtin.«next»
  refine wpAny_bind (m := someArgs "next" 1 2 _) (wpAny_of_eq (a := [Value.ref G]) (by first | rfl | kernel_rfl!) ?_)
  dsimp only
  refine wpAny_bind (wpAny_specialOf (name := Str.ofString "__next__") hg.typeIs slot_gen_next.lookup ?_)
  refine wpAny_ite_split (fun hab => absurd hab (by decide)) (fun _ => ?_)
  refine wpAny_bind (wpAny_callSpecial?_slot (name := Str.ofString "__next__") hg.typeIs slot_gen_next ?_)
  refine gnext (A := A.in1) hh (T.nolimit.keeps O) hd hg hgs hw (hr A.in1.in1 (s.setGen g .running) _ O (fun b _ o e => e) fun s' gd lv k c' p fs' st hgd hR => ?_)
  obtain ⟨h', tk, rfl, hk⟩ := st
  refine wpAny_pure ⟨_, rfl, ?_⟩
  show Q v (({ s.setGen g .running with heap := h', toks := tk } : Shared).setGen g _)
  rw [setGen2]
  exact h h' tk _ (by simp only [GenState.bare, hgd]; rfl) hk

/-- iter of a set -/
theorem i_set {Q : Value → Shared → Prop} (B : Bs w h₀) (O : On h₀ s.heap) (hd : A.depth < 600) (S : OSet w h₀ (HP s.heap) a i)
    (h : ∀ h1 gs tk G L, On s.heap h1 → s.heap.get? L = none → s.heap.get? G = none → G ≠ L → GenAt w h₀ (i.fp a) (vals i.l) G s.gens.size L { s with heap := h1, gens := s.gens.push gs, toks := tk } → gs.bare = true →
      Q (.ref G) { s with heap := h1, gens := s.gens.push gs, toks := tk }) :
    wpAny (model PR w) A (pyIter (.ref a)) Q E s := by
  have X := B.X.keeps O
  have I := inst_set (h := s.heap) S.ox S.od
  have hs := os_iter w
  have hf : typeIn (KK w) (.ref 82) = some (.type "function") := by kernel_rfl
  have fin : wpAny (model PR w) A (call (.ref 82) [.ref a] >>= fun v => pure (some v)) (fun r s' => ∃ G, r = some (Value.ref G) ∧ (∃ g, s'.heap.IsGen G g) ∧ Q (.ref G) s') E s :=
    wpAny_bind (wpAny_call (c_iter B O hd S fun h1 gs tk G L o1 hL hG hne It hb => wpAny_pure ⟨G, rfl, ⟨_, It.gen⟩, h h1 gs tk G L o1 hL hG hne It hb⟩))
  have one : ∀ refuse : Sem Value, wpAny (model PR w) A (callSpecialIfBoundUnlessNone? (.ref a) "__iter__" refuse) (fun r s' => ∃ G, r = some (Value.ref G) ∧ (∃ g, s'.heap.IsGen G g) ∧ Q (.ref G) s') E s := by
    intro refuse
    simp only [callSpecialIfBoundUnlessNone?, bindSpecialIfBound?]
    refine wpAny_holding (wpAny_bind (wpAny_bind (wpAny_bind (I.type.here ((looks_findIn X hs).here ?_)))))
    refine wpAny_bind (wpAny_askSetting (wpAny_ite ?_))
    have fin2 : wpAny (model PR w) A (if (Value.ref 82 == Value.none) = true then (refuse >>= fun v => pure (some v)) else (call (.ref 82) [.ref a] >>= fun v => pure (some v))) (fun r s' => ∃ G, r = some (Value.ref G) ∧ (∃ g, s'.heap.IsGen G g) ∧ Q (.ref G) s') E s := by
      rw [if_neg (show ¬ ((Value.ref 82 == Value.none) = true) from Bool.false_ne_true)]
      exact fin
    split
    · exact wpAny_bind ((bind_fn X _ hf).here (wpAny_pure (by exact fin2)))
    · exact wpAny_tryCatch (wpAny_bind ((bind_fn X _ hf).here (wpAny_pure (by exact fin2))))
  unfold pyIter
  refine wpAny_bind (wpAny_bind (I.type.here ((looks_findIn X hs).here ?_)))
  show wpAny _ A (callSpecialIfBoundUnlessNone? (.ref a) "__iter__" _ >>= _) Q E s
  refine wpAny_bind (wpAny_mono (one _) (fun r s' hr => ?_) fun _ _ z => z)
  obtain ⟨G, rfl, ⟨g, hg⟩, hq⟩ := hr
  refine wpAny_bind (wpAny_specialOf (name := Str.ofString "__next__") hg.typeIs slot_gen_next.lookup ?_)
  exact wpAny_pure hq
theorem c_iter_call {Q : Value → Shared → Prop} (B : Bs w h₀) (O : On h₀ s.heap) (hd : A.depth < 600) (S : OSet w h₀ (HP s.heap) a i)
    (h : ∀ h1 gs tk G L, On s.heap h1 → s.heap.get? L = none → s.heap.get? G = none → G ≠ L → GenAt w h₀ (i.fp a) (vals i.l) G s.gens.size L { s with heap := h1, gens := s.gens.push gs, toks := tk } → gs.bare = true →
      Q (.ref G) { s with heap := h1, gens := s.gens.push gs, toks := tk }) :
    wpAny (model PR w) A (call (.builtin "iter") [.ref a]) Q E s := by
  refine call_function_entry (by decide +kernel) (by decide +kernel) kdk_entry_iter (kdk_args_iter _) ?_
  unfold Builtin.«iter»
  refine wpAny_bind (m := someArgs "iter" 1 2 _) (wpAny_of_eq (a := [Value.ref a]) (by first | rfl | kernel_rfl!) ?_)
  show wpAny _ _ (pyIter (.ref a) >>= _) _ _ _
  exact wpAny_bind (i_set (A := A.in1) B O hd S fun h1 gs tk G L o1 hL hG hne It hb => wpAny_pure ⟨_, rfl, h h1 gs tk G L o1 hL hG hne It hb⟩)

theorem newClass_rev (x : Value) : Builtin.SmallTypes.newClass "reversed" ⟨[.type "reversed", x], []⟩ = pure (.type "reversed", [x]) := PySem.newClass_reversed x
theorem c_rev_call {Q : Value → Shared → Prop} (B : Bs w h₀) (O : On h₀ s.heap) (hd : A.depth < 600) (S : OSet w h₀ (HP s.heap) a i)
    (h : ∀ h1 gs tk G L, On s.heap h1 → s.heap.get? L = none → s.heap.get? G = none → G ≠ L → GenAt w h₀ (i.fp a) (vals i.l.reverse) G s.gens.size L { s with heap := h1, gens := s.gens.push gs, toks := tk } → gs.bare = true →
      Q (.ref G) { s with heap := h1, gens := s.gens.push gs, toks := tk }) :
    wpAny (model PR w) A (call (.type "reversed") [.ref a]) Q E s := by
  have X := B.X.keeps O
  have I := inst_set (h := s.heap) S.ox S.od
  have hf : typeIn (KK w) (.ref 89) = some (.type "function") := by kernel_rfl
  have sub : isSubtype (.type "generator") (.type "reversed") = pure false := by rw [isSubtype_type]; kernel_rfl
  refine callType_other (U := "generator") (Q₁ := fun v s' => ∃ G g, v = Value.ref G ∧ s'.heap.IsGen G g ∧ Q (.ref G) s') (by decide +kernel) F.create_reversed ⟨_, _, F.mro_reversed⟩ F.made_reversed sub (F.typeCall_reversed_1 _) ?_ ?_
  · refine codeAny_of_tree ?_
    show wpAny _ A.in1.in1 (do checkBuiltinCall "reversed.__new__" ⟨[.type "reversed", .ref a], []⟩; again (.builtin "reversed.__new__" ⟨[.type "reversed", .ref a], []⟩)) _ _ s
    refine wpAny_bind (wpAny_of_eq (F.newCall_reversed_1 _) (wpAny_pure ⟨plainId_quiet F.plain_reversed_new _, codeAny_builtin F.entry_reversed_new ?_⟩))
    rw [Around.under_plainId F.plain_reversed_new _]
    unfold Builtin.«reversed.__new__»
    refine wpAny_bind (wpAny_of_eq (newClass_rev _) ?_)
    try dsimp only
    refine wpAny_bind (wpAny_of_eq (a := ()) (by first | rfl | kernel_rfl) ?_)
    refine wpAny_bind (wpAny_of_eq (a := ()) (by first | rfl | kernel_rfl) ?_)
    try dsimp only
    refine wpAny_bind (wpAny_bind (I.type.here ((looks_findIn X (os_reversed w)).here ?_)))
    try dsimp only
    refine wpAny_bind ((bind_fn X _ hf).here ?_)
    try dsimp only
    rw [if_neg (show ¬ ((Value.ref 89 == Value.none) = true) from Bool.false_ne_true)]
    refine wpAny_bind (wpAny_rule ?_)
    refine wpAny_bind (m := runValue (.call (.ref 89) ⟨[.ref a], []⟩)) (show wpAny _ _ (call (.ref 89) [.ref a]) _ _ _ from wpAny_call (c_reversed B O hd S fun h1 gs tk G L o1 hL hG hne It hb => ?_))
    exact wpAny_pure ⟨G, _, rfl, It.gen, h h1 gs tk G L o1 hL hG hne It hb⟩
  · rintro v s' ⟨G, g, rfl, hg, hq⟩
    exact ⟨hg.typeIs, hq⟩
end
end Mine
set_option Elab.async false
set_option maxRecDepth 100000
set_option maxHeartbeats 1000000
namespace Mine
open PySem PySem.W PyProof.Rows PySem.Calls PySem.W.X PySem.Builtin

/-- what steps may change: the places of D, the generators of G -/
structure Ext (D G : List Nat) (s s' : Shared) : Prop where
  ex : ∃ h tk gs, s' = { s with heap := h, toks := tk, gens := gs }
  kp : ∀ b o, b ∉ D → s.heap.get? b = some o → s'.heap.get? b = some o
  gk : ∀ g x, g ∉ G → s.gens[g]? = some x → s'.gens[g]? = some x
  gb : AllBare s.gens → AllBare s'.gens
  gz : s.gens.size ≤ s'.gens.size

section
variable {D G D' G' : List Nat} {s s' s'' : Shared} {h₀ : Heap}
theorem Ext.refl : Ext D G s s := ⟨⟨_, _, _, rfl⟩, fun _ _ _ e => e, fun _ _ _ e => e, fun h => h, Nat.le_refl _⟩
theorem Ext.trans (a : Ext D G s s') (b : Ext D G s' s'') : Ext D G s s'' := by
  obtain ⟨⟨h1, t1, g1, rfl⟩, k1, gk1, gb1, gz1⟩ := a
  obtain ⟨⟨h2, t2, g2, rfl⟩, k2, gk2, gb2, gz2⟩ := b
  exact ⟨⟨h2, t2, g2, rfl⟩, fun b o hb e => k2 b o hb (k1 b o hb e), fun g x hg e => gk2 g x hg (gk1 g x hg e), fun h => gb2 (gb1 h), Nat.le_trans gz1 gz2⟩
theorem Ext.then {D2 G2 : List Nat} (a : Ext D G s s') (b : Ext D2 G2 s' s'') (h : ∀ x ∈ D2, x ∉ D → s.heap.get? x = none ∨ s'.heap.get? x = none) (h2 : ∀ g ∈ G2, g ∉ G → s.gens[g]? = none ∨ s'.gens[g]? = none) : Ext D G s s'' := by
  obtain ⟨⟨h1, t1, g1, rfl⟩, k1, gk1, gb1, gz1⟩ := a
  obtain ⟨⟨h3, t2, g2, rfl⟩, k2, gk2, gb2, gz2⟩ := b
  refine ⟨⟨h3, t2, g2, rfl⟩, fun b o hb e => k2 b o (fun q => ?_) (k1 b o hb e), fun g x hg e => gk2 g x (fun q => ?_) (gk1 g x hg e), fun h => gb2 (gb1 h), Nat.le_trans gz1 gz2⟩
  · rcases h b q hb with z | z
    · rw [z] at e; cases e
    · have := k1 b o hb e; rw [z] at this; cases this
  · rcases h2 g q hg with z | z
    · rw [z] at e; cases e
    · have := gk1 g x hg e; rw [z] at this; cases this
theorem Ext.mono (a : Ext D G s s') (h : ∀ b ∈ D, b ∈ D') (h2 : ∀ g ∈ G, g ∈ G') : Ext D' G' s s' :=
  ⟨a.ex, fun b o hb e => a.kp b o (fun x => hb (h b x)) e, fun g x hg e => a.gk g x (fun y => hg (h2 g y)) e, a.gb, a.gz⟩
theorem Ext.any (a : Ext [] [] s s') : Ext D G s s' := a.mono (fun _ h => nomatch h) (fun _ h => nomatch h)
theorem Ext.fresh (a : Ext D' G' s s') (h : ∀ b ∈ D', b ∉ D → s.heap.get? b = none) (h2 : ∀ g ∈ G', g ∉ G → s.gens[g]? = none) : Ext D G s s' :=
  ⟨a.ex, fun b o hb e => a.kp b o (fun x => by rw [h b x hb] at e; cases e) e, fun g x hg e => a.gk g x (fun y => by rw [h2 g y hg] at e; cases e) e, a.gb, a.gz⟩
theorem Ext.heap {h : Heap} {tk : Nat} (k : ∀ b o, b ∉ D → s.heap.get? b = some o → h.get? b = some o) : Ext D G s { s with heap := h, toks := tk } :=
  ⟨⟨_, _, _, rfl⟩, k, fun _ _ _ e => e, fun h => h, Nat.le_refl _⟩
theorem Ext.onh {h : Heap} {tk : Nat} (k : On s.heap h) : Ext D G s { s with heap := h, toks := tk } := Ext.heap fun b o _ e => k b o e
theorem Ext.tok {tk : Nat} : Ext D G s { s with toks := tk } := ⟨⟨_, _, _, rfl⟩, fun _ _ _ e => e, fun _ _ _ e => e, fun h => h, Nat.le_refl _⟩
theorem Ext.push {o : Obj} : Ext D G s { s with heap := s.heap.push o } := Ext.heap (tk := s.toks) fun _ _ _ e => Heap.get?_push_of_some _ e
theorem Ext.on (a : Ext D G s s') (O : On h₀ s.heap) (h : ∀ b ∈ D, h₀.get? b = none) : On h₀ s'.heap := fun b o e => a.kp b o (fun x => by rw [h b x] at e; cases e) (O b o e)
theorem Ext.keep (a : Ext [] G s s') : On s.heap s'.heap := fun b o e => a.kp b o (fun x => nomatch x) e
theorem Ext.pushed {x : GenState} {h : Heap} {tk : Nat} (hb : x.bare = true) (k : On s.heap h) : Ext D G s { s with heap := h, toks := tk, gens := s.gens.push x } :=
  ⟨⟨_, _, _, rfl⟩, fun b o _ e => k b o e, fun g y _ e => (by
    show (s.gens.push x)[g]? = some y
    rcases Nat.lt_or_ge g s.gens.size with q | q
    · rw [Array.getElem?_push, if_neg (Nat.ne_of_lt q)]; exact e
    · rw [Array.getElem?_eq_none q] at e; cases e), fun h => AllBare.push h hb, by show _ ≤ (s.gens.push x).size; rw [Array.size_push]; exact Nat.le_succ _⟩
theorem bare_set {gs : Array GenState} {g : Nat} {x : GenState} (h : AllBare gs) (hb : x.bare = true) : AllBare (gs.setIfInBounds g x) := fun y hy => by
  obtain ⟨i, hi, rfl⟩ := Array.mem_iff_getElem.mp hy
  have hi' : i < gs.size := by simpa using hi
  rw [Array.getElem_setIfInBounds hi']
  split
  · exact hb
  · exact h _ (Array.getElem_mem hi')
theorem Ext.setg {x : GenState} {h : Heap} {tk g : Nat} (hb : x.bare = true) (k : ∀ b o, b ∉ D → s.heap.get? b = some o → h.get? b = some o) : Ext D [g] s { s with heap := h, toks := tk, gens := s.gens.setIfInBounds g x } :=
  ⟨⟨_, _, _, rfl⟩, k, fun g' y hg e => (by
    show (s.gens.setIfInBounds g x)[g']? = some y
    rw [Array.getElem?_setIfInBounds_ne (fun e2 => hg (by simp [e2]))]; exact e), fun h => bare_set h hb, by show _ ≤ (s.gens.setIfInBounds g x).size; rw [Array.size_setIfInBounds]; exact Nat.le_refl _⟩
end

/-- a list of texts -/
def LS (h : Heap) (a : Nat) (ss : List Str) : Prop := ∃ vs, h.IsList a vs.toArray ∧ StrsAre vs ss
theorem LS.at {h h' : Heap} {a : Nat} {ss : List Str} (l : LS h a ss) (k : ∀ o, h.get? a = some o → h'.get? a = some o) : LS h' a ss := by
  obtain ⟨vs, hl, hi⟩ := l
  exact ⟨vs, hl.at k, hi⟩
theorem LS.on {h h' : Heap} {a : Nat} {ss : List Str} (l : LS h a ss) (k : On h h') : LS h' a ss := l.at (k a)

/-- the same for what hangs on K and G -/
structure Agr2 (h₀ : Heap) (K G : List Nat) (s s' : Shared) : Prop where
  o : On h₀ s'.heap
  k : ∀ b ∈ K, ∀ o, s.heap.get? b = some o → s'.heap.get? b = some o
  g : ∀ g ∈ G, ∀ x, s.gens[g]? = some x → s'.gens[g]? = some x
theorem Agr2.trans {h₀ : Heap} {K G : List Nat} {s s' s'' : Shared} (a : Agr2 h₀ K G s s') (b : Agr2 h₀ K G s' s'') : Agr2 h₀ K G s s'' :=
  ⟨b.o, fun x hx o e => b.k x hx o (a.k x hx o e), fun x hx o e => b.g x hx o (a.g x hx o e)⟩
theorem Agr2.of_ext {h₀ : Heap} {K G D G' : List Nat} {s s' : Shared} (a : Ext D G' s s') (O : On h₀ s.heap) (h : ∀ b ∈ D, h₀.get? b = none) (h2 : ∀ b ∈ K, b ∉ D) (h3 : ∀ g ∈ G, g ∉ G') : Agr2 h₀ K G s s' :=
  ⟨a.on O h, fun b hb o e => a.kp b o (h2 b hb) e, fun g hg x e => a.gk g x (h3 g hg) e⟩

/-- an iterator: what is left of it -/
def ItAt (w : World) (h₀ : Heap) (K D G : List Nat) (it : Value) : List Value → Shared → Prop
  | [], s => ∀ s', Agr2 h₀ K G s s' →
      (∀ (A : Around) (E : Value → Shared → Prop) (Q : Value → Shared → Prop), Q it s' → wpAny (model PR w) A (pyIter it) Q E s') ∧
      (∀ (A : Around) (E : Value → Shared → Prop) (Q : Option Value → Shared → Prop), A.handled = none → A.depth < 900 → (∀ s'', Ext D G s' s'' → Q none s'') → wpAny (model PR w) A (pyNext it) Q E s')
  | v :: vs, s => ∀ s', Agr2 h₀ K G s s' →
      (∀ (A : Around) (E : Value → Shared → Prop) (Q : Value → Shared → Prop), Q it s' → wpAny (model PR w) A (pyIter it) Q E s') ∧
      (∀ (A : Around) (E : Value → Shared → Prop) (Q : Option Value → Shared → Prop), A.handled = none → A.depth < 900 → (∀ s'', Ext D G s' s'' → (∀ b ∈ D, ∃ o, s''.heap.get? b = some o) → ItAt w h₀ K D G it vs s'' → Q (some v) s'') → wpAny (model PR w) A (pyNext it) Q E s')

section
variable {w : World} {h₀ : Heap} {K D G : List Nat} {it : Value} {vs : List Value} {s s' : Shared} {A : Around} {E : Value → Shared → Prop}
theorem ItAt.agr (I : ItAt w h₀ K D G it vs s) (a : Agr2 h₀ K G s s') : ItAt w h₀ K D G it vs s' := by
  cases vs with
  | nil => exact fun s'' b => I s'' (a.trans b)
  | cons v vs => exact fun s'' b => I s'' (a.trans b)
theorem ItAt.self (I : ItAt w h₀ K D G it vs s) (O : On h₀ s.heap) {Q : Value → Shared → Prop} (h : Q it s) : wpAny (model PR w) A (pyIter it) Q E s := by
  have a : Agr2 h₀ K G s s := ⟨O, fun _ _ _ e => e, fun _ _ _ e => e⟩
  cases vs with
  | nil => exact (I s a).1 A E Q h
  | cons v vs => exact (I s a).1 A E Q h
theorem ItAt.stop (I : ItAt w h₀ K D G it [] s) (O : On h₀ s.heap) {Q : Option Value → Shared → Prop} (hh : A.handled = none) (hd : A.depth < 900) (h : ∀ s'', Ext D G s s'' → Q none s'') : wpAny (model PR w) A (pyNext it) Q E s :=
  (I s ⟨O, fun _ _ _ e => e, fun _ _ _ e => e⟩).2 A E Q hh hd h
theorem ItAt.item {v : Value} (I : ItAt w h₀ K D G it (v :: vs) s) (O : On h₀ s.heap) {Q : Option Value → Shared → Prop} (hh : A.handled = none) (hd : A.depth < 900) (h : ∀ s'', Ext D G s s'' → (∀ b ∈ D, ∃ o, s''.heap.get? b = some o) → ItAt w h₀ K D G it vs s'' → Q (some v) s'') : wpAny (model PR w) A (pyNext it) Q E s :=
  (I s ⟨O, fun _ _ _ e => e, fun _ _ _ e => e⟩).2 A E Q hh hd h

theorem GenAt.alive {fp : List Nat} {g L Ga : Nat} (I : GenAt w h₀ fp vs Ga g L s) : ∃ o, s.heap.get? L = some o := by
  obtain ⟨_, gs, _, _, hr⟩ := I
  cases vs with
  | nil => exact hr.1
  | cons v vs => exact hr.1
theorem it_gen {fp : List Nat} {g L Ga : Nat} (B : Bs w h₀) (hne : Ga ≠ L) : ∀ {vs : List Value} {s : Shared}, GenAt w h₀ fp vs Ga g L s → ItAt w h₀ (Ga :: L :: fp) [L] [g] (.ref Ga) vs s := by
  have key : ∀ {vs : List Value} {s s' : Shared}, GenAt w h₀ fp vs Ga g L s → Agr2 h₀ (Ga :: L :: fp) [g] s s' → GenAt w h₀ fp vs Ga g L s' := by
    intro vs s s' I a
    obtain ⟨⟨o, nm, qn, ho, r⟩, gs, hgs, hb, hr⟩ := I
    exact ⟨⟨o, nm, qn, a.k _ (.head _) _ ho, r⟩, gs, a.g _ (.head _) _ hgs, hb, hr.agr fun b hb o e => a.k b (.tail _ hb) o e⟩
  intro vs
  have lt : ∀ d, d < 900 → d < recursionLimit := fun d h => Nat.lt_trans h (by decide)
  induction vs with
  | nil =>
    intro s I s' a
    have I' := key I a
    refine ⟨fun A E Q h => wpAny_pyIter_gen I'.gen h, fun A E Q hh hd h => it_end B a.o hh (lt _ hd) I' fun h' tk k => h _ (Ext.setg rfl fun b o hb e => k b o (fun e2 => hb (by simp [e2])) e)⟩
  | cons v vs ih =>
    intro s I s' a
    have I' := key I a
    refine ⟨fun A E Q h => wpAny_pyIter_gen I'.gen h, fun A E Q hh hd h => it_item B a.o hh (lt _ hd) hne I' fun h' tk gs hb k I2 => h _ (Ext.setg hb fun b o hb e => k b o (fun e2 => hb (by simp [e2])) e) (fun b hb => by simp at hb; rw [hb]; exact I2.alive) (ih I2)⟩

theorem it_list {I l : Nat} (hne : I ≠ l) {items : Array Value} : ∀ {rest : List Value} {i : Nat} {s : Shared}, s.heap.IsListIter I l i → s.heap.IsList l items → items.toList.drop i = rest → ItAt w h₀ [I, l] [I] [] (.ref I) rest s := by
  intro rest
  have key : ∀ {i : Nat} {s s' : Shared}, s.heap.IsListIter I l i → s.heap.IsList l items → Agr2 h₀ [I, l] [] s s' → s'.heap.IsListIter I l i ∧ s'.heap.IsList l items := by
    rintro i s s' ⟨o, ho, r⟩ hl a
    exact ⟨⟨o, a.k _ (by simp) _ ho, r⟩, hl.at fun o e => a.k _ (by simp) _ e⟩
  induction rest with
  | nil =>
    intro i s hi hl hd s' a
    obtain ⟨hi', hl'⟩ := key hi hl a
    refine ⟨fun A E Q h => wpAny_pyIter_listiter hi' h, fun A E Q hh hdp h => wpAny_pyNext_list_end hh hi' hl' ?_ fun h' k => ?_⟩
    · have := List.drop_eq_nil_iff.mp hd
      exact Array.getElem?_eq_none (by simpa using this)
    · exact h _ (Ext.heap (tk := s'.toks) fun b o hb e => k b o (fun e2 => hb (by simp [e2])) e)
  | cons v rest ih =>
    intro i s hi hl hd s' a
    obtain ⟨hi', hl'⟩ := key hi hl a
    have hv : items[i]? = some v := by
      have := congrArg (·[0]?) hd
      simpa using this
    refine ⟨fun A E Q h => wpAny_pyIter_listiter hi' h, fun A E Q hh hdp h => wpAny_pyNext_list_item hi' hl' hv fun h' k1 k2 => ?_⟩
    refine h _ (Ext.heap (tk := s'.toks) fun b o hb e => k2.extBut b o (fun e2 => hb (by simp [e2])) e) (fun b hb => by simp at hb; rw [hb]; obtain ⟨o, ho, _⟩ := k1; exact ⟨o, ho⟩) (ih k1 (hl'.at fun o e => k2.extBut l o hne.symm e) ?_)
    rw [← List.drop_drop, hd]; rfl

end
end Mine
set_option Elab.async false
set_option maxRecDepth 100000
set_option maxHeartbeats 1000000
namespace Mine
open PySem PySem.W PyProof.Rows PySem.Calls PySem.W.X PySem.Builtin

section
variable {w : World} {h₀ : Heap} {K D G : List Nat} {it : Value} {A : Around} {R : Result → Shared → Prop}

/-- a for loop over an iterator -/
theorem loop_it {target : Expr} {body : List Stmt} {env : Env} (hh : A.handled = none) (hd : A.depth < 900) (ht : ∀ v, letOwnedTupleGo target it v = pure ()) (hDh : ∀ b ∈ D, h₀.get? b = none)
    (J : List Value → Shared → Prop) (stab : ∀ vs s s', J vs s → Ext D G s s' → J vs s')
    (turn : ∀ v vs s, J (v :: vs) s → On h₀ s.heap → (∀ b ∈ D, ∃ o, s.heap.get? b = some o) → wpAny (model PR w) A (assign target env v) (fun _ s₂ => wpAny (model PR w) A (execs body env) (fun f s₃ => match f with
        | .next | .cont => J vs s₃ ∧ Agr2 h₀ K G s s₃
        | .brk => R (.ok .next) s₃
        | .ret v => R (.ok (.ret v)) s₃) (notedBy (model PR w) A env fun e s' => R (.error e) s') s₂) (notedBy (model PR w) A env fun e s' => R (.error e) s') s)
    (done : ∀ s, J [] s → On h₀ s.heap → R (.ok .next) s) {vs : List Value} {s : Shared} (I : ItAt w h₀ K D G it vs s) (O : On h₀ s.heap) (hJ : J vs s) : codeAny (model PR w) A (.forLoop target it body [] env) R s := by
  refine codeAny_forLoop (fun n s => ∃ vs, n = vs.length ∧ ItAt w h₀ K D G it vs s ∧ On h₀ s.heap ∧ J vs s) ?_ vs.length ⟨vs, rfl, I, O, hJ⟩ ht
  rintro n s ⟨vs, rfl, I, O, hJ⟩
  cases vs with
  | nil => exact I.stop O hh hd fun s' x => wpAny_execs_nil (done s' (stab _ _ _ hJ x) (x.on O hDh))
  | cons v vs =>
    refine I.item O hh hd fun s' x al I' => ?_
    refine wpAny_mono (turn v vs s' (stab _ _ _ hJ x) (x.on O hDh) al) (fun _ s₂ h₂ => wpAny_mono h₂ (fun f s₃ h₃ => ?_) fun _ _ e => e) fun _ _ e => e
    cases f with
    | next => exact ⟨vs.length, Nat.lt_succ_self _, vs, rfl, I'.agr h₃.2, h₃.2.o, h₃.1⟩
    | cont => exact ⟨vs.length, Nat.lt_succ_self _, vs, rfl, I'.agr h₃.2, h₃.2.o, h₃.1⟩
    | brk => exact h₃
    | ret v => exact h₃

theorem anyE {M : Model} {α : Type} {c : Sem α} {Q : α → Shared → Prop} {E : Value → Shared → Prop} (h : ∀ E' : Value → Shared → Prop, wpAny M A c Q E' s) : wpAny M A c Q E s := h E
theorem loop_it0 {target : Expr} {body : List Stmt} {env : Env} (hh : A.handled = none) (hd : A.depth < 900) (ht : ∀ v, letOwnedTupleGo target it v = pure ()) (hDh : ∀ b ∈ D, h₀.get? b = none)
    (J : List Value → Shared → Prop) (stab : ∀ vs s s', J vs s → Ext D G s s' → J vs s')
    (turn : ∀ v vs s, J (v :: vs) s → On h₀ s.heap → (∀ b ∈ D, ∃ o, s.heap.get? b = some o) → ∀ E', wpAny (model PR w) A (assign target env v) (fun _ s₂ => wpAny (model PR w) A (execs body env) (fun f s₃ => f = .next ∧ J vs s₃ ∧ Agr2 h₀ K G s s₃) E' s₂) E' s)
    (done : ∀ s, J [] s → On h₀ s.heap → R (.ok .next) s) {vs : List Value} {s : Shared} (I : ItAt w h₀ K D G it vs s) (O : On h₀ s.heap) (hJ : J vs s) : codeAny (model PR w) A (.forLoop target it body [] env) R s :=
  loop_it hh hd ht hDh J stab (fun v vs s hJ O al => wpAny_mono (turn v vs s hJ O al _) (fun _ s₂ h => wpAny_mono h (fun f s₃ h => by obtain ⟨rfl, h⟩ := h; exact h) fun _ _ e => e) fun _ _ e => e) done I O hJ

abbrev testsOf (ifs : List Expr) (env : Env) : Sem Bool := forIn ifs true fun c r => if r = true then do let ok ← isTrue c env (eval c env); pure (ForInStep.yield ok) else pure (ForInStep.yield r)

/-- a turn of a comprehension, at any clause -/
def turnOf (e : Expr) (d : Nat) (ipos : Pos) (target : Expr) (ifs : List Expr) (emit : Sem Unit) (it acc : Value) (env : Env) : Sem PySem.Fin := do
  standAt ipos
  match ← pyNext it with
  | none => pure (.done .next)
  | some v =>
    letOwnedTupleGo target it v
    assign target env v
    let mut ok := true
    for c in ifs do
      if ok then ok ← isTrue c env (eval c env)
    if ok then emit
    again (.compLoop e d it acc env)

theorem comp_loop {elt : Expr} {gens : List Comprehension} {scope : Scope} {pos : Pos} {d : Nat} {ipos : Pos} {target : Expr} {ifs : List Expr} {emit : Sem Unit} {acc : Value} {env : Env}
    (hturn : compTurn (.ListComp elt gens scope pos) d it acc env = turnOf (.ListComp elt gens scope pos) d ipos target ifs emit it acc env)
    (hh : A.handled = none) (hd : A.depth < 900) (ht : ∀ v, letOwnedTupleGo target it v = pure ()) (hDh : ∀ b ∈ D, h₀.get? b = none)
    (J : List Value → Shared → Prop) (stab : ∀ vs s s', J vs s → Ext D G s s' → J vs s')
    (turn : ∀ v vs s, J (v :: vs) s → On h₀ s.heap → (∀ b ∈ D, ∃ o, s.heap.get? b = some o) → wpAny (model PR w) A (assign target env v) (fun _ s₂ => wpAny (model PR w) A (testsOf ifs env) (fun ok s₃ =>
        if ok = true then wpAny (model PR w) A emit (fun _ s₄ => J vs s₄ ∧ Agr2 h₀ K G s s₄) (notedBy (model PR w) A env fun e s' => R (.error e) s') s₃ else J vs s₃ ∧ Agr2 h₀ K G s s₃)
        (notedBy (model PR w) A env fun e s' => R (.error e) s') s₂) (notedBy (model PR w) A env fun e s' => R (.error e) s') s)
    (done : ∀ s, J [] s → On h₀ s.heap → R (.ok .next) s) {vs : List Value} {s : Shared} (I : ItAt w h₀ K D G it vs s) (O : On h₀ s.heap) (hJ : J vs s) :
    codeAny (model PR w) A (.compLoop (.ListComp elt gens scope pos) d it acc env) R s := by
  refine codeAny_loop rfl (fun n s => ∃ vs, n = vs.length ∧ ItAt w h₀ K D G it vs s ∧ On h₀ s.heap ∧ J vs s) ?_ vs.length ⟨vs, rfl, I, O, hJ⟩
  rintro n s ⟨vs, rfl, I, O, hJ⟩
  have hfr : (Code.compLoop (.ListComp elt gens scope pos) d it acc env).isFrame = false := by rfl
  show wpAny _ A ((compTurn (.ListComp elt gens scope pos) d it acc env).onRaise (fun x => do noteFrame x env; theTreesLotGoes x)) _ _ s
  refine wpAny_noted ?_
  rw [hturn]
  unfold turnOf
  cases vs with
  | nil => exact wpAny_bind (wpAny_standAt (wpAny_bind (I.stop O hh hd fun s' x => wpAny_pure (done s' (stab _ _ _ hJ x) (x.on O hDh)))))
  | cons v vs =>
    refine wpAny_bind (wpAny_standAt (wpAny_bind (I.item O hh hd fun s' x al I' => ?_)))
    refine wpAny_bind (wpAny_of_eq (ht v) ?_)
    refine wpAny_bind (wpAny_mono (turn v vs s' (stab _ _ _ hJ x) (x.on O hDh) al) (fun _ s₂ h₂ => wpAny_bind (wpAny_mono h₂ (fun ok s₃ h₃ => ?_) fun _ _ e => e)) fun _ _ e => e)
    cases ok with
    | false =>
      have h₃' : J vs s₃ ∧ Agr2 h₀ K G s' s₃ := by simpa using h₃
      exact wpAny_pure ⟨rfl, vs.length, Nat.lt_succ_self _, vs, rfl, I'.agr h₃'.2, h₃'.2.o, h₃'.1⟩
    | true =>
      exact wpAny_bind (wpAny_mono h₃ (fun _ s₄ h₄ => wpAny_pure ⟨rfl, vs.length, Nat.lt_succ_self _, vs, rfl, I'.agr h₄.2, h₄.2.o, h₄.1⟩) fun _ _ e => e)

/-- where a comprehension begins: once or twice iter -/
theorem comp_start {elt : Expr} {g : Comprehension} {gens : List Comprehension} {scope : Scope} {pos : Pos} {d : Nat} {acc : Value} {env : Env} {vs : List Value} {s : Shared} (hg : gens[d]? = some g) (ha : g.is_async = 0)
    (I : ItAt w h₀ K D G it vs s) (O : On h₀ s.heap) (h : codeAny (model PR w) A (.compLoop (.ListComp elt gens scope pos) d it acc env) R s) :
    codeAny (model PR w) A (.compStart (.ListComp elt gens scope pos) d it acc env) R s := by
  refine codeAny_of_tree ?_
  show wpAny _ A ((compStart (.ListComp elt gens scope pos) d it acc env).onRaise (fun x => do noteFrame x env; standAt theWindowsPlace)) _ _ s
  refine wpAny_notedAt ?_
  unfold compStart
  have hcl : (clausesOf (.ListComp elt gens scope pos))[d]? = some g := hg
  simp only [hcl, Option.elim, ha, bne_self_eq_false, Bool.false_eq_true, if_false]
  refine wpAny_bind (wpAny_askSetting (wpAny_ite ?_))
  split
  · exact wpAny_pure ⟨rfl, h⟩
  · exact wpAny_bind (wpAny_rule (wpAny_bind (wpAny_standAt (wpAny_bind (I.self O (wpAny_pure ⟨rfl, h⟩))))))
end
end Mine
set_option Elab.async false
set_option maxRecDepth 100000
set_option maxHeartbeats 1000000
namespace Mine
open PySem PySem.W PyProof.Rows PySem.Calls PySem.W.X PySem.Builtin

/-- steps upon what was made since -/
theorem Ext.trans' {D G D2 : List Nat} {s s' s'' : Shared} (a : Ext D G s s') (b : Ext D2 [] s' s'') (h : ∀ x ∈ D2, s.heap.get? x = none) : Ext D G s s'' := by
  exact a.then b (fun x hx _ => .inl (h x hx)) (fun _ q => nomatch q)
theorem big_line {n : Nat} (h : n ≤ 1000) : n ≤ sizeLine := by rw [sizeLine_eq]; omega
theorem none_of_size {h : Heap} {n : Nat} (q : h.objs.size ≤ n) : h.get? n = none := by
  cases e : h.get? n with
  | none => rfl
  | some o => exact absurd (Nat.lt_of_lt_of_le (Heap.lt_size e) q) (Nat.lt_irrefl _)
theorem ne_of_alive {h : Heap} {a b : Nat} {o : Obj} (e : h.get? a = some o) (n : h.get? b = none) : a ≠ b := fun q => by rw [q, n] at e; cases e
theorem IsList.obj {h : Heap} {a : Nat} {xs : Array Value} (l : h.IsList a xs) : ∃ o, h.get? a = some o := by
  obtain ⟨o, ho, _⟩ := l; exact ⟨o, ho⟩
theorem Ns.obj {h : Heap} {a : Nat} {m : Str → Option Value} (l : h.Ns a m) : ∃ o, h.get? a = some o := by
  obtain ⟨o, _, _, ho, _⟩ := l; exact ⟨o, ho⟩

section
variable {w : World} {h₀ : Heap} {K D G : List Nat} {it : Value} {A : Around} {E : Value → Shared → Prop}

/-- a block's frame and its list, made -/
theorem block_make {e : Expr} {scope : Scope} {cl : List (Str × Addr)} {env : Env} {RR : Value → Addr → Result → Shared → Prop} {s₂ : Shared}
    (hcell : ∀ y ∈ scope.names, y.2 ≠ .cell) (hkind : scope.kind = .function)
    (h : ∀ Da C s₄, s₂.heap.get? Da = none → s₂.heap.get? C = none → Da ≠ C → Ext [] [] s₂ s₄ → s₄.heap.Ns C (fun _ => none) → s₄.heap.IsList Da #[] →
      codeAny (model PR w) A (.compStart e 0 it (.ref Da) (compEnvC scope cl C env)) (RR (.ref Da) C) s₄) :
    wpAny (model PR w) A (newList []) (fun acc s₃ => wpAny (model PR w) A (newFunctionEnv scope env.globals cl [] env.qual none .none (some env)) (fun cenv s₄ =>
      codeAny (model PR w) A (.compStart e 0 it acc { cenv with scope := relabel scope env }) (RR acc cenv.locals) s₄) E s₃) E s₂ := by
  refine wpAny_newList (wpAny_newFunctionEnv hcell (by intro y hy; simp at hy) (fun h₁ hns₁ hsb₁ => ?_) hkind)
  dsimp only at hns₁ hsb₁ ⊢
  generalize hH2 : s₂.heap.push { cls := .type "list", dict := none, data := .seq ([] : List Value).toArray } = H2 at hns₁ hsb₁ ⊢
  have hC : H2.objs.size = s₂.heap.objs.size + 1 := by rw [← hH2, Heap.size_push]
  have hDC : s₂.heap.objs.size ≠ H2.objs.size := by rw [hC]; exact Nat.ne_of_lt (Nat.lt_succ_self _)
  have old : ∀ b o, s₂.heap.get? b = some o → h₁.get? b = some o := fun b o e => hsb₁.extBut b o (by rw [hC]; exact Nat.ne_of_lt (Nat.lt_succ_of_lt (Heap.lt_size e))) (Heap.get?_push_of_some _ (hH2 ▸ Heap.get?_push_of_some _ e))
  have hacc : h₁.IsList s₂.heap.objs.size #[] := ⟨_, hsb₁.extBut _ _ hDC (Heap.get?_push_of_some _ (hH2 ▸ Heap.get?_push_size _ rfl)), rfl, _, rfl⟩
  have := h s₂.heap.objs.size H2.objs.size { s₂ with heap := h₁, toks := s₂.toks + ([] : List (Str × Value)).length } (none_of_size (Nat.le_refl _)) (none_of_size (by rw [hC]; exact Nat.le_succ _)) hDC (Ext.onh old) hns₁ hacc
  exact this

theorem comp1 {elt iter : Expr} {x : Str} {px : Pos} {ifs : List Expr} {scope : Scope} {cl : List (Str × Addr)} {pos : Pos} {env : Env} {Q : Value → Shared → Prop} {s : Shared} (p : Value → Bool) (F : Value → Value → Prop)
    (hh : A.handled = none) (hd : A.depth < 900)
    (hclos : closureFor scope env = pure cl) (hcell : ∀ y ∈ scope.names, y.2 ≠ .cell) (hkind : scope.kind = .function)
    (hnames : ∀ y ∈ scope.names, y.2 = .local → scope.names.lookup y.1 = some .local) (hx : scope.names.lookup x = some .local)
    (h : wpAny (model PR w) A (eval iter env) (fun xv s₁ => wpAny (model PR w) A (pyIter xv) (fun it s₂ => ∃ K D G vs, ItAt w h₀ K D G it vs s₂ ∧ On h₀ s₂.heap ∧ (∀ b ∈ D, h₀.get? b = none) ∧ (∀ b ∈ D, b ∈ K) ∧ (∀ b ∈ K, ∃ o, s₂.heap.get? b = some o) ∧ vs.length ≤ 1000 ∧
      (∀ C s m v E', v ∈ vs → On h₀ s.heap → Ext D G s₂ s → s₂.heap.get? C = none → s.heap.Ns C m → m x = some v →
        wpAny (model PR w) A (testsOf ifs (compEnvC scope cl C env)) (fun ok s' => ok = p v ∧ Ext [] [] s s') E' s) ∧
      (∀ C s m v E', v ∈ vs → p v = true → On h₀ s.heap → Ext D G s₂ s → s₂.heap.get? C = none → s.heap.Ns C m → m x = some v →
        wpAny (model PR w) A (eval elt (compEnvC scope cl C env)) (fun y s' => F v y ∧ Ext [] [] s s') E' s) ∧
      (∀ Da ys s', s₂.heap.get? Da = none → s'.heap.IsList Da ys.toArray → On h₀ s'.heap → Ext D G s₂ s' → Paired F (vs.filter p) ys → Q (.ref Da) s')) E s₁) E s)
    (hs : ∀ x, foldedSetIterable iter env x = pure x := by intro _; rfl) (hti : ∀ it v, letOwnedTupleGo (.Name x px) it v = pure () := by intro _ _; rfl) :
    wpAny (model PR w) A (eval (.ListComp elt [⟨.Name x px, iter, ifs, 0⟩] scope pos) env) Q E s := by
  rw [eval_ListComp]
  refine wpAny_comprehension_free (use := none) rfl hs hclos hkind hnames (wpAny_mono h (fun xv s₁ h₁ => wpAny_mono h₁ (fun it s₂ h₂ => ?_) fun _ _ e => e) fun _ _ e => e)
  obtain ⟨K, D, G, vs, I, O, hDh, hDK, hK, hsz, htest, helt, hQ⟩ := h₂
  refine block_make (RR := fun acc C => compPost (model PR w) A E none Q acc C) hcell hkind fun Da C s₄ hDa hC hDC x₄ hn hl => ?_
  have a₄ : Agr2 h₀ K G s₂ s₄ := ⟨fun b o e => x₄.keep b o (O b o e), fun b _ o e => x₄.keep b o e, fun g _ y e => x₄.gk g y (fun z => nomatch z) e⟩
  have kDa : Da ∉ K := fun m => by obtain ⟨o, ho⟩ := hK Da m; rw [hDa] at ho; cases ho
  have kC : C ∉ K := fun m => by obtain ⟨o, ho⟩ := hK C m; rw [hC] at ho; cases ho
  have hfrC : ∀ b o, h₀.get? b = some o → b ≠ C := fun b o e => ne_of_alive (O b o e) hC
  have hfrD : ∀ b o, h₀.get? b = some o → b ≠ Da := fun b o e => ne_of_alive (O b o e) hDa
  refine comp_start (g := ⟨.Name x px, iter, ifs, 0⟩) rfl rfl (I.agr a₄) a₄.o ?_
  refine comp_loop (D := D) (G := G) (K := K) (ipos := iter.pos) (target := .Name x px) (ifs := ifs) (emit := do let _ ← call (.builtin "list.append") [.ref Da, ← eval elt (compEnvC scope cl C env)])
    (by rfl) hh hd (hti it) hDh
    (fun rem s => ∃ done m ys, vs = done ++ rem ∧ Ext D G s₂ s ∧ s.heap.Ns C m ∧ s.heap.IsList Da ys.toArray ∧ Paired F (done.filter p) ys ∧ ys.length ≤ done.length)
    ?_ ?_ ?_ (I.agr a₄) a₄.o ⟨[], _, [], rfl, x₄.any, hn, hl, .nil, Nat.le_refl _⟩
  · rintro rem s s' ⟨done, m, ys, e, x, hn, hl, hp, hy⟩ st
    exact ⟨done, m, ys, e, x.trans st, hn.at' fun o e => st.kp C o (fun q => kC (hDK _ q)) e, hl.at fun o e => st.kp Da o (fun q => kDa (hDK _ q)) e, hp, hy⟩
  · rintro v rem s ⟨done, m, ys, e, x₅, hn, hl, hp, hy⟩ Os _
    have hv : v ∈ vs := by rw [e]; simp
    refine wpAny_assign_Name (wpAny_storeName_local (lookup_relabel_local hx) hn (fun h' hn' hs' => ?_) (by show (scope.kind == .class || (scope.kind == .module && C != env.globals)) = false; rw [hkind]; rfl))
    change h'.Ns C _ at hn'
    change Heap.SameBut C s.heap h' at hs'
    have x6 : Ext [C] [] s { s with heap := h', toks := s.toks + 1 } := Ext.heap fun b o hb e => hs'.extBut b o (fun q => hb (by simp [q])) e
    have one : ∀ b, b ∈ [C] → s₂.heap.get? b = none := fun b hb => by simp at hb; rw [hb]; exact hC
    have x7 : Ext D G s₂ { s with heap := h', toks := s.toks + 1 } := x₅.trans' x6 one
    have O7 : On h₀ h' := fun b o e => hs'.extBut b o (hfrC b o e) (Os b o e)
    have g7 : Agr2 h₀ K G s { s with heap := h', toks := s.toks + 1 } := Agr2.of_ext x6 Os (fun b hb => by
      cases q : h₀.get? b with
      | none => rfl
      | some o => exact absurd (by simpa using hb) (hfrC b o q)) (fun b hb q => kC (by simp at q; exact q ▸ hb)) (fun _ _ q => nomatch q)
    have hl7 : h'.IsList Da ys.toArray := hl.extBut hs'.extBut hDC
    refine wpAny_mono (htest C _ _ v _ hv O7 x7 hC hn' (by simp)) (fun ok s8 h8 => ?_) fun _ _ e => e
    obtain ⟨rfl, x8⟩ := h8
    have O8 : On h₀ s8.heap := x8.on O7 fun _ q => nomatch q
    have x28 : Ext D G s₂ s8 := x7.trans x8.any
    have g8 : Agr2 h₀ K G s s8 := g7.trans (Agr2.of_ext x8 O7 (fun _ q => nomatch q) (fun _ _ q => nomatch q) (fun _ _ q => nomatch q))
    have hn8 : s8.heap.Ns C (fun y => if y = x then some v else m y) := hn'.keeps x8.keep
    have hl8 : s8.heap.IsList Da ys.toArray := hl7.at fun o e => x8.keep _ o e
    have hdone : vs = (done ++ [v]) ++ rem := by rw [e]; simp
    cases hpv : p v with
    | false =>
      refine (if_neg (by simp)).mpr ⟨⟨done ++ [v], _, ys, hdone, x28, hn8, hl8, ?_, ?_⟩, g8⟩
      · rw [List.filter_append]; simpa [hpv] using hp
      · simp; omega
    | true =>
      refine (if_pos rfl).mpr ?_
      refine wpAny_bind (wpAny_mono (helt C _ _ v _ hv hpv O8 x28 hC hn8 (by simp)) (fun y s9 h9 => ?_) fun _ _ e => e)
      obtain ⟨hF, x9⟩ := h9
      have O9 : On h₀ s9.heap := x9.on O8 fun _ q => nomatch q
      have hl9 : s9.heap.IsList Da ys.toArray := hl8.at fun o e => x9.keep _ o e
      refine wpAny_bind (wpAny_list_append hl9 (fun h10 hl10 hs10 => wpAny_pure ?_) (big_line (by
        have := congrArg List.length e
        simp at this ⊢; omega)))
      have x10 : Ext [Da] [] s9 { s9 with heap := h10 } := Ext.heap (tk := s9.toks) fun b o hb e => hs10.extBut b o (fun q => hb (by simp [q])) e
      refine ⟨⟨done ++ [v], _, ys ++ [y], hdone, (x28.trans x9.any).trans' x10 (fun b hb => by simp at hb; rw [hb]; exact hDa), (hn8.keeps x9.keep).sameBut hs10 hDC.symm, by simpa using hl10, ?_, by simp; omega⟩, ?_⟩
      · rw [List.filter_append]; simpa [hpv] using hp.snoc hF
      · refine (g8.trans (Agr2.of_ext x9 O8 (fun _ q => nomatch q) (fun _ _ q => nomatch q) (fun _ _ q => nomatch q))).trans (Agr2.of_ext x10 O9 (fun b hb => ?_) (fun b hb q => kDa (by simp at q; exact q ▸ hb)) (fun _ _ q => nomatch q))
        cases q : h₀.get? b with
        | none => rfl
        | some o => exact absurd (by simpa using hb) (hfrD b o q)
  · rintro s ⟨done, m, ys, e, x₅, hn, hl, hp, hy⟩ Os
    rw [List.append_nil] at e
    subst e
    exact ⟨m, hn, fun h' hs' => hQ Da ys _ hDa (hl.extBut hs'.extBut hDC) (fun b o e => hs'.extBut b o (hfrC b o e) (Os b o e))
      (x₅.trans' (Ext.heap (D := [C]) (tk := s.toks) fun b o hb e => hs'.extBut b o (fun q => hb (by simp [q])) e) fun b hb => by simp at hb; rw [hb]; exact hC) hp⟩
end
end Mine
set_option Elab.async false
set_option maxRecDepth 100000
set_option maxHeartbeats 1000000
namespace Mine
open PySem PySem.W PyProof.Rows PySem.Calls PySem.W.X PySem.Builtin

/-- a turn that goes into a further clause -/
def turnK (e : Expr) (d : Nat) (ipos : Pos) (target : Expr) (ifs : List Expr) (emitK : Sem PySem.Fin) (it acc : Value) (env : Env) : Sem PySem.Fin := do
  standAt ipos
  match ← pyNext it with
  | none => pure (.done .next)
  | some v =>
    letOwnedTupleGo target it v
    assign target env v
    let mut ok := true
    for c in ifs do
      if ok then ok ← isTrue c env (eval c env)
    if ok then emitK else again (.compLoop e d it acc env)

section
variable {w : World} {h₀ : Heap} {K D G : List Nat} {it : Value} {A : Around} {R : Result → Shared → Prop}
theorem comp_loopK {elt : Expr} {gens : List Comprehension} {scope : Scope} {pos : Pos} {d : Nat} {ipos : Pos} {target : Expr} {ifs : List Expr} {emitK : Sem PySem.Fin} {acc : Value} {env : Env}
    (hturn : compTurn (.ListComp elt gens scope pos) d it acc env = turnK (.ListComp elt gens scope pos) d ipos target ifs emitK it acc env)
    (hh : A.handled = none) (hd : A.depth < 900) (ht : ∀ v, letOwnedTupleGo target it v = pure ()) (hDh : ∀ b ∈ D, h₀.get? b = none)
    (J : List Value → Shared → Prop) (stab : ∀ vs s s', J vs s → Ext D G s s' → J vs s')
    (turn : ∀ v vs s, J (v :: vs) s → On h₀ s.heap → (∀ b ∈ D, ∃ o, s.heap.get? b = some o) → wpAny (model PR w) A (assign target env v) (fun _ s₂ => wpAny (model PR w) A (testsOf ifs env) (fun ok s₃ =>
        if ok = true then wpAny (model PR w) A emitK (fun fin s₄ => fin = .again (.compLoop (.ListComp elt gens scope pos) d it acc env) ∧ J vs s₄ ∧ Agr2 h₀ K G s s₄) (notedBy (model PR w) A env fun e s' => R (.error e) s') s₃ else J vs s₃ ∧ Agr2 h₀ K G s s₃)
        (notedBy (model PR w) A env fun e s' => R (.error e) s') s₂) (notedBy (model PR w) A env fun e s' => R (.error e) s') s)
    (done : ∀ s, J [] s → On h₀ s.heap → R (.ok .next) s) {vs : List Value} {s : Shared} (I : ItAt w h₀ K D G it vs s) (O : On h₀ s.heap) (hJ : J vs s) :
    codeAny (model PR w) A (.compLoop (.ListComp elt gens scope pos) d it acc env) R s := by
  refine codeAny_loop rfl (fun n s => ∃ vs, n = vs.length ∧ ItAt w h₀ K D G it vs s ∧ On h₀ s.heap ∧ J vs s) ?_ vs.length ⟨vs, rfl, I, O, hJ⟩
  rintro n s ⟨vs, rfl, I, O, hJ⟩
  show wpAny _ A ((compTurn (.ListComp elt gens scope pos) d it acc env).onRaise (fun x => do noteFrame x env; theTreesLotGoes x)) _ _ s
  refine wpAny_noted ?_
  rw [hturn]
  unfold turnK
  cases vs with
  | nil => exact wpAny_bind (wpAny_standAt (wpAny_bind (I.stop O hh hd fun s' x => wpAny_pure (done s' (stab _ _ _ hJ x) (x.on O hDh)))))
  | cons v vs =>
    refine wpAny_bind (wpAny_standAt (wpAny_bind (I.item O hh hd fun s' x al I' => ?_)))
    refine wpAny_bind (wpAny_of_eq (ht v) ?_)
    refine wpAny_bind (wpAny_mono (turn v vs s' (stab _ _ _ hJ x) (x.on O hDh) al) (fun _ s₂ h₂ => wpAny_bind (wpAny_mono h₂ (fun ok s₃ h₃ => ?_) fun _ _ e => e)) fun _ _ e => e)
    cases ok with
    | false =>
      have h₃' : J vs s₃ ∧ Agr2 h₀ K G s' s₃ := by simpa using h₃
      exact wpAny_pure ⟨rfl, vs.length, Nat.lt_succ_self _, vs, rfl, I'.agr h₃'.2, h₃'.2.o, h₃'.1⟩
    | true =>
      refine wpAny_mono h₃ (fun fin s₄ h₄ => ?_) fun _ _ e => e
      obtain ⟨rfl, h4, h5⟩ := h₄
      exact ⟨rfl, vs.length, Nat.lt_succ_self _, vs, rfl, I'.agr h5, h5.o, h4⟩
end

/-- made pairs -/
def PrsAt (g : Heap) (X : List Nat) (h : Heap) (ps : List (Value × Value)) (ys : List Value) : Prop := Paired (fun p y => ∃ T, y = .ref T ∧ h.IsTuple T #[p.1, p.2] ∧ g.get? T = none ∧ T ∉ X) ps ys
theorem Paired.imp {α β : Type} {F F' : α → β → Prop} : ∀ {xs : List α} {ys : List β}, Paired F xs ys → (∀ a b, F a b → F' a b) → Paired F' xs ys
  | _, _, .nil, _ => .nil
  | _, _, .cons h t, k => .cons (k _ _ h) (Paired.imp t k)
theorem PrsAt.at {g : Heap} {X X' : List Nat} {h h' : Heap} {ps : List (Value × Value)} {ys : List Value} (x : PrsAt g X h ps ys) (k : ∀ T o, g.get? T = none → T ∉ X → h.get? T = some o → h'.get? T = some o) (hX : ∀ T o, h.get? T = some o → T ∉ X → T ∉ X') : PrsAt g X' h' ps ys := by
  refine Paired.imp x ?_
  rintro p y ⟨T, rfl, ht, hg, hT⟩
  have ht' := ht
  obtain ⟨o, ho, _⟩ := ht'
  exact ⟨T, rfl, ht.at fun o e => k T o hg hT e, hg, hX T o ho hT⟩

def pairsOf (xs ys : List Value) : List (Value × Value) := xs.flatMap fun a => ys.map fun b => (a, b)
theorem pairsOf_snoc (xs ys : List Value) (a : Value) : pairsOf (xs ++ [a]) ys = pairsOf xs ys ++ ys.map fun b => (a, b) := by
  unfold pairsOf; rw [List.flatMap_append]; simp

section
variable {w : World} {h₀ : Heap} {A : Around} {E : Value → Shared → Prop}

theorem comp2 {iter1 iter2 : Expr} {x1 x2 : Str} {px1 px2 qx1 qx2 : Pos} {tk : Nat} {tp : Pos} {scope : Scope} {cl : List (Str × Addr)} {pos : Pos} {env : Env} {Q : Value → Shared → Prop} {s : Shared}
    (hh : A.handled = none) (hd : A.depth < 900)
    (hclos : closureFor scope env = pure cl) (hcell : ∀ y ∈ scope.names, y.2 ≠ .cell) (hkind : scope.kind = .function)
    (hnames : ∀ y ∈ scope.names, y.2 = .local → scope.names.lookup y.1 = some .local) (hx1 : scope.names.lookup x1 = some .local) (hx2 : scope.names.lookup x2 = some .local) (hxx : x1 ≠ x2)
    (h : wpAny (model PR w) A (eval iter1 env) (fun xv s₁ => wpAny (model PR w) A (pyIter xv) (fun it s₂ => ∃ K D G vs vs2, ItAt w h₀ K D G it vs s₂ ∧ On h₀ s₂.heap ∧ (∀ b ∈ D, h₀.get? b = none) ∧ (∀ b ∈ D, b ∈ K) ∧ (∀ b ∈ K, ∃ o, s₂.heap.get? b = some o) ∧
      (∀ g ∈ G, ∃ x, s₂.gens[g]? = some x) ∧ vs.length * vs2.length ≤ 1000 ∧
      (∀ C s m E' (R : Value → Shared → Prop), On h₀ s.heap → Ext D G s₂ s → s₂.heap.get? C = none → s.heap.Ns C m →
        (∀ it2 K2 D2 G2 s5, ItAt w h₀ K2 D2 G2 it2 vs2 s5 → Ext [] [] s s5 → (∀ b ∈ D2, s.heap.get? b = none) → (∀ g ∈ G2, s.gens[g]? = none) → (∀ b ∈ D2, b ∈ K2) → (∀ b ∈ K2, ∃ o, s5.heap.get? b = some o) →
          (∀ b ∈ K2, (∃ o, s₂.heap.get? b = some o) ∨ s.heap.get? b = none) → R it2 s5) →
        wpAny (model PR w) A (eval iter2 (compEnvC scope cl C env)) (fun x s3 => wpAny (model PR w) A (pyIter x) R E' s3) E' s) ∧
      (∀ Da ys s', s₂.heap.get? Da = none → s'.heap.IsList Da ys.toArray → On h₀ s'.heap → Ext D G s₂ s' → PrsAt s₂.heap [] s'.heap (pairsOf vs vs2) ys → Q (.ref Da) s')) E s₁) E s)
    (hs : ∀ x, foldedSetIterable iter1 env x = pure x := by intro _; rfl) (hs2 : ∀ C x, foldedSetIterable iter2 (compEnvC scope cl C env) x = pure x := by intro _ _; rfl)
    (hd1 : (x1 == ("__debug__" : Str)) = false := by decide) (hd2 : (x2 == ("__debug__" : Str)) = false := by decide) :
    wpAny (model PR w) A (eval (.ListComp (.Tuple [.Name x1 qx1, .Name x2 qx2] tk tp) [⟨.Name x1 px1, iter1, [], 0⟩, ⟨.Name x2 px2, iter2, [], 0⟩] scope pos) env) Q E s := by
  rw [eval_ListComp]
  refine wpAny_comprehension_free (use := none) rfl hs hclos hkind hnames (wpAny_mono h (fun xv s₁ h₁ => wpAny_mono h₁ (fun it s₂ h₂ => ?_) fun _ _ e => e) fun _ _ e => e)
  obtain ⟨K, D, G, vs, vs2, I, O, hDh, hDK, hK, hG, hsz, hin, hQ⟩ := h₂
  refine block_make (RR := fun acc C => compPost (model PR w) A E none Q acc C) hcell hkind fun Da C s₄ hDa hC hDC x₄ hn hl => ?_
  have a₄ : Agr2 h₀ K G s₂ s₄ := ⟨fun b o e => x₄.keep b o (O b o e), fun b _ o e => x₄.keep b o e, fun g _ y e => x₄.gk g y (fun z => nomatch z) e⟩
  have kDa : Da ∉ K := fun m => by obtain ⟨o, ho⟩ := hK Da m; rw [hDa] at ho; cases ho
  have kC : C ∉ K := fun m => by obtain ⟨o, ho⟩ := hK C m; rw [hC] at ho; cases ho
  have nC : h₀.get? C = none := by
    cases q : h₀.get? C with
    | none => rfl
    | some o => have := O _ _ q; rw [hC] at this; cases this
  have nDa : h₀.get? Da = none := by
    cases q : h₀.get? Da with
    | none => rfl
    | some o => have := O _ _ q; rw [hDa] at this; cases this
  have aliveD : ∀ b ∈ D, ∃ o, s₂.heap.get? b = some o := fun b hb => hK b (hDK b hb)
  have kk : (compEnvC scope cl C env).kindOf x1 = some .local := lookup_relabel_local hx1
  have kk2 : (compEnvC scope cl C env).kindOf x2 = some .local := lookup_relabel_local hx2
  have kfun : (compEnvC scope cl C env).scope.kind = .function := hkind
  have hp : ((compEnvC scope cl C env).scope.kind == .class || ((compEnvC scope cl C env).scope.kind == .module && (compEnvC scope cl C env).locals != (compEnvC scope cl C env).globals)) = false := by rw [kfun]; rfl
  refine comp_start (g := ⟨.Name x1 px1, iter1, [], 0⟩) rfl rfl (I.agr a₄) a₄.o ?_
  refine comp_loopK (D := D) (G := G) (K := K) (ipos := iter1.pos) (target := .Name x1 px1) (ifs := []) (emitK := do
      let x ← eval iter2 (compEnvC scope cl C env)
      standAt iter2.pos
      let x ← foldedSetIterable iter2 (compEnvC scope cl C env) x
      let _ ← runOwn (.compStart (.ListComp (.Tuple [.Name x1 qx1, .Name x2 qx2] tk tp) [⟨.Name x1 px1, iter1, [], 0⟩, ⟨.Name x2 px2, iter2, [], 0⟩] scope pos) 1 (← holding [x] (pyIter x)) (.ref Da) (compEnvC scope cl C env)) (compEnvC scope cl C env)
      again (.compLoop (.ListComp (.Tuple [.Name x1 qx1, .Name x2 qx2] tk tp) [⟨.Name x1 px1, iter1, [], 0⟩, ⟨.Name x2 px2, iter2, [], 0⟩] scope pos) 0 it (.ref Da) (compEnvC scope cl C env)))
    (by rfl) hh hd (fun _ => rfl) hDh
    (fun rem s => ∃ done m ys, vs = done ++ rem ∧ Ext D G s₂ s ∧ s.heap.Ns C m ∧ s.heap.IsList Da ys.toArray ∧ PrsAt s₂.heap [C, Da] s.heap (pairsOf done vs2) ys ∧ ys.length ≤ done.length * vs2.length)
    ?_ ?_ ?_ (I.agr a₄) a₄.o ⟨[], _, [], rfl, x₄.any, hn, hl, .nil, by simp⟩
  · rintro rem s s' ⟨done, m, ys, e, x, hn, hl, hp, hy⟩ st
    exact ⟨done, m, ys, e, x.trans st, hn.at' fun o e => st.kp C o (fun q => kC (hDK _ q)) e, hl.at fun o e => st.kp Da o (fun q => kDa (hDK _ q)) e,
      hp.at (fun T o hg _ e => st.kp T o (fun q => by obtain ⟨o2, h2⟩ := aliveD T q; rw [hg] at h2; cases h2) e) (fun _ _ _ h => h), hy⟩
  · rintro v rem s ⟨done, m, ys, e, x₅, hn, hl, hpr, hy⟩ Os alD
    refine wpAny_assign_Name (wpAny_storeName_local kk hn (fun h' hn' hs' => ?_) hp)
    change h'.Ns C _ at hn'
    change Heap.SameBut C s.heap h' at hs'
    have x6 : Ext [C] [] s { s with heap := h', toks := s.toks + 1 } := Ext.heap fun b o hb e => hs'.extBut b o (fun q => hb (by simp [q])) e
    have one : ∀ b, b ∈ [C] → s₂.heap.get? b = none := fun b hb => by simp at hb; rw [hb]; exact hC
    have x7 : Ext D G s₂ { s with heap := h', toks := s.toks + 1 } := x₅.trans' x6 one
    have O7 : On h₀ h' := fun b o e => hs'.extBut b o (fun q => by rw [q, nC] at e; cases e) (Os b o e)
    have g7 : Agr2 h₀ K G s { s with heap := h', toks := s.toks + 1 } := Agr2.of_ext x6 Os (fun b hb => by simp at hb; rw [hb]; exact nC) (fun b hb q => kC (by simp at q; exact q ▸ hb)) (fun _ _ q => nomatch q)
    have hl7 : h'.IsList Da ys.toArray := hl.extBut hs'.extBut hDC
    have p7 : PrsAt s₂.heap [C, Da] h' (pairsOf done vs2) ys := hpr.at (fun T o _ hX e => hs'.extBut T o (fun q => hX (by simp [q])) e) fun _ _ _ h => h
    generalize hS7 : ({ s with heap := h', toks := s.toks + 1 } : Shared) = s7 at x7 g7
    have e7 : s7.heap = h' := by rw [← hS7]
    rw [← e7] at hn' O7 hl7 p7
    refine wpAny_tests_nil ?_
    refine (if_pos rfl).mpr ?_
    refine wpAny_bind (wpAny_mono (hin C s7 _ _ _ O7 x7 hC hn' fun it2 K2 D2 G2 s8 I2 x8 hD2 hG2 hDK2 hK2 hKC => ?hgoal) (fun xv s₁ hx => wpAny_bind (wpAny_standAt (wpAny_bind (wpAny_of_eq (hs2 C xv) (wpAny_bind (wpAny_holding hx)))))) fun _ _ e => e)
    refine wpAny_bind (wpAny_runOwn ?_)
    have O8 : On h₀ s8.heap := x8.on O7 fun _ q => nomatch q
    have hK2C : C ∉ K2 := fun q => by
      rcases hKC C q with ⟨o, ho⟩ | hno
      · rw [hC] at ho; cases ho
      · obtain ⟨o, ho⟩ := Ns.obj hn'; rw [hno] at ho; cases ho
    have hK2D : Da ∉ K2 := fun q => by
      rcases hKC Da q with ⟨o, ho⟩ | hno
      · rw [hDa] at ho; cases ho
      · obtain ⟨o, ho⟩ := IsList.obj hl7; rw [hno] at ho; cases ho
    have hD2h : ∀ b ∈ D2, h₀.get? b = none := fun b hb => by
      cases q : h₀.get? b with
      | none => rfl
      | some o => have := O7 _ _ q; rw [hD2 b hb] at this; cases this
    have alD7 : ∀ b ∈ D, ∃ o, s7.heap.get? b = some o := fun b hb => by
      obtain ⟨o, ho⟩ := alD b hb
      rw [← hS7]
      exact ⟨o, x6.kp b o (fun q => by simp at q; exact kC (q ▸ hDK b hb)) ho⟩
    have al7 : ∀ b, (∃ o, s₂.heap.get? b = some o) → ∃ o, s7.heap.get? b = some o := fun b ⟨o, ho⟩ => by
      by_cases q : b ∈ D
      · exact alD7 b q
      · exact ⟨o, x7.kp b o q ho⟩
    have al8 : ∀ b, (∃ o, s₂.heap.get? b = some o) → ∃ o, s8.heap.get? b = some o := fun b hb => by
      obtain ⟨o, ho⟩ := al7 b hb
      exact ⟨o, x8.keep b o ho⟩
    have hKD2 : ∀ b ∈ K, b ∉ D2 := fun b hb q => by
      obtain ⟨o, ho⟩ := al7 b (hK b hb)
      rw [hD2 b q] at ho; cases ho
    have hGG2 : ∀ g ∈ G, g ∉ G2 := fun g hg q => by
      obtain ⟨y, hy⟩ := hG g hg
      have h1 := Array.getElem?_eq_none_iff.mp (hG2 g q)
      have h2 := (Array.getElem?_eq_some_iff.mp hy).1
      have := x7.gz
      omega
    refine comp_start (g := ⟨.Name x2 px2, iter2, [], 0⟩) rfl rfl I2 O8 ?_
    have hvd : vs = (done ++ [v]) ++ rem := by rw [e]; simp
    have hlen : (done.length + 1) * vs2.length ≤ 1000 := by
      refine Nat.le_trans (Nat.mul_le_mul_right _ ?_) hsz
      have := congrArg List.length e; simp at this; omega
    refine comp_loop (A := A.mark none) (D := D2) (G := G2) (K := K2) (ipos := iter2.pos) (target := .Name x2 px2) (ifs := []) (emit := do let _ ← call (.builtin "list.append") [.ref Da, ← eval (.Tuple [.Name x1 qx1, .Name x2 qx2] tk tp) (compEnvC scope cl C env)])
      (by rfl) hh hd (fun _ => rfl) hD2h
      (fun rem2 s' => ∃ done2 m' ys2, vs2 = done2 ++ rem2 ∧ Ext (C :: Da :: D2) G2 s8 s' ∧ s'.heap.Ns C m' ∧ m' x1 = some v ∧ s'.heap.IsList Da (ys ++ ys2).toArray ∧
        PrsAt s₂.heap (C :: Da :: D2) s'.heap (pairsOf done vs2 ++ done2.map fun b => (v, b)) (ys ++ ys2) ∧ ys2.length ≤ done2.length)
      ?_ ?_ ?_ I2 O8 ⟨[], _, [], rfl, Ext.refl, hn'.keeps x8.keep, by simp, by simpa using hl7.at fun o e => x8.keep _ o e, ?_, Nat.le_refl _⟩
    rotate_left
    rotate_left
    rotate_left
    · simp only [List.map_nil, List.append_nil]
      exact p7.at (fun T o _ _ e => x8.keep T o e) fun T o e hX => by
        simp only [List.mem_cons, List.not_mem_nil, or_false, not_or] at hX ⊢
        exact ⟨hX.1, hX.2, fun q => by rw [hD2 T q] at e; cases e⟩
    · rintro rem2 s s' ⟨done2, m', ys2, e2, xx, hn2, hm2, hl2, hp2, hy2⟩ st
      exact ⟨done2, m', ys2, e2, xx.trans (st.mono (fun b hb => by simp [hb]) fun _ h => h), hn2.at' fun o e => st.kp C o (fun q => hK2C (hDK2 _ q)) e, hm2, hl2.at fun o e => st.kp Da o (fun q => hK2D (hDK2 _ q)) e,
        hp2.at (fun T o _ hX e => st.kp T o (fun q => hX (by simp [q])) e) (fun _ _ _ h => h), hy2⟩
    · rintro b rem2 s9 ⟨done2, m', ys2, e2, xx, hn2, hm2, hl2, hp2, hy2⟩ O9 alD2
      refine wpAny_assign_Name (wpAny_storeName_local kk2 hn2 (fun h' hn' hs' => ?_) hp)
      change h'.Ns C _ at hn'
      change Heap.SameBut C s9.heap h' at hs'
      refine wpAny_tests_nil ?_
      refine (if_pos rfl).mpr ?_
      have y6 : Ext [C] [] s9 { s9 with heap := h', toks := s9.toks + 1 } := Ext.heap fun b o hb e => hs'.extBut b o (fun q => hb (by simp [q])) e
      have O10 : On h₀ h' := fun b o e => hs'.extBut b o (fun q => by rw [q, nC] at e; cases e) (O9 b o e)
      have hl10 : h'.IsList Da (ys ++ ys2).toArray := hl2.extBut hs'.extBut hDC
      have p10 := hp2.at (h' := h') (fun T o _ hX e => hs'.extBut T o (fun q => hX (by simp [q])) e) fun _ _ _ h => h
      refine wpAny_bind (wpAny_Tuple (wpAny_items_cons (wpAny_Name (wpAny_loadName_local kfun kk hn' (by rw [if_neg hxx]; exact hm2) ?_) hd1)))
      refine wpAny_items_cons (wpAny_Name (wpAny_loadName_local kfun kk2 hn' (by rw [if_pos rfl]) ?_) hd2)
      refine wpAny_items_nil ⟨by rw [sizeLine_eq]; simp, ?_⟩
      dsimp only
      have hl11 := hl10.push { cls := .type "tuple", data := .seq ([v, b] : List Value).toArray }
      have hle2 := congrArg List.length e2
      have hyl : ys.length ≤ done.length * vs2.length := hy
      have hsz2 : (ys ++ ys2).length ≤ 1000 := by
        simp at hle2 ⊢
        have : (done.length + 1) * vs2.length = done.length * vs2.length + vs2.length := by rw [Nat.add_mul, Nat.one_mul]
        omega
      refine wpAny_bind (wpAny_list_append hl11 (fun h12 hl12 hs12 => wpAny_pure ?_) (big_line (by simpa using hsz2)))
      have hT : h'.get? h'.objs.size = none := none_of_size (Nat.le_refl _)
      have y7 : Ext [Da] [] { s9 with heap := h', toks := s9.toks + 1 } { s9 with heap := h12, toks := s9.toks + 1 } := Ext.heap (tk := s9.toks + 1) fun b o hb e => hs12.extBut b o (fun q => hb (by simp [q])) (Heap.get?_push_of_some _ e)
      have tDa : h'.objs.size ≠ Da := fun q => by obtain ⟨o, ho⟩ := IsList.obj hl10; rw [← q, hT] at ho; cases ho
      have tC : h'.objs.size ≠ C := fun q => by obtain ⟨o, ho⟩ := Ns.obj hn'; rw [← q, hT] at ho; cases ho
      have aD2 : ∀ x ∈ D2, ∃ o, h'.get? x = some o := fun x hx => by
        obtain ⟨o, ho⟩ := alD2 x hx
        exact ⟨o, hs'.extBut x o (fun q => hK2C (q ▸ hDK2 x hx)) ho⟩
      refine ⟨⟨done2 ++ [b], _, ys2 ++ [.ref h'.objs.size], by rw [e2]; simp, xx.trans ((y6.mono (by simp) (by simp)).trans (y7.mono (by simp) (by simp))), ((hn'.keeps fun b o e => Heap.get?_push_of_some _ e).sameBut hs12 hDC.symm), by rw [if_neg hxx]; exact hm2, by simpa using hl12, ?_, by simp; omega⟩, ?_⟩
      · have : PrsAt s₂.heap (C :: Da :: D2) h12 (pairsOf done vs2 ++ done2.map fun b => (v, b)) (ys ++ ys2) := p10.at (fun T o _ hX e => hs12.extBut T o (fun q => hX (by simp [q])) (Heap.get?_push_of_some _ e)) fun _ _ _ h => h
        rw [List.map_append, ← List.append_assoc, ← List.append_assoc]
        refine Paired.snoc this ⟨_, rfl, Heap.IsTuple.extBut ⟨_, Heap.get?_push_size _ rfl, rfl, _, rfl⟩ hs12.extBut tDa, ?_, ?_⟩
        · cases q : s₂.heap.get? h'.objs.size with
          | none => rfl
          | some o =>
            exfalso
            have qC : h'.objs.size ∉ C :: Da :: D2 := by
              simp only [List.mem_cons, not_or]
              refine ⟨tC, tDa, fun q => ?_⟩
              obtain ⟨o, ho⟩ := aD2 _ q
              rw [hT] at ho; cases ho
            obtain ⟨o2, h2⟩ := al8 _ ⟨o, q⟩
            have := hs'.extBut _ _ tC (xx.kp _ _ qC h2)
            rw [hT] at this; cases this
        · simp only [List.mem_cons, not_or]
          refine ⟨tC, tDa, fun q => ?_⟩
          obtain ⟨o, ho⟩ := aD2 _ q
          rw [hT] at ho; cases ho
      · refine (Agr2.of_ext y6 O9 (fun b hb => by simp at hb; rw [hb]; exact nC) (fun b hb q => hK2C (by simp at q; exact q ▸ hb)) (fun _ _ q => nomatch q)).trans (Agr2.of_ext y7 O10 (fun b hb => by simp at hb; rw [hb]; exact nDa) (fun b hb q => hK2D (by simp at q; exact q ▸ hb)) (fun _ _ q => nomatch q))
    · rintro s9 ⟨done2, m', ys2, e2, xx, hn2, hm2, hl2, hp2, hy2⟩ O9
      rw [List.append_nil] at e2
      subst e2
      refine wpAny_pure ⟨rfl, ⟨done ++ [v], m', ys ++ ys2, hvd, ?_, hn2, hl2, ?_, ?_⟩, ?_⟩
      · refine x7.then (x8.any.trans xx) (fun x hx _ => ?_) (fun g hg _ => .inr (hG2 g hg))
        simp at hx; rcases hx with rfl | rfl | hx
        · exact .inl hC
        · exact .inl hDa
        · exact .inr (hD2 x hx)
      · rw [pairsOf_snoc]
        exact hp2.at (fun _ _ _ _ e => e) fun T o _ hX q => hX (by simp at q ⊢; rcases q with q | q <;> simp [q])
      · simp at hy2 ⊢
        rw [Nat.add_mul, Nat.one_mul]; omega
      · refine (g7.trans (Agr2.of_ext x8 O7 (fun _ q => nomatch q) (fun _ _ q => nomatch q) (fun _ _ q => nomatch q))).trans (Agr2.of_ext xx O8 (fun b hb => ?_) (fun b hb q => ?_) hGG2)
        · simp at hb; rcases hb with rfl | rfl | hb
          · exact nC
          · exact nDa
          · exact hD2h b hb
        · simp at q; rcases q with rfl | rfl | q
          · exact kC hb
          · exact kDa hb
          · exact hKD2 b hb q
  · rintro s ⟨done, m, ys, e, x₅, hn, hl, hpr, hy⟩ Os
    rw [List.append_nil] at e
    subst e
    exact ⟨m, hn, fun h' hs' => hQ Da ys _ hDa (hl.extBut hs'.extBut hDC) (fun b o e => hs'.extBut b o (fun q => by rw [q, nC] at e; cases e) (Os b o e))
      (x₅.trans' (Ext.heap (D := [C]) (tk := s.toks) fun b o hb e => hs'.extBut b o (fun q => hb (by simp [q])) e) fun b hb => by simp at hb; rw [hb]; exact hC)
      (hpr.at (fun T o _ hX e => hs'.extBut T o (fun q => hX (by simp [q])) e) fun _ _ _ _ h => nomatch h)⟩
end
end Mine
set_option Elab.async false
set_option maxRecDepth 100000
set_option maxHeartbeats 1000000
namespace Mine
open PySem PySem.W PyProof.Rows PySem.Calls PySem.W.X PySem.Builtin

/-- room -/
structure Rm (A : Around) (d u : Nat) : Prop where
  h : A.handled = none
  d : A.depth < d
  u : A.units < u
theorem Rm.le {A : Around} {d u d' u' : Nat} (r : Rm A d u) (hd : d ≤ d') (hu : u ≤ u') : Rm A d' u' := ⟨r.h, Nat.lt_of_lt_of_le r.d hd, Nat.lt_of_lt_of_le r.u hu⟩
theorem Rm.in1 {A : Around} {d u : Nat} (r : Rm A d u) : Rm A.in1 d (u + 1) := ⟨r.h, r.d, Nat.succ_lt_succ r.u⟩
theorem Rm.kA {A : Around} {d u : Nat} (r : Rm A d u) : A = k_A A.frames A.guards A.depth A.units := by
  obtain ⟨h, d, f, g, u⟩ := A
  obtain ⟨rfl, _, _⟩ := r
  rfl
theorem Rm.deeper {A : Around} {d u : Nat} {env : Env} (r : Rm A d u) : Rm (A.deeper env) (d + 1) (u + 3) := ⟨r.h, Nat.succ_lt_succ r.d, Nat.add_lt_add_right r.u 3⟩

section
variable {w : World} {h₀ : Heap} {A : Around} {s : Shared} {R : Result → Shared → Prop} {a : Nat} {i : SetI} {E : Value → Shared → Prop} {key : Str} {tk : Tok}

theorem a_len (B : Bs w h₀) (O : On h₀ s.heap) (r : Rm A 600 2000) (S : OSet w h₀ (HP s.heap) a i) (hz : i.l.length ≤ 900)
    (ret : ∀ s' t, Ext [] [] s s' → R (.ok (.ret (.int i.l.length t))) s') : codeAny (model PR w) A (.call (.ref 54) ⟨[.ref a], []⟩) R s := by
  rw [r.kA]
  exact s_len B O r.d r.u S hz fun h2 tk2 tk3 k => ret _ _ (Ext.onh k)
theorem a_contains (B : Bs w h₀) (O : On h₀ s.heap) (r : Rm A 600 2000) (S : OSet w h₀ (HP s.heap) a i) (hz : i.l.length ≤ 900)
    (ret : ∀ s', Ext [] [] s s' → R (.ok (.ret (.bool (decide (key ∈ i.keys))))) s') : codeAny (model PR w) A (.call (.ref 61) ⟨[.ref a, .str key tk], []⟩) R s := by
  rw [r.kA]
  exact s_contains B O r.d r.u S hz fun h2 tk2 k => ret _ (Ext.onh k)

/-- the row behind add -/
def addL (l : List Str) (x : Str) : List Str := if x ∈ l then l else l ++ [x]
/-- add, either way -/
theorem a_add (B : Bs w h₀) (O : On h₀ s.heap) (r : Rm A 600 2000) (S : OSet w h₀ (HP s.heap) a i) (hz : i.l.length ≤ 900)
    (ret : ∀ s' i', Ext (i.fp a) [] s s' → OSet w h₀ (HP s'.heap) a i' → i'.keys = addL i.keys key → (∀ b ∈ i'.fp a, b ∈ i.fp a ∨ s.heap.get? b = none) → R (.ok (.ret .none)) s') :
    codeAny (model PR w) A (.call (.ref 68) ⟨[.ref a, .str key tk], []⟩) R s := by
  rw [r.kA]
  by_cases hk : key ∈ i.keys
  · refine s_add1 B O r.d r.u S hz hk fun h2 tk2 k => ret _ i (Ext.onh k) (S.on k) ?_ fun b hb => .inl hb
    unfold addL; rw [if_pos hk]
  · refine s_add B O r.d r.u S hz hk fun h2 tk2 n hn k na nd S2 => ret _ (i.with (i.l ++ [n])) (Ext.heap fun b o hb e => k b o hb e) S2 ?_ fun b hb => ?_
    · unfold addL; rw [if_neg hk]
      unfold SetI.keys SetI.with
      rw [List.map_append, ← hn]; rfl
    · have e := (fp_perm a i i.l [] n).mem_iff.mp hb
      simp only [List.mem_cons, List.append_nil] at e
      rcases e with rfl | rfl | e
      · exact .inr na
      · exact .inr nd
      · exact .inl e

def disL (l : List Str) (x : Str) : List Str := l.filter fun y => decide (y ≠ x)
theorem a_disc (B : Bs w h₀) (O : On h₀ s.heap) (r : Rm A 600 2000) (S : OSet w h₀ (HP s.heap) a i) (hz : i.l.length ≤ 900)
    (ret : ∀ s' i', Ext (i.fp a) [] s s' → OSet w h₀ (HP s'.heap) a i' → i'.keys = disL i.keys key → (∀ b ∈ i'.fp a, b ∈ i.fp a) → R (.ok (.ret .none)) s') :
    codeAny (model PR w) A (.call (.ref 75) ⟨[.ref a, .str key tk], []⟩) R s := by
  rw [r.kA]
  by_cases hk : key ∈ i.keys
  · obtain ⟨l1, n, l2, e, rfl, h1⟩ := key_split hk
    refine s_disc B O r.d r.u S hz e fun h2 tk2 k S2 => ret _ (i.with (l1 ++ l2)) (Ext.heap fun b o hb e => k b o hb e) S2 ?_ fun b hb => ?_
    · have hnd := keys_nodup S
      unfold SetI.keys at hnd ⊢
      rw [e] at hnd ⊢
      unfold disL SetI.with
      simp only [List.map_append, List.map_cons] at hnd ⊢
      rw [List.nodup_append, List.nodup_cons] at hnd
      obtain ⟨_, ⟨h2, _⟩, h3⟩ := hnd
      rw [List.filter_append, List.filter_cons, if_neg (by simp), List.filter_eq_self.mpr, List.filter_eq_self.mpr]
      · intro y hy; simp only [decide_eq_true_eq]; rintro rfl; exact h2 hy
      · intro y hy; simp only [decide_eq_true_eq]; rintro rfl; exact h1 hy
    · have e2 : i.fp a = (i.with (l1 ++ n :: l2)).fp a := by rw [← e]; rfl
      rw [e2]
      exact (fp_perm a i l1 l2 n).mem_iff.mpr (.tail _ (.tail _ hb))
  · refine s_disc0 B O r.d r.u S hz hk fun h2 tk2 k => ret _ i (Ext.onh k) (S.on k) ?_ fun b hb => hb
    unfold disL
    exact (List.filter_eq_self.mpr fun y hy => by simp only [decide_eq_true_eq]; rintro rfl; exact hk hy).symm

theorem fn_len (w : World) : typeIn (KK w) (.ref 54) = some (.type "function") := by kernel_rfl
theorem fn_contains (w : World) : typeIn (KK w) (.ref 61) = some (.type "function") := by kernel_rfl
theorem fn_eq (w : World) : typeIn (KK w) (.ref 118) = some (.type "function") := by kernel_rfl

theorem len_body {Q : Value → Shared → Prop} (B : Bs w h₀) (O : On h₀ s.heap) (r : Rm A 600 1990) (S : OSet w h₀ (HP s.heap) a i) (hz : i.l.length ≤ 900)
    (h : ∀ s' t, Ext [] [] s s' → Q (.int i.l.length t) s') : wpAny (model PR w) A (Builtin.«len» ⟨[.ref a], []⟩) (fun fin s' => ∃ r, fin = .done (.ret r) ∧ Q r s') E s := by
  have X := B.X.keeps O
  have I := inst_set (h := s.heap) S.ox S.od
  unfold Builtin.«len»
  refine wpAny_bind (m := oneArg "len" _) (wpAny_pure ?_)
  refine wpAny_bind (m := callSpecial? (.ref a) (Str.ofString "__len__")) (special_fn X I (os_len w) (fn_len w) (wpAny_call (a_len B O (r.le (by omega) (by omega)) S hz fun s' t x => ?_)))
  refine wpAny_bind (wpAny_holding (wpAny_pure ?_))
  refine wpAny_bind (wpAny_letGo ?_)
  show wpAny _ _ (if ((i.l.length : Nat) : Int) < 0 then _ else _) _ _ _
  rw [if_neg (by omega)]
  show wpAny _ _ (if ((i.l.length : Nat) : Int) ≥ 2 ^ 63 then _ else _) _ _ _
  rw [if_neg (by omega)]
  exact wpAny_bind (wpAny_mkInt (wpAny_pure ⟨_, rfl, h _ _ (x.trans Ext.tok)⟩))
/-- len(set) -/
theorem c_len {Q : Value → Shared → Prop} (B : Bs w h₀) (O : On h₀ s.heap) (r : Rm A 600 1980) (S : OSet w h₀ (HP s.heap) a i) (hz : i.l.length ≤ 900)
    (h : ∀ s' t, Ext [] [] s s' → Q (.int i.l.length t) s') : wpAny (model PR w) A (call (.builtin "len") [.ref a]) Q E s :=
  Calls.call_function_entry kind_len plain_len entry_len (args_len1 _) (len_body B O (r.in1.le (by omega) (by omega)) S hz h)

/-- truth of a set -/
theorem t_set {Q : Bool → Shared → Prop} (B : Bs w h₀) (O : On h₀ s.heap) (r : Rm A 600 1980) (S : OSet w h₀ (HP s.heap) a i) (hz : i.l.length ≤ 900)
    (h : ∀ s', Ext [] [] s s' → Q (decide (i.l.length ≠ 0)) s') : wpAny (model PR w) A (truthy (.ref a)) Q E s := by
  have X := B.X.keeps O
  have I := inst_set (h := s.heap) S.ox S.od
  have key : wpAny (model PR w) A (runValue (.builtin "len" ⟨[.ref a], []⟩)) (fun r s' => (∃ t, r = .int i.l.length t) ∧ Q (decide (i.l.length ≠ 0)) s') E s := by
    refine wpAny_runValue (codeAny_builtin entry_len ?_)
    rw [Around.under_plainId plain_len _]
    exact wpAny_mono (len_body (Q := fun r s' => (∃ t, r = .int i.l.length t) ∧ Q (decide (i.l.length ≠ 0)) s') B O (r.in1.le (by omega) (by omega)) S hz fun s' t x => ⟨⟨t, rfl⟩, h s' x⟩)
      (fun fin s' h' => by obtain ⟨r, rfl, hq⟩ := h'; exact hq) fun _ _ e => e
  unfold truthy
  refine wpAny_bind (m := callSpecial? (.ref a) (Str.ofString "__bool__")) (wpAny_bind (wpAny_bind (I.type.here ((looks_findIn X (os_bool w)).here (wpAny_pure ?_)))))
  refine wpAny_bind (m := specialOf (.ref a) (Str.ofString "__len__")) (wpAny_bind (I.type.here ((looks_findIn X (os_len w)).here ?_)))
  refine wpAny_bind (wpAny_mono key (fun r s' h' => ?_) fun _ _ e => e)
  obtain ⟨⟨t, rfl⟩, hq⟩ := h'
  have e : (((i.l.length : Nat) : Int) != 0) = decide (i.l.length ≠ 0) := by
    by_cases q : i.l.length = 0
    · rw [q]; rfl
    · rw [decide_eq_true q]; exact bne_iff_ne.mpr (by omega)
  refine wpAny_pure ?_
  rw [e]; exact hq

theorem extend_it {K D G : List Nat} {it res : Value} {Sa : Nat} (r : Rm A 800 1990) (hDh : ∀ b ∈ D, h₀.get? b = none) (hS0 : h₀.get? Sa = none) (hSK : Sa ∉ K) (hDK : ∀ b ∈ D, b ∈ K) : ∀ (vs : List Value) (s : Shared) (acc : Array Value) (c : Nat), ItAt w h₀ K D G it vs s → On h₀ s.heap →
    s.heap.get? Sa = some { cls := .type "list", dict := none, data := .seq acc c, slots := #[] } → acc.size + vs.length ≤ 1000 →
    (∀ s' c', Ext (Sa :: D) G s s' → s'.heap.get? Sa = some { cls := .type "list", dict := none, data := .seq (acc ++ vs.toArray) c', slots := #[] } → R (.ok (.ret res)) s') →
    codeAny (model PR w) A (.builtin "list.extend.loop" ⟨[.ref Sa, it, res], []⟩) R s := by
  intro vs
  have hSD : Sa ∉ D := fun q => hSK (hDK _ q)
  induction vs with
  | nil =>
    intro s acc c I O hS hz hR
    refine codeAny_builtin F.entry_extend_loop ?_
    rw [Around.under_plainId F.plain_extend_loop _]
    show wpAny _ A.in1 (pyNext it >>= _) _ _ s
    refine wpAny_bind (I.stop O r.h (Nat.lt_trans r.d (by omega)) fun s' x => ?_)
    exact wpAny_pure (hR s' c (x.mono (fun b hb => .tail _ hb) fun _ h => h) (by simpa using x.kp _ _ hSD hS))
  | cons v vs ih =>
    intro s acc c I O hS hz hR
    refine codeAny_builtin F.entry_extend_loop ?_
    rw [Around.under_plainId F.plain_extend_loop _]
    show wpAny _ A.in1 (pyNext it >>= _) _ _ s
    refine wpAny_bind (I.item O r.h (Nat.lt_trans r.d (by omega)) fun s' x al I' => ?_)
    have hS' := x.kp _ _ hSD hS
    show wpAny _ A.in1 (updateSeq Sa (·.push v) >>= _) _ _ _
    refine wpAny_bind ?_
    have O' := x.on O hDh
    have kk : ∀ b o, b ∉ [Sa] → s'.heap.get? b = some o → (s'.heap.update Sa (Obj.mapSeq (·.push v))).get? b = some o := fun b o hb e => (Heap.get?_update_other _ _ (fun h : Sa = b => hb (by simp [h]))).trans e
    have x2 : Ext [Sa] [] s' { s' with heap := s'.heap.update Sa (Obj.mapSeq (·.push v)) } := Ext.heap (tk := s'.toks) kk
    simp only [List.length_cons] at hz
    refine wpAny_updateSeq hS' rfl (wpAny_pure ⟨plainId_quiet F.plain_extend_loop _, ih _ (acc.push v) _ (I'.agr (Agr2.of_ext x2 O' (fun b hb => by simp at hb; rw [hb]; exact hS0) (fun b hb q => hSK (by simp at q; exact q ▸ hb)) (fun _ _ q => nomatch q)))
      (x2.on O' fun b hb => by simp at hb; rw [hb]; exact hS0) (Heap.get?_update_self _ hS' rfl) (by simp; omega) fun s'' c' x3 hS'' => hR s'' c' ?_ (by simpa using hS'')⟩)
      (big_line (by omega)) (by have := big_line (show (acc.push v).size ≤ 1000 by simp; omega); exact Nat.le_succ_of_le this)
    exact ((x.mono (fun b hb => .tail _ hb) fun _ h => h).trans (x2.mono (fun b hb => by simp at hb; simp [hb]) fun _ h => (nomatch h))).trans x3

/-- list(set) -/
theorem c_list {Q : Value → Shared → Prop} (B : Bs w h₀) (O : On h₀ s.heap) (r : Rm A 590 1900) (S : OSet w h₀ (HP s.heap) a i) (hz : i.l.length ≤ 900)
    (h : ∀ s' D, Ext [] [] s s' → s.heap.get? D = none → s'.heap.IsList D (vals i.l).toArray → Q (.ref D) s') : wpAny (model PR w) A (call (.type "list") [.ref a]) Q E s := by
  refine callType_codes (Q₁ := fun obj s₁ => obj = .ref s.heap.objs.size ∧ s₁ = { s with heap := s.heap.push { cls := .type "list", data := .seq #[] } }) F.called_list (F.typeCall_list_1 _) F.entry_list_init
    (code_list_new _ ⟨rfl, rfl⟩) fun obj s₁ h₁ => ?_
  obtain ⟨rfl, rfl⟩ := h₁
  have hSn : s.heap.get? s.heap.objs.size = none := none_of_size (Nat.le_refl _)
  have hS : (s.heap.push { cls := .type "list", data := .seq #[] }).get? s.heap.objs.size = some { cls := .type "list", data := .seq #[] } := Heap.get?_push_size _ rfl
  have x1 : Ext [] [] s { s with heap := s.heap.push { cls := .type "list", data := .seq #[] } } := Ext.push
  generalize hSa : s.heap.objs.size = Sa at hSn hS ⊢
  generalize hs1 : ({ s with heap := s.heap.push { cls := .type "list", data := .seq #[] } } : Shared) = s1 at x1 ⊢
  have hS1 : s1.heap.get? Sa = some { cls := .type "list", data := .seq #[] } := by rw [← hs1]; exact hS
  have O1 : On h₀ s1.heap := x1.on O fun _ h => nomatch h
  have hS0 : h₀.get? Sa = none := by
    cases q : h₀.get? Sa with
    | none => rfl
    | some o => have := O _ _ q; rw [hSn] at this; cases this
  have hSfp : Sa ∉ i.fp a := fp_not S hSn
  refine ⟨⟨_, hS1, rfl⟩, F.args_list_init_2 _ _, ?_⟩
  show wpAny _ A.in1.in1 (do let old ← Builtin.List.listItems (.ref Sa); Builtin.List.listUpdate (.ref Sa) (fun _ => #[]); letGo old.toList.reverse; Builtin.List.listExtendWith (.ref Sa) (.ref a) .none) _ _ s1
  refine wpAny_bind ?_
  unfold Builtin.List.listItems
  refine wpAny_bind (wpAny_seqItems hS1 rfl (wpAny_pure ?_))
  show wpAny _ A.in1.in1 (updateSeq Sa (fun _ => #[]) >>= fun _ => letGo (#[] : Array Value).toList.reverse >>= fun _ => Builtin.List.listExtendWith (.ref Sa) (.ref a) .none) _ _ s1
  refine wpAny_bind (wpAny_updateSeq hS1 rfl ?_)
  have hS2 := Heap.get?_update_self (Obj.mapSeq (fun _ => (#[] : Array Value))) hS1 rfl
  have x2 : Ext [Sa] [] s1 { s1 with heap := s1.heap.update Sa (Obj.mapSeq (fun _ => (#[] : Array Value))) } := Ext.heap (tk := s1.toks) fun b o hb e => (Heap.get?_update_other _ _ (fun h : Sa = b => hb (by simp [h]))).trans e
  generalize hs2 : ({ s1 with heap := s1.heap.update Sa (Obj.mapSeq (fun _ => (#[] : Array Value))) } : Shared) = s2 at x2 ⊢
  obtain ⟨c2, hS2'⟩ : ∃ c, s2.heap.get? Sa = some { cls := .type "list", dict := none, data := .seq #[] c, slots := #[] } := by rw [← hs2]; exact ⟨_, hS2⟩
  have x02 : Ext [] [] s s2 := x1.then x2 (fun x hx _ => .inl (by simp at hx; rw [hx]; exact hSn)) fun _ h => nomatch h
  have O2 : On h₀ s2.heap := x02.on O fun _ h => nomatch h
  have S2 : OSet w h₀ (HP s2.heap) a i := S.on x02.keep
  have X2 := B.X.keeps O2
  have I2 := inst_set (h := s2.heap) S2.ox S2.od
  have hSa : Sa ≠ a := fun e => hSfp (e ▸ fp_a)
  refine wpAny_bind (wpAny_letGo ?_)
  unfold Builtin.List.listExtendWith
  refine wpAny_bind (I2.type.here ?_)
  have h1 : Builtin.List.listSameRef (.ref Sa) (.ref a) = false := by simp [Builtin.List.listSameRef, hSa]
  have h2 : (Value.ref 121 == Value.type "list") = false := rfl
  have h3 : (Value.ref 121 == Value.type "tuple") = false := rfl
  simp only [h1, h2, h3, Bool.or_false, Bool.false_eq_true, if_false]
  have r2 : Rm A.in1.in1 590 1902 := r.in1.in1
  refine wpAny_bind (i_set (A := A.in1.in1) B O2 (Nat.lt_trans r.d (by omega)) S2 fun h3 gs tk G L o3 hL hG hne It hb => ?_)
  refine wpAny_bind (wpAny_holding ?_)
  have x3 : Ext [] [] s2 { s2 with heap := h3, gens := s2.gens.push gs, toks := tk } := Ext.pushed hb o3
  have K3 : L ≠ Sa := fun e => by rw [e, hS2'] at hL; cases hL
  have K4 : G ≠ Sa := fun e => by rw [e, hS2'] at hG; cases hG
  have L0 : h₀.get? L = none := by
    cases q : h₀.get? L with
    | none => rfl
    | some o => have := O2 _ _ q; rw [hL] at this; cases this
  have Ln : s2.heap.get? L = none := hL
  have Sfp : Sa ∉ G :: L :: i.fp a := by simp only [List.mem_cons, not_or]; exact ⟨K4.symm, K3.symm, hSfp⟩
  have Iti := it_gen B hne It
  generalize hs3 : ({ s2 with heap := h3, gens := s2.gens.push gs, toks := tk } : Shared) = s3 at x3 Iti ⊢
  have O3 : On h₀ s3.heap := x3.on O2 fun _ h => nomatch h
  have S3 : OSet w h₀ (HP s3.heap) a i := S2.on x3.keep
  have X3 := B.X.keeps O3
  have I3 := inst_set (h := s3.heap) S3.ox S3.od
  unfold Builtin.List.listLengthHint
  refine wpAny_bind (m := specialOf (.ref a) (Str.ofString "__len__")) (wpAny_bind (I3.type.here ((looks_findIn X3 (os_len w)).here ?_)))
  dsimp only
  refine wpAny_ite_split (fun q => Bool.noConfusion (show false = true from q)) (fun _ => ?_)
  refine wpAny_ite_split (fun _ => ?_) (fun q => absurd rfl q)
  refine wpAny_bind (wpAny_rule ?_)
  refine wpAny_bind (wpAny_attempt (c_len B O3 (r2.le (by omega) (by omega)) S3 hz fun s4 t x4 => ?_))
  dsimp only
  refine wpAny_bind (m := asInt? (.int i.l.length t)) (wpAny_pure ?_)
  dsimp only
  refine wpAny_ite_split (fun q => ?_) (fun _ => wpAny_pure ?_)
  · exfalso
    have hz' := big_line (show i.l.length ≤ 1000 by omega)
    unfold Builtin.List.listTooLong at q
    simp only [Int.toNat_natCast, decide_eq_true_eq] at q
    omega
  have S34 : s4.heap.get? Sa = some { cls := .type "list", dict := none, data := .seq #[] c2, slots := #[] } := x4.keep _ _ (x3.keep _ _ hS2')
  have O4 : On h₀ s4.heap := x4.on O3 fun _ h => nomatch h
  have a34 : Agr2 h₀ (G :: L :: i.fp a) [s2.gens.size] s3 s4 := Agr2.of_ext x4 O3 (fun _ q => nomatch q) (fun _ _ q => nomatch q) (fun _ _ q => nomatch q)
  have fin : ∀ s5 c5, Ext [Sa] [] s4 s5 → s5.heap.get? Sa = some { cls := .type "list", dict := none, data := .seq #[] c5, slots := #[] } →
      wpAny (model PR w) A.in1.in1 (again (.builtin "list.extend.loop" ⟨[.ref Sa, .ref G, .none], []⟩))
        (fun fin s' => match fin with | .done f => wants (fun r s₂ => r = .none ∧ Q (.ref Sa) s₂) E (.ok f) s' | .again c' => c'.quiet = true ∧ codeAny (model PR w) A.in1 c' (wants (fun r s₂ => r = .none ∧ Q (.ref Sa) s₂) E) s')
        (fun e s' => wants (fun r s₂ => r = .none ∧ Q (.ref Sa) s₂) E (.error e) s') s5 := by
    intro s5 c5 x5 hS5
    have a45 : Agr2 h₀ (G :: L :: i.fp a) [s2.gens.size] s4 s5 := Agr2.of_ext x5 O4 (fun b hb => by simp at hb; rw [hb]; exact hS0) (fun b hb q => Sfp (by simp at q; exact q ▸ hb)) (fun _ _ q => nomatch q)
    refine wpAny_pure ⟨plainId_quiet F.plain_extend_loop _, extend_it (r.in1.le (by omega) (by omega)) (D := [L]) (G := [s2.gens.size]) (K := G :: L :: i.fp a) (fun b hb => by simp at hb; rw [hb]; exact L0) hS0 Sfp (fun b hb => by simp at hb; rw [hb]; simp) (vals i.l) s5 #[] c5 (Iti.agr (a34.trans a45)) a45.o hS5
      (by simp [vals]; omega) fun s6 c6 x6 hS6 => ⟨rfl, h s6 Sa ?_ hSn ⟨_, hS6, rfl, c6, by simp⟩⟩⟩
    refine (x02.trans (x3.trans x4)).then ((x5.mono (D' := Sa :: [L]) (G' := [s2.gens.size]) (fun b hb => by simp at hb; simp [hb]) (fun _ h => nomatch h)).trans x6) (fun b hb _ => ?_) (fun g hg _ => .inl ?_)
    · simp at hb
      rcases hb with rfl | rfl
      · exact .inl hSn
      · refine .inl ?_
        cases q : s.heap.get? b with
        | none => rfl
        | some o => have := x02.keep _ _ q; rw [Ln] at this; cases this
    · simp at hg; rw [hg]
      exact Array.getElem?_eq_none x02.gz
  refine wpAny_ite_split (fun _ => ?_) (fun _ => fin s4 c2 Ext.refl S34)
  refine wpAny_bind (wpAny_rule ?_)
  refine wpAny_bind ?_
  show wpAny _ A.in1.in1 (updateSeq Sa (·.push .none) >>= fun _ => updateSeq Sa (·.pop)) _ _ _
  refine wpAny_bind (wpAny_updateSeq S34 rfl ?_)
  have hS5 := Heap.get?_update_self (Obj.mapSeq (·.push Value.none)) S34 rfl
  refine wpAny_updateSeq (hz := by seq_fits) hS5 rfl ?_
  have hS6 := Heap.get?_update_self (Obj.mapSeq (·.pop)) hS5 rfl
  refine fin _ _ (Ext.heap (tk := s4.toks) fun b o hb e => ?_) hS6
  have hb' : Sa ≠ b := fun h => hb (by simp [h])
  exact (Heap.get?_update_other _ _ hb').trans ((Heap.get?_update_other _ _ hb').trans e)
theorem in_set {Q : Value → Shared → Prop} (B : Bs w h₀) (O : On h₀ s.heap) (r : Rm A 600 1980) (S : OSet w h₀ (HP s.heap) a i) (hz : i.l.length ≤ 900)
    (h : ∀ s', Ext [] [] s s' → Q (.bool (decide (key ∈ i.keys))) s') : wpAny (model PR w) A (compareOp .In (.str key tk) (.ref a)) Q E s := by
  have X := B.X.keeps O
  have I := inst_set (h := s.heap) S.ox S.od
  refine wpAny_bind (m := contains (.ref a) (.str key tk)) ?_
  unfold contains
  refine wpAny_holding (wpAny_bind (wpAny_bind (I.type.here ((looks_findIn X (os_contains w)).here ?_))))
  rw [if_neg (by simp)]
  refine wpAny_bind (unlessNone_K X I (os_contains w) (beq_iff_eq.mpr (fn_contains w)) (wpAny_call (a_contains B O (r.le (by omega) (by omega)) S hz fun s' x => ?_)))
  exact wpAny_truthy_bool (wpAny_pure (h s' x))
end
end Mine
set_option Elab.async false
set_option maxRecDepth 100000
set_option maxHeartbeats 1000000
namespace Mine
open PySem PySem.W PyProof.Rows PySem.Calls PySem.W.X PySem.Builtin

theorem filled18 : PySem.Challenge.rw_ay0038_01 = PySem.Challenge.rw_ay0038_01 ∧ hd.heap_39 = hd.heap_39 := by
  k_fill
  exact ⟨rfl, rfl⟩

section
variable {w : World} {h₀ : Heap} {A : Around} {s : Shared} {R : Result → Shared → Prop} {a b : Nat} {i j : SetI} {E : Value → Shared → Prop} {key : Str} {tk : Tok} {env : Env} {x : Str} {q : Pos} {v : Value} {m : Str → Option Value}

theorem enter0 {name qual : Str} {params : Arguments} {body : List Stmt} {scope : Scope} {dV kV doc pm cdv ct oc : Value} {an od : Option Addr} {osl : Array (Option Value)} {f : Addr} {args : Args} {binds : List (Str × Value)}
    (B : Bs w h₀) (O : On h₀ s.heap)
    (ho : (hd.heap_39 w.params).lookup f = some ⟨oc, od, .func (fnOf name qual params body scope dV kV doc pm an cdv ct), osl⟩) (hcd : codeIn (hd.heap_39 w.params) cdv qual = true) (hroom : A.depth < recursionLimit)
    (hbind : BindsTo s (fnOf name qual params body scope dV kV doc pm an cdv ct) args binds) (hloc : ∀ y ∈ binds, scope.names.lookup y.1 = some .local)
    (h : ∀ L s₁, Ext [] [] s s₁ → s₁.heap.Ns L (fun y => binds.reverse.lookup y) → s.heap.get? L = none →
      wpAny (model PR w) (A.deeper (envOf qual scope L f cdv)) (execs body (envOf qual scope L f cdv))
        (fun fl s' => R (.ok (.ret (match fl with | .ret v => v | _ => .none))) s')
        (fun e s' => wpAny (model PR w) (A.deeper (envOf qual scope L f cdv)) (leaving (envOf qual scope L f cdv) e) (fun _ s'' => R (.error e) s'') (fun e' s'' => R (.error e') s'') s') s₁)
    (hco : scope.isCoroutine = false) (hgen : scope.isGenerator = false) (hk : scope.kind = .function)
    (hcell : ∀ x ∈ scope.names, x.2 ≠ .cell) : codeAny (model PR w) A (.call (.ref f) args) R s :=
  enter (news := []) B O (fun _ h => nomatch h) ho hcd hroom hbind hloc (fun g L h₁ _ _ _ _ hg F _ _ _ _ hL =>
    h L _ (Ext.onh fun b o e => F.keep b o (hg b o (fun h => nomatch h) e)) F.ns hL) hco hgen hk hcell

theorem lookup_isSome {x : Str} : ∀ {l : List (Str × Addr)}, (l.lookup x).isSome = (l.map (·.1)).contains x
  | [] => rfl
  | (n, c) :: r => by
    rw [List.lookup_cons, List.map_cons, List.contains_cons]
    cases q : x == n with
    | true => simp
    | false => simp only [Bool.false_or]; exact lookup_isSome
def kindsB (scope : Scope) (binds : List (Str × Value)) : Bool := binds.all fun x => scope.names.lookup x.1 == some .local || (scope.names.lookup x.1 == some .cell && ((cellsFrom 0 scope.names []).lookup x.1).isSome)
theorem kinds_of {scope : Scope} {binds : List (Str × Value)} (h : kindsB scope binds = true) : ∀ n, ∀ x ∈ binds, scope.names.lookup x.1 = some .local ∨ (scope.names.lookup x.1 = some .cell ∧ ((cellsFrom n scope.names []).lookup x.1).isSome = true) := by
  intro n x hx
  have := List.all_eq_true.mp h x hx
  simp only [Bool.or_eq_true, Bool.and_eq_true, beq_iff_eq] at this
  refine this.imp id fun y => ⟨y.1, ?_⟩
  rw [lookup_isSome, cellsFrom_names scope.names n 0 [] [] rfl, ← lookup_isSome]
  exact y.2

theorem enterC {name qual : Str} {params : Arguments} {body : List Stmt} {scope : Scope} {dV kV doc pm cdv ct oc : Value} {an od : Option Addr} {osl : Array (Option Value)} {f : Addr} {args : Args} {binds : List (Str × Value)}
    (B : Bs w h₀) (O : On h₀ s.heap)
    (ho : (hd.heap_39 w.params).lookup f = some ⟨oc, od, .func (fnOf name qual params body scope dV kV doc pm an cdv ct), osl⟩) (hcd : codeIn (hd.heap_39 w.params) cdv qual = true) (hroom : A.depth < recursionLimit)
    (hbind : BindsTo s (fnOf name qual params body scope dV kV doc pm an cdv ct) args binds)
    (hkb : kindsB scope binds = true)
    (hnd : ((cellsFrom 0 scope.names []).map (·.1)).Nodup)
    (h : ∀ L s₁, Ext [] [] s s₁ → s₁.heap.Ns L (bindL (envOfC qual scope L f cdv).kindOf binds fun _ => none) → s.heap.objs.size = L →
      (∀ n c, (cellsFrom (L + 1) scope.names []).lookup n = some c → s₁.heap.IsCell c (bindC (envOfC qual scope L f cdv).kindOf binds (fun _ => none) n)) →
      wpAny (model PR w) (A.deeper (envOfC qual scope L f cdv)) (execs body (envOfC qual scope L f cdv))
        (fun fl s' => R (.ok (.ret (match fl with | .ret v => v | _ => .none))) s')
        (fun e s' => wpAny (model PR w) (A.deeper (envOfC qual scope L f cdv)) (leaving (envOfC qual scope L f cdv) e) (fun _ s'' => R (.error e) s'') (fun e' s'' => R (.error e') s'') s') s₁)
    (hco : scope.isCoroutine = false) (hgen : scope.isGenerator = false) (hk : scope.kind = .function) : codeAny (model PR w) A (.call (.ref f) args) R s := by
  obtain ⟨loose, mean, mg, mb, T⟩ := B.T
  have X := B.X.keeps O
  refine codeAny_call_function (fd := fnOf name qual params body scope dV kV doc pm an cdv ct) (body := body) hroom (X _ _ ho) rfl hco hgen rfl (codeRec_of X hcd) (hbind _ _ _ _ ?_)
  refine wpAny_newFunctionEnv_cells hk (kinds_of hkb _) fun env' he s' x => ?_
  subst he
  refine ⟨(T.nolimit.keeps O).keeps x.toInCall.keep, codeAny_func ?_⟩
  obtain ⟨h₁, tk, e, _⟩ := x.done
  have hk₁ := x.toInCall.keep
  exact h s.heap.objs.size s' (by rw [e] at hk₁ ⊢; exact Ext.onh hk₁) x.toInCall.ns rfl x.cell

theorem n_local (hk : env.scope.kind = .function) (kx : env.kindOf x = some .local) (hn : s.heap.Ns env.locals m) (hv : m x = some v) {Q : Value → Shared → Prop} (h : Q v s) (hd : (x == ("__debug__" : Str)) = false := by decide) :
    wpAny (model PR w) A (eval (.Name x q) env) Q E s := wpAny_Name (wpAny_loadName_local hk kx hn hv h) hd
theorem n_cell {c : Addr} (hk : env.scope.kind = .function) (kx : env.kindOf x = some .cell) (hc : env.cells.lookup x = some c) (hcl : s.heap.IsCell c (some v)) {Q : Value → Shared → Prop} (h : Q v s) (hd : (x == ("__debug__" : Str)) = false := by decide) :
    wpAny (model PR w) A (eval (.Name x q) env) Q E s := wpAny_Name (wpAny_loadName_cell hk kx hc hcl h) hd
theorem n_global (B : Bs w h₀) (O : On h₀ s.heap) (hk : env.scope.kind = .function) (kx : env.kindOf x = some .globalImplicit) (hg : env.globals = mainGlobals) (e : nsIn (hd.heap_39 w.params) mainGlobals x = some (some v)) {Q : Value → Shared → Prop} (h : Q v s) (hd : (x == ("__debug__" : Str)) = false := by decide) :
    wpAny (model PR w) A (eval (.Name x q) env) Q E s := by
  obtain ⟨loose, mean, mg, mb, T⟩ := B.T
  exact Name_function_global hk kx (loadGlobal_global (env := env) (by rw [hg]; exact T.g.keeps O) (mg_of B.X T.g e) h) hd
theorem n_builtin (B : Bs w h₀) (O : On h₀ s.heap) (hk : env.scope.kind = .function) (kx : env.kindOf x = some .globalImplicit) (hg : env.globals = mainGlobals) (hb : env.builtins = builtinsNs) (e : nsIn (hd.heap_39 w.params) mainGlobals x = some none) (hv : bootBuiltins x = some v) (hne : x ≠ "__name__") {Q : Value → Shared → Prop} (h : Q v s)
    (hd : (x == ("__debug__" : Str)) = false := by decide) : wpAny (model PR w) A (eval (.Name x q) env) Q E s := by
  obtain ⟨loose, mean, mg, mb, T⟩ := B.T
  exact Name_function_global hk kx (loadGlobal_builtin (env := env) (by rw [hg]; exact T.g.keeps O) (mg_none_of B.X T.g e) (by rw [hb]; exact T.b.keeps O) ((T.builtins x hne).trans hv) h) hd

theorem strs_vals (l : List Nd) : StrsAre (vals l) (l.map (·.key)) := by
  induction l with
  | nil => exact .nil
  | cons n r ih => exact .cons _ _ ih

def OkS (l : List Str) : Prop := ∀ x ∈ l, PyData.strOk x = true
theorem reads_strs {h : Heap} {vs : List Value} {ss : List Str} (x : StrsAre vs ss) : ReadsAll h vs (ss.map PyData.str) [] := by
  induction x with
  | nil => exact .nil
  | cons n t r ih => exact .cons (.str n t) ih
theorem reads_list {h : Heap} {a : Addr} {vs : List Value} {ss : List Str} (l : h.IsList a vs.toArray) (x : StrsAre vs ss) : Reads h (.ref a) (.list (ss.map PyData.str)) [a] := by
  obtain ⟨o, ho, hc, n, hd⟩ := l
  exact Reads.list ho hc hd (by simpa using reads_strs x)
theorem shaped_strs {ss : List Str} (h : OkS ss) : PySem.SeqAt.shaped (.list (ss.map PyData.str)) = true := by
  have h1 : PyData.canLayAll0 (ss.map PyData.str) = true := by
    induction ss with
    | nil => simp [PyData.canLayAll0]
    | cons x r ih => simp [PyData.canLayAll0, PyData.canLay0, h x (.head _), ih fun y hy => h y (.tail _ hy)]
  have h2 : PyData.depthAll (ss.map PyData.str) = 0 := by
    clear h h1
    induction ss with
    | nil => simp [PyData.depthAll]
    | cons x r ih => simp [PyData.depthAll, PyData.depth, ih]
  simp [PySem.SeqAt.shaped, PyData.canLay0, PyData.depth, h1, h2]
theorem eqv_strs : ∀ xs ys : List Str, PyData.eqvAll (xs.map PyData.str) (ys.map PyData.str) = decide (xs = ys)
  | [], [] => by simp [PyData.eqvAll]
  | [], _ :: _ => by simp [PyData.eqvAll]
  | _ :: _, [] => by simp [PyData.eqvAll]
  | x :: r, y :: t => by
    simp only [List.map_cons, PyData.eqvAll, PyData.eqv, eqv_strs r t, List.cons.injEq]
    by_cases h1 : x = y <;> by_cases h2 : r = t <;> simp [h1, h2]
theorem eq_strs {x y : Nat} {vs us : List Value} {ss ts : List Str} {Q : Value → Shared → Prop} (hl : s.heap.IsList x vs.toArray) (hi : StrsAre vs ss) (hl' : s.heap.IsList y us.toArray) (hi' : StrsAre us ts) (o1 : OkS ss) (o2 : OkS ts) (r : Rm A 600 1980)
    (h : Q (.bool (decide (ss = ts))) s) : wpAny (model PR w) A (compareOp .Eq (.ref x) (.ref y)) Q E s :=
  eq_dataH (reads_list hl hi) (reads_list hl' hi') (shaped_strs o1) (shaped_strs o2) (Nat.lt_of_lt_of_le (Nat.add_lt_add_right r.u 64) (by decide)) (by simp only [PyData.eqv]; rw [eqv_strs]; exact h)
theorem ne_strs {x y : Nat} {vs us : List Value} {ss ts : List Str} {Q : Value → Shared → Prop} (hl : s.heap.IsList x vs.toArray) (hi : StrsAre vs ss) (hl' : s.heap.IsList y us.toArray) (hi' : StrsAre us ts) (o1 : OkS ss) (o2 : OkS ts) (r : Rm A 600 1980)
    (h : Q (.bool (!decide (ss = ts))) s) : wpAny (model PR w) A (compareOp .NotEq (.ref x) (.ref y)) Q E s :=
  ne_dataH (reads_list hl hi) (reads_list hl' hi') (shaped_strs o1) (shaped_strs o2) (Nat.lt_of_lt_of_le (Nat.add_lt_add_right r.u 64) (by decide)) (by simp only [PyData.eqv]; rw [eqv_strs]; exact h)

local macro_rules | `(tactic| walk_at "my enterC") => `(tactic| (k_dflt (refine' enterC ?k1 ?k2 ?k6 ?k7 ?k8 ?k9 ?kB ?c5 ?_ ?c2 ?c3 ?c4; (case k1 => assumption); (case k2 => assumption); (case k6 => k_is); (case k7 => k_is); (case k8 => first | decide | exact Nat.lt_trans (Rm.d (by assumption)) (by decide)); (case k9 => exact BindsTo.of_eq rfl); (case kB => first | rfl | decide | kernel_rfl); (case c5 => decide); (case c2 => exact rfl); (case c3 => exact rfl); (case c4 => exact rfl))))
/-- == -/
theorem a_eq (B : Bs w h₀) (O : On h₀ s.heap) (r : Rm A 580 1880) (S : OSet w h₀ (HP s.heap) a i) (hz : i.l.length ≤ 900) (T : OSet w h₀ (HP s.heap) b j) (hz2 : j.l.length ≤ 900) (o1 : OkS i.keys) (o2 : OkS j.keys)
    (ret : ∀ s', Ext [] [] s s' → R (.ok (.ret (.bool (decide (i.keys = j.keys))))) s') : codeAny (model PR w) A (.call (.ref 118) ⟨[.ref a, .ref b], []⟩) R s := by
  walk_at "my enterC"
  intro L s1 x1 hn hL hc
  have hcs := hc "self" _ rfl
  have O1 := x1.on O fun _ h => nomatch h
  refine wpAny_execs_cons (wpAny_If ?_)
  refine wpAny_isTrue_value ?_
  refine wpAny_Call_NameR (n_builtin B O1 rfl rfl rfl rfl (by k_is) rfl (by decide) ?_)
  refine callWith_builtin1 (args_cons (n_local rfl rfl hn rfl (args_cons (n_global B O1 rfl rfl rfl (by k_is) (args_nil ?_)))))
  refine isi_call (t := .ref 121) (B.X.keeps O1) (fun M => (inst_set (h := s1.heap) (T.on x1.keep).ox (T.on x1.keep).od).type) (by k_is) (by simp) ?_
  refine wpAny_truthy_bool ((if_pos rfl).mpr ?_)
  have S1 := S.on x1.keep
  have T1 := T.on x1.keep
  have r1 : ∀ env, Rm (A.deeper env) 581 1883 := fun _ => r.deeper
  refine wpAny_execs_cons (wpAny_Return_some ?_)
  refine wpAny_And2 ?_
  refine wpAny_Compare1 ?_
  refine wpAny_Call_NameR (n_builtin B O1 rfl rfl rfl rfl (by k_is) rfl (by decide) ?_)
  refine callWith_builtin1 (args_cons (n_cell rfl rfl rfl hcs (args_nil ?_)))
  refine c_len B O1 ((r1 _).le (by decide) (by decide)) S1 hz fun s2 t2 x2 => ?_
  have O2 := x2.on O1 fun _ h => nomatch h
  refine wpAny_Call_NameR (n_builtin B O2 rfl rfl rfl rfl (by k_is) rfl (by decide) ?_)
  refine callWith_builtin1 (args_cons (n_local rfl rfl (hn.keeps x2.keep) rfl (args_nil ?_)))
  refine c_len B O2 ((r1 _).le (by decide) (by decide)) (T1.on x2.keep) hz2 fun s3 t3 x3 => ?_
  have O3 := x3.on O2 fun _ h => nomatch h
  have x13 : Ext [] [] s s3 := (x1.trans x2).trans x3
  refine eq_int ?_
  refine wpAny_truthy_bool ?_
  split
  · refine wpAny_Compare1 ?_
    refine wpAny_Call_NameR (n_builtin B O3 rfl rfl rfl rfl (by k_is) rfl (by decide) ?_)
    refine callWith_type1 (args_cons (n_cell rfl rfl rfl ((hcs.keeps x2.keep).keeps x3.keep) (args_nil ?_)))
    refine c_list B O3 ((r1 _).le (by decide) (by decide)) (S1.on (x2.trans x3).keep) hz fun s4 D4 x4 hD4 hl4 => ?_
    have O4 := x4.on O3 fun _ h => nomatch h
    refine wpAny_Call_NameR (n_builtin B O4 rfl rfl rfl rfl (by k_is) rfl (by decide) ?_)
    refine callWith_type1 (args_cons (n_local rfl rfl (((hn.keeps x2.keep).keeps x3.keep).keeps x4.keep) rfl (args_nil ?_)))
    refine c_list B O4 ((r1 _).le (by decide) (by decide)) (T1.on ((x2.trans x3).trans x4).keep) hz2 fun s5 D5 x5 hD5 hl5 => ?_
    refine eq_strs (hl4.at fun o e => x5.keep _ o e) (strs_vals i.l) hl5 (strs_vals j.l) o1 o2 ((r1 _).le (by decide) (by decide)) ?_
    exact ret _ ((x13.trans x4).trans x5)
  · rename_i hne
    have e : decide (i.keys = j.keys) = false := by
      refine decide_eq_false fun q => hne ?_
      have := congrArg List.length q
      unfold SetI.keys at this
      simp at this
      simp [this]
    have := ret s3 x13
    rw [e] at this
    have e2 : (((i.l.length : Nat) : Int) == ((j.l.length : Nat) : Int)) = false := by simpa using hne
    rw [e2]
    exact this
end
end Mine
set_option Elab.async false
set_option maxRecDepth 100000
set_option maxHeartbeats 1000000
namespace Mine
open PySem PySem.W PyProof.Rows PySem.Calls PySem.W.X PySem.Builtin

theorem filled19 : PySem.Challenge.rw_ay0038_01 = PySem.Challenge.rw_ay0038_01 ∧ hd.heap_39 = hd.heap_39 := by
  k_fill
  exact ⟨rfl, rfl⟩

section
variable {w : World} {h₀ : Heap} {A : Around} {s : Shared} {R : Result → Shared → Prop} {a b : Nat} {i j : SetI} {E : Value → Shared → Prop} {key : Str} {tk : Tok} {env : Env} {x : Str} {q : Pos} {v : Value} {m : Str → Option Value}

theorem os_first (w : World) : notFirst (KK w) 121 (.ref 121) = true := by kernel_rfl
/-- set == set -/
theorem cmp_set {Q : Value → Shared → Prop} (B : Bs w h₀) (O : On h₀ s.heap) (r : Rm A 580 1880) (S : OSet w h₀ (HP s.heap) a i) (hz : i.l.length ≤ 900) (T : OSet w h₀ (HP s.heap) b j) (hz2 : j.l.length ≤ 900) (o1 : OkS i.keys) (o2 : OkS j.keys)
    (h : ∀ s', Ext [] [] s s' → Q (.bool (decide (i.keys = j.keys))) s') : wpAny (model PR w) A (compareOp .Eq (.ref a) (.ref b)) Q E s := by
  have X := B.X.keeps O
  have I := inst_set (h := s.heap) S.ox S.od
  have J := inst_set (h := s.heap) T.ox T.od
  have one : wpAny (model PR w) A (tryCompare (.ref a) "__eq__" (.ref b)) (fun r s' => ∃ v, r = some v ∧ Q v s') E s := by
    unfold tryCompare
    refine wpAny_bind (ifBound_K X I (os_eq w) (beq_iff_eq.mpr (fn_eq w)) (wpAny_call (a_eq B O r S hz T hz2 o1 o2 fun s' x => ?_)))
    exact wpAny_pure ⟨_, rfl, h s' x⟩
  show wpAny _ A (richCompare .Eq (.ref a) (.ref b)) Q E s
  unfold richCompare
  simp only [oneThing_ref]
  refine wpAny_holding (wpAny_bind (wpAny_cRoomFor (Nat.lt_trans r.u (by decide)) ?_))
  refine wpAny_bind (I.type.here (wpAny_bind (J.type.here ?_)))
  split
  · rename_i q
    exfalso
    simp at q
  · refine wpAny_bind (wpAny_pure ?_)
    simp only [Bool.false_eq_true, if_false]
    refine wpAny_bind (wpAny_mono one (fun r s' z => ?_) fun _ _ e => e)
    obtain ⟨v, rfl, hq⟩ := z
    exact wpAny_pure hq

theorem fn_disc (w : World) : typeIn (KK w) (.ref 75) = some (.type "function") := by kernel_rfl
theorem fn_add (w : World) : typeIn (KK w) (.ref 68) = some (.type "function") := by kernel_rfl
theorem fn_pop (w : World) : typeIn (KK w) (.ref 97) = some (.type "function") := by kernel_rfl
theorem kp_disc (w : World) : keepIn (KK w) (.ref 75) = true := by kernel_rfl
theorem kp_add (w : World) : keepIn (KK w) (.ref 68) = true := by kernel_rfl
theorem kp_pop (w : World) : keepIn (KK w) (.ref 97) = true := by kernel_rfl
theorem kp_cls (w : World) : keepIn (KK w) (.ref 121) = true := by kernel_rfl
theorem pop_last {l : List Str} {k : Str} (h : (l ++ [k]).Nodup) : disL (l ++ [k]) k = l := by
  unfold disL
  rw [List.nodup_append] at h
  rw [List.filter_append, List.filter_eq_self.mpr]
  · simp
  · intro y hy; simp only [decide_eq_true_eq]; rintro rfl; exact h.2.2 y hy y (by simp) rfl
theorem pop_first {l : List Str} {k : Str} (h : (k :: l).Nodup) : disL (k :: l) k = l := by
  unfold disL
  rw [List.nodup_cons] at h
  rw [List.filter_cons, if_neg (by simp), List.filter_eq_self]
  intro y hy; simp only [decide_eq_true_eq]; rintro rfl; exact h.1 hy

theorem leaves_newW {M : Model} {base h : Heap} {outer : List Env} {L e : Nat} {X : String} {Q : Unit → Shared → Prop}
    (hfr : A.frames = some (env :: outer)) (hf : env.frame = some L) (hkb : base.StaysIn h) (hl : h.FunFrames base (env :: outer)) (hx : Heap.NewExc h s.heap e X)
    (hQ : ∀ h' t, Heap.FlyingW base outer e (.type X) t h' → s.heap.UpToSlots h' → Q () { s with heap := h' }) : wpAny M A (leaving env (.ref e)) Q E s := by
  obtain ⟨ob, t, he, hc, hd⟩ := hx.there
  have fresh : ∀ b, h.get? b = none → base.get? b = none := fun b hb => by
    cases hq : base.get? b with
    | none => rfl
    | some o' => have := hkb b o' hq; rw [hb] at this; cases this
  refine wpAny_leaving_firstW (a0 := t) hfr (hl.of_keeps fun b o hb _ => ⟨o, hx.keeps b o hb, rfl⟩) hf he (fun b o hb => hx.keeps b o (hkb b o hb)) (fresh e hx.new) hd rfl rfl fun h' hL => ?_
  obtain ⟨k1, ⟨_, _, k2⟩, k3, k4⟩ := hL
  exact hQ h' t ⟨k1, fresh e hx.new, k2, hc ▸ k3⟩ k4

/-- pop -/
theorem a_pop {lenv : Env} {Lw : Nat} {mw : Str → Option Value} (last : Bool) (args : List Value) (hargs : args = if last then [.ref a] else [.ref a, .bool false]) (B : Bs w h₀) (O : On h₀ s.heap) (r : Rm A 580 1880) (S : OSet w h₀ (HP s.heap) a i) (hz : i.l.length ≤ 900)
    (hfr : A.frames = some [lenv]) (hfl : lenv.frame = some Lw) (hkl : lenv.scope.kind = .function) (hnw : s.heap.Ns Lw mw)
    (err : ∀ s' e t, i.l = [] → Ext [Lw] [] s s' → Heap.FlyingW (hideAll s.heap [Lw]) [lenv] e (.type "KeyError") t s'.heap → s.heap.UpToSlots s'.heap → R (.error (.ref e)) s')
    (ret : ∀ s' i' k ks t, Ext (i.fp a) [] s s' → OSet w h₀ (HP s'.heap) a i' → i'.keys = ks → (i.keys = if last then ks ++ [k] else k :: ks) → (∀ b ∈ i'.fp a, b ∈ i.fp a) → R (.ok (.ret (.str k t))) s') :
    codeAny (model PR w) A (.call (.ref 97) ⟨args, []⟩) R s := by
  obtain ⟨P, hP⟩ : ∃ P : Str → List Str → Prop, P = fun k ks => i.keys = if last then ks ++ [k] else k :: ks := ⟨_, rfl⟩
  have ret' : ∀ s' i' k ks t, Ext (i.fp a) [] s s' → OSet w h₀ (HP s'.heap) a i' → i'.keys = ks → P k ks → (∀ b ∈ i'.fp a, b ∈ i.fp a) → R (.ok (.ret (.str k t))) s' := fun s' i' k ks t h1 h2 h3 h4 h5 => ret s' i' k ks t h1 h2 h3 (by rw [hP] at h4; exact h4) h5
  cases last
  all_goals (simp only [Bool.false_eq_true, if_false, if_true] at hargs; subst hargs)
  all_goals k_dflt (refine' enter0 ?k1 ?k2 ?k6 ?k7 ?k8 ?k9 ?kB ?_ ?c2 ?c3 ?c4 ?c5; (case k1 => assumption); (case k2 => assumption); (case k6 => k_is); (case k7 => k_is); (case k8 => exact Nat.lt_trans r.d (by decide)); (case k9 => first | exact BindsTo.of_eq rfl | exact binds_K (B.X.keeps O) rfl (by k_is) rfl rfl rfl); (case c5 => decide); (case kB => exact locs rfl); (case c2 => exact rfl); (case c3 => exact rfl); (case c4 => exact rfl))
  all_goals
    intro L s1 x1 hn hL
    have O1 := x1.on O fun _ h => nomatch h
    have r1 : ∀ env, Rm (A.deeper env) 581 1883 := fun _ => r.deeper
    have S1 := S.on x1.keep
    have hLw : L ≠ Lw := fun e => by obtain ⟨o, ho⟩ := Ns.obj hnw; rw [← e, hL] at ho; cases ho
    refine wpAny_execs_cons (wpAny_If ?_)
    refine wpAny_isTrue_Not (wpAny_isTrue_value (n_local rfl rfl hn rfl ?_))
    refine t_set B O1 ((r1 _).le (by decide) (by decide)) S1 hz fun s2 x2 => ?_
    have O2 := x2.on O1 fun _ h => nomatch h
    have S2 := S1.on x2.keep
    have hn2 := hn.keeps x2.keep
    have x02 : Ext [] [] s s2 := x1.trans x2
    rcases Nat.eq_zero_or_pos i.l.length with hz0 | hzp
    · rw [hz0]
      refine (if_pos rfl).mpr ?_
      refine wpAny_execs_cons (Raise_new r.h ?_)
      refine wpAny_Call_NameR (n_builtin B O2 rfl rfl rfl rfl (by k_is) rfl (by decide) ?_)
      refine PyProof.Rows.callWith_type1 (args_cons (Calls.Constant_str (args_nil (call_exc_raise (hrest := big_line (Nat.le_of_ble_eq_true rfl)) excClass_KeyError fun h3 e hx => ?_))))
      have hnw2 := hnw.keeps x02.keep
      have hb1 : (hideAll s.heap [Lw]).get? Lw = none := hideAll_none _ (by simp)
      have hbL : (hideAll s.heap [Lw]).get? L = none := by
        cases q : (hideAll s.heap [Lw]).get? L with
        | none => rfl
        | some o => have := of_hideAll _ q; rw [hL] at this; cases this
      have stays : (hideAll s.heap [Lw]).StaysIn s2.heap := fun b o e => x02.keep b o (of_hideAll _ e)
      have ffs : ∀ env' : Env, env'.scope.kind ≠ .module → env'.frame = some L → s2.heap.FunFrames (hideAll s.heap [Lw]) (env' :: [lenv]) := fun env' h1 h2 => .cons h1 h2 hn2 hbL (.cons (by rw [hkl]; decide) hfl hnw2 hb1 trivial)
      refine leaves_newW (base := hideAll s.heap [Lw]) (outer := [lenv]) (by show A.frames.map _ = _; rw [hfr]; rfl) rfl stays (ffs _ (fun e => nomatch (show ScopeKind.function = ScopeKind.module from e)) rfl) hx fun h4 t hF hU => ?_
      have xx : Ext [Lw] [] s { s2 with heap := h4, toks := s2.toks + 1 } := by
        obtain ⟨⟨h', tk', gs', e'⟩, -, g1, g2, g3⟩ := x02
        exact ⟨⟨h4, s2.toks + 1, gs', by rw [e']⟩, fun b o hb e => hF.1 b o (hideAll_get _ e hb), g1, g2, g3⟩
      exact err _ e t (List.length_eq_zero_iff.mp hz0) xx hF (((Heap.UpToSlots.of_keeps x02.keep).trans (Heap.UpToSlots.of_keeps hx.keeps)).trans hU)
    · refine (if_neg (by rw [decide_eq_true (Nat.pos_iff_ne_zero.mp hzp)]; simp)).mpr (wpAny_execs_nil ?_)
      dsimp only
      refine wpAny_execs_cons (wpAny_Assign_Name ?_)
      refine wpAny_mono (Q := fun v s5 => ∃ k ks t, v = .str k t ∧ Ext [] [] s2 s5 ∧ disL i.keys k = ks ∧ P k ks) ?_ (fun v s5 h5 => ?_) fun _ _ e => e
      · refine wpAny_IfExp (wpAny_isTrue_value (n_local rfl rfl hn2 rfl (wpAny_truthy_bool ?_)))
        have hnd := keys_nodup S
        first
          | (refine (if_pos rfl).mpr ?_
             obtain ⟨l', n, e⟩ : ∃ l' n, i.l = l' ++ [n] := ⟨i.l.dropLast, i.l.getLast (by intro q; rw [q] at hzp; cases hzp), (List.dropLast_concat_getLast _).symm⟩
             have ek : i.keys = l'.map (·.key) ++ [n.key] := by unfold SetI.keys; rw [e]; simp
             refine wpAny_Call_NameR (n_builtin B O2 rfl rfl rfl rfl (by k_is) rfl (by decide) ?_)
             refine callWith_builtin1 (args_cons ?_)
             refine wpAny_Call_NameR (n_builtin B O2 rfl rfl rfl rfl (by k_is) rfl (by decide) ?_)
             refine PyProof.Rows.callWith_type1 (args_cons (n_local rfl rfl hn2 rfl (args_nil ?_)))
             refine c_rev_call B O2 (Nat.lt_trans (r1 default).d (by decide)) S2 fun h3 gs tk G Lg o3 hLg hG hne It hb => args_nil ?_
             have ev : vals i.l.reverse = .str n.key n.tok :: vals l'.reverse := by rw [e]; simp [vals]
             rw [ev] at It
             refine n_next B (fun b o e => o3 b o (O2 b o e)) r.h (Nat.lt_trans (r1 default).d (by decide)) It fun h4 tk4 gs4 hb4 k4 => ⟨n.key, l'.map (·.key), n.tok, rfl, ?_, by rw [ek]; rw [ek] at hnd; exact pop_last hnd, by rw [hP]; exact ek⟩
             refine (Ext.pushed (D := []) (G := []) hb o3).then (Ext.setg (D := [Lg]) hb4 fun b o hb e => k4 b o (fun q => hb (by simp [q])) e) (fun x hx _ => .inl (by simp at hx; rw [hx]; exact hLg)) (fun g hg _ => .inl (by simp at hg; rw [hg]; exact Array.getElem?_eq_none (Nat.le_refl _))))
          | (refine (if_neg (by simp)).mpr ?_
             obtain ⟨n, l', e⟩ : ∃ n l', i.l = n :: l' := by
               cases q : i.l with
               | nil => rw [q] at hzp; cases hzp
               | cons n l' => exact ⟨n, l', rfl⟩
             have ek : i.keys = n.key :: l'.map (·.key) := by unfold SetI.keys; rw [e]; simp
             refine wpAny_Call_NameR (n_builtin B O2 rfl rfl rfl rfl (by k_is) rfl (by decide) ?_)
             refine callWith_builtin1 (args_cons ?_)
             refine wpAny_Call_NameR (n_builtin B O2 rfl rfl rfl rfl (by k_is) rfl (by decide) ?_)
             refine callWith_builtin1 (args_cons (n_local rfl rfl hn2 rfl (args_nil ?_)))
             refine c_iter_call B O2 (Nat.lt_trans (r1 default).d (by decide)) S2 fun h3 gs tk G Lg o3 hLg hG hne It hb => args_nil ?_
             have ev : vals i.l = .str n.key n.tok :: vals l' := by rw [e]; simp [vals]
             rw [ev] at It
             refine n_next B (fun b o e => o3 b o (O2 b o e)) r.h (Nat.lt_trans (r1 default).d (by decide)) It fun h4 tk4 gs4 hb4 k4 => ⟨n.key, l'.map (·.key), n.tok, rfl, ?_, by rw [ek]; rw [ek] at hnd; exact pop_first hnd, by rw [hP]; exact ek⟩
             refine (Ext.pushed (D := []) (G := []) hb o3).then (Ext.setg (D := [Lg]) hb4 fun b o hb e => k4 b o (fun q => hb (by simp [q])) e) (fun x hx _ => .inl (by simp at hx; rw [hx]; exact hLg)) (fun g hg _ => .inl (by simp at hg; rw [hg]; exact Array.getElem?_eq_none (Nat.le_refl _))))
      · obtain ⟨k, ks, t, rfl, x5, hk1, hk2⟩ := h5
        have O5 := x5.on O2 fun _ h => nomatch h
        refine wpAny_storeName_local rfl (hn2.keeps x5.keep) (fun h6 hn6 hs6 => ?_) rfl
        have hLf : L ∉ i.fp a := fp_not S hL
        have L0 : h₀.get? L = none := by
          cases q : h₀.get? L with
          | none => rfl
          | some o => have := O _ _ q; rw [hL] at this; cases this
        have x6 : Ext [L] [] s5 { s5 with heap := h6, toks := s5.toks + 1 } := Ext.heap fun b o hb e => hs6.extBut b o (fun q => hb (by simp [q]; rfl)) e
        generalize hs6e : ({ s5 with heap := h6, toks := s5.toks + 1 } : Shared) = s6 at x6
        have e6 : s6.heap = h6 := by rw [← hs6e]
        have O6 : On h₀ s6.heap := x6.on O5 fun b hb => by simp at hb; rw [hb]; exact L0
        have S6 : OSet w h₀ (HP s6.heap) a i := (S2.on x5.keep).mono fun b hb o e => x6.kp b o (fun q => hLf (by simp at q; exact q ▸ hb)) e
        rw [← e6] at hn6
        dsimp only
        refine wpAny_execs_cons (wpAny_Expr_any (MethodCall_ (pl := _) (n_local rfl rfl hn6 rfl ?_)))
        refine method_fn (B.X.keeps O6) (inst_set S6.ox S6.od) (os_ga w) (os_gat w) (os_discard w) (fn_disc w) rfl ?_
        refine callWith_K B.X (kp_disc w) (args_cons (n_local rfl rfl hn6 rfl (args_nil ⟨B.X.keeps O6, wpAny_call (a_disc B O6 ((r1 _).le (by decide) (by decide)) S6 hz fun s7 i7 x7 S7 hk7 hsub => ?_)⟩)))
        dsimp only
        have hn7 : s7.heap.Ns L _ := hn6.at' fun o e => x7.kp L o hLf e
        refine wpAny_execs_cons (wpAny_Return_some (n_local rfl rfl hn7 rfl ?_))
        refine ret' s7 i7 k ks t ?_ S7 (hk7.trans hk1) hk2 hsub
        refine (((x02.trans x5).any (D := i.fp a) (G := [])).then x6 (fun x hx _ => .inl (by simp at hx; rw [hx]; exact hL)) (fun _ h => nomatch h)).trans x7
end
end Mine
set_option Elab.async false
set_option maxRecDepth 100000
set_option maxHeartbeats 4000000
namespace Mine
open PySem PySem.W PyProof.Rows PySem.Calls

theorem filled20 : PySem.Challenge.rw_ay0038_01 = PySem.Challenge.rw_ay0038_01 ∧ hd.heap_39 = hd.heap_39 := by
  k_fill
  exact ⟨rfl, rfl⟩
local macro_rules | `(tactic| walk_at "my at") => `(tactic| first | exact at_nil | (refine' at_cons ?k1 ?k2 ?_; (case k1 => k_asm); (case k2 => k_mem); walk_at "my at"))
local macro_rules | `(tactic| walk_at "my not") => `(tactic| (simp only [List.map_cons, List.map_nil, List.mem_cons, List.not_mem_nil, or_false, not_or]; omega))
local macro_rules | `(tactic| k_ne) => `(tactic| (refine neN ?_; (try dsimp only); first | with_reducible assumption | (refine Ne.symm ?_; with_reducible assumption)))
local macro_rules | `(tactic| walk_at "my enter") => `(tactic| (k_dflt (refine' enter ?k1 ?k2 ?k3 ?k6 ?k7 ?k8 ?k9 ?kB ?_ ?c2 ?c3 ?c4 ?c5; (case k1 => assumption); (case k2 => assumption); (case k3 => exact at_new (by assumption) (by assumption)); (case k6 => k_is); (case k7 => k_is); (case k8 => exact Nat.lt_trans (by assumption) (by decide)); (case k9 => first | exact BindsTo.of_eq rfl | exact binds_K (by assumption) rfl (by k_is) rfl rfl rfl); (case c5 => decide); (case kB => exact locs rfl); (case c2 => exact rfl); (case c3 => exact rfl); (case c4 => exact rfl); k_whole; intro g L h₁ loose mean mg mb hg F N X T hlt hL; (try dsimp only); (try k_fold))))


/-- what a source of the set gives -/
def Srcs (w : World) (h₀ : Heap) (x dx v : Nat) (vs : List Value) (s : Shared) : Prop :=
  ∀ (A : Around) (E : Value → Shared → Prop) (Q : Value → Shared → Prop) (s1 : Shared), Rm A 590 1890 → On h₀ s1.heap → Ext [x, dx] [] s s1 →
    (∀ s2 it K D G, ItAt w h₀ K D G it vs s2 → Ext [] [] s1 s2 → (∀ b ∈ D, s1.heap.get? b = none) → (∀ g ∈ G, s1.gens[g]? = none) → (∀ b ∈ D, b ∈ K) → (∀ b ∈ K, ∃ o, s2.heap.get? b = some o) →
      (∀ b ∈ K, (b ≠ x ∧ b ≠ dx ∧ ∃ o, s.heap.get? b = some o) ∨ s1.heap.get? b = none) → Q it s2) →
    wpAny (model PR w) A (pyIter (.ref v)) Q E s1

theorem strs_cons_inv {v : Value} {rem : List Value} {ss : List Str} (h : StrsAre (v :: rem) ss) : ∃ x t r, v = .str x t ∧ ss = x :: r ∧ StrsAre rem r := by
  cases h with
  | cons x t r => exact ⟨x, t, _, rfl, rfl, r⟩

theorem nd5 {x dx rd rt mp : Nat} (h1 : x < rd) (h2 : dx < rd) (h3 : rd < rt) (h4 : rt < mp) (h5 : x ≠ dx) : 3 < mp ∧ [x, dx, mp, rt, rd].Nodup :=
  have h3m : rd < mp := Nat.lt_trans h3 h4
  ⟨by omega, ndc (nin1 h5 (nin1 (Nat.ne_of_lt (Nat.lt_trans h1 h3m)) (nin1 (Nat.ne_of_lt (Nat.lt_trans h1 h3)) (nin1 (Nat.ne_of_lt h1) nin0)))) (ndc (nin1 (Nat.ne_of_lt (Nat.lt_trans h2 h3m)) (nin1 (Nat.ne_of_lt (Nat.lt_trans h2 h3)) (nin1 (Nat.ne_of_lt h2) nin0)))
    (ndc (nin1 (Nat.ne_of_gt h4) (nin1 (Nat.ne_of_gt h3m) nin0)) (ndc (nin1 (Nat.ne_of_gt h3) nin0) (ndc nin0 ndn))))⟩
/-- between the turns of __init__ -/
def Inv0 (w : World) (h₀ : Heap) (s : Shared) (x dx L : Nat) (K D : List Nat) (ss : List Str) (rem : List Value) (s' : Shared) : Prop :=
  ∃ ssd ssr i m, StrsAre rem ssr ∧ ss = ssd ++ ssr ∧ OSet w h₀ (HP s'.heap) x i ∧ i.keys = ssd.foldl addL [] ∧ Ext [x, dx] [] s s' ∧ (∀ b ∈ i.fp x, b = x ∨ b = dx ∨ s.heap.get? b = none) ∧ (∀ b ∈ i.fp x, b ∉ K) ∧
    L ∉ i.fp x ∧ s'.heap.Ns L m ∧ m "self" = some (.ref x) ∧ (∀ b ∈ K, b ∉ D → ∃ o, s'.heap.get? b = some o) ∧ i.keys.length ≤ ssd.length
theorem k_init {w : World} {h₀ : Heap} {fr : Option (List Env)} {gd : Option (List Code)} {dp un : Nat} {s : Shared} {R : Result → Shared → Prop} {x dx v : Nat} {vs : List Value} {ss : List Str}
    (B : Bs w h₀) (O : On h₀ s.heap) (hd : dp < 580) (hu : un < 1880)
    (ha : At s.heap [(x, instObj 121 dx), (dx, dictOf [] 0)]) (hn : New0 h₀ [(x, instObj 121 dx), (dx, dictOf [] 0)])
    (hdis : x ≠ dx) (hsrc : Srcs w h₀ x dx v vs s) (hss : StrsAre vs ss) (hlen : ss.length ≤ 800)
    (ret : ∀ s' i, Ext [x, dx] [] s s' → OSet w h₀ (HP s'.heap) x i → i.keys = ss.foldl addL [] → (∀ b ∈ i.fp x, b = x ∨ b = dx ∨ s.heap.get? b = none) → R (.ok (.ret .none)) s') :
    codeAny (model PR w) (k_A fr gd dp un) (.call (.ref 47) ⟨[.ref x, .ref v], []⟩) R s := by
  have X0 := B.X.keeps O
  have hax := ha
  have hnx := hn
  walk_at "my enter"
  rename_i g L h₁ loose mean mg mb hg F N X T hlt hL
  clear ha hn
  k_steps
  rename_i h7 o1 lo1 hs1 fs1 hi1 fi1 l1 h8 F8 N8
  rename_i rt rd _ q1 q2 _ _ _ _ mp
  have kp : Kp [x, dx] s.heap h8 := fin_keep (by assumption) F8
  have hm : h8.get? mp = some o1 := (N8 _ (.head _)).1
  have hr : h8.get? rt = some (lnk rd none (some (.ref rt)) (some (.ref rt))) := (N8 _ (.tail _ (.head _))).1
  have hrd : h8.get? rd = some (dictOf [] 0) := (N8 _ (.tail _ (.tail _ (.head _)))).1
  have hx : h8.get? x = some (instObj 121 dx) := (N8 _ (.tail _ (.tail _ (.tail _ (.head _))))).1
  obtain ⟨t1, t2, hdx⟩ : ∃ t1 t2, h8.get? dx = some (dictOf [e_root w t1 rt, e_map w t2 mp] 2) := ⟨_, _, (N8 _ (.tail _ (.tail _ (.tail _ (.tail _ (.head _)))))).1⟩
  have n2 : ∀ b, x < b → dx < b → b ∉ [x, dx] := fun b h1 h2 => by
    simp only [List.mem_cons, List.not_mem_nil, or_false, not_or]
    exact ⟨Nat.ne_of_gt h1, Nat.ne_of_gt h2⟩
  have nm : s.heap.get? mp = none := fin_new (by assumption) N8 (.head _) (n2 _ l1.2.2.1 l1.2.2.2)
  have nr : s.heap.get? rt = none := fin_new (by assumption) N8 (.tail _ (.head _)) (n2 _ (Nat.lt_trans q1.1 q2) (Nat.lt_trans q1.2 q2))
  have nrd : s.heap.get? rd = none := fin_new (by assumption) N8 (.tail _ (.tail _ (.head _))) (n2 _ q1.1 q1.2)
  have old : ∀ b, s.heap.get? b = none → h₀.get? b = none := fun b hb => by
    cases q : h₀.get? b with
    | none => rfl
    | some o => have := O _ _ q; rw [hb] at this; cases this
  have S8 : OSet w h₀ (HP h8) x ⟨dx, mp, rt, rd, t1, t2, []⟩ := by
    refine ⟨hx, hdx, ⟨o1, hm, hs1⟩, ?_, ⟨fun _ => rt, fun _ => rt, hr, hrd, fun n hn => (by cases hn), rfl, rfl, trivial⟩, ?_, ?_⟩
    · exact (nd5 q1.1 q1.2 q2 l1.1 hdis).1
    · exact (nd5 q1.1 q1.2 q2 l1.1 hdis).2
    · intro b hb
      have hb' : b = x ∨ b = dx ∨ b = mp ∨ b = rt ∨ b = rd := by simpa [SetI.fp] using hb
      rcases hb' with rfl | rfl | rfl | rfl | rfl
      · exact hnx _ (.head _)
      · exact hnx _ (.tail _ (.head _))
      · exact old _ nm
      · exact old _ nr
      · exact old _ nrd
  have Lx : L ≠ x := fun e => by have := hax _ (.head _); rw [← e, hL] at this; cases this
  have Ldx : L ≠ dx := fun e => by have := hax _ (.tail _ (.head _)); rw [← e, hL] at this; cases this
  have L0 : h₀.get? L = none := old _ hL
  have hLfp : L ∉ SetI.fp x ⟨dx, mp, rt, rd, t1, t2, []⟩ := by
    simp only [SetI.fp, List.map_nil, List.append_nil, List.mem_cons, List.not_mem_nil, or_false, not_or]
    refine ⟨Lx, Ldx, fun e => ?_, fun e => ?_, fun e => ?_⟩
    · exact (N8 _ (.head _)).2.1 e.symm
    · exact (N8 _ (.tail _ (.head _))).2.1 e.symm
    · exact (N8 _ (.tail _ (.tail _ (.head _)))).2.1 e.symm
  refine wpAny_For (n_local rfl rfl F8.ns rfl ?_)
  have r1 : ∀ env, Rm ((k_A fr gd dp un).deeper env) 581 1883 := fun env => ⟨rfl, Nat.succ_lt_succ hd, Nat.add_lt_add_right hu 3⟩
  have x8 : ∀ tk, Ext [x, dx] [] s { s with heap := h8, toks := tk } := fun tk => Ext.heap kp
  have O8 : On h₀ h8 := fun b o e => kp b o (fun q => by
    simp only [List.mem_cons, List.not_mem_nil, or_false] at q
    rcases q with rfl | rfl
    · rw [hnx _ (.head _)] at e; cases e
    · rw [hnx _ (.tail _ (.head _))] at e; cases e) (O b o e)
  refine hsrc _ _ _ _ ((r1 _).le (by decide) (by decide)) O8 (x8 _) fun s2 it K D G I x2 hD hG hDK hK hKs => ?_
  have LK : L ∉ K := fun q => by
    rcases hKs L q with ⟨_, _, o, ho⟩ | hno
    · rw [hL] at ho; cases ho
    · obtain ⟨o, ho⟩ := Ns.obj F8.ns
      rw [show h8.get? L = none from hno] at ho; cases ho
  have nD : ∀ b ∈ D, b ∉ [x, dx] → s.heap.get? b = none := fun b hb q => by
    cases e : s.heap.get? b with
    | none => rfl
    | some o => have := kp b o q e; rw [show h8.get? b = none from hD b hb] at this; cases this
  have fpK : ∀ b ∈ SetI.fp x ⟨dx, mp, rt, rd, t1, t2, []⟩, b ∉ K := fun b hb q => by
    obtain ⟨o, ho⟩ := S8.alive b hb
    rcases hKs b q with ⟨e1, e2, o2, ho2⟩ | hno
    · have hb' : b = x ∨ b = dx ∨ b = mp ∨ b = rt ∨ b = rd := by simpa [SetI.fp] using hb
      rcases hb' with e | e | e | e | e
      · exact e1 e
      · exact e2 e
      · rw [e, nm] at ho2; cases ho2
      · rw [e, nr] at ho2; cases ho2
      · rw [e, nrd] at ho2; cases ho2
    · rw [show h8.get? b = none from hno] at ho; cases ho
  have O2 : On h₀ s2.heap := fun b o e => x2.keep b o (O8 b o e)
  show codeAny _ _ _ _ _
  refine loop_it0 (h₀ := h₀) (K := K) (D := D) (G := G) rfl ?hd1 ?ht1 (fun b hb => by
      cases q : h₀.get? b with
      | none => rfl
      | some o => have := O8 _ _ q; rw [show h8.get? b = none from hD b hb] at this; cases this)
    (Inv0 w h₀ s x dx L K D ss)
    ?_ ?_ ?_ I O2 ⟨[], ss, _, _, hss, rfl, S8.on x2.keep, rfl, (x8 _).trans x2.any, ?_, fpK, hLfp, F8.ns.keeps x2.keep, rfl, fun b hb _ => hK b hb, Nat.le_refl _⟩
  case hd1 => exact Nat.lt_trans (r1 default).d (by decide)
  case ht1 => intro _; rfl
  · rintro rem s3 s4 ⟨ssd, ssr, i, m, a1, a2, a3, a4, a5, a6, a7, a8, a9, a10, a11, a12⟩ st
    exact ⟨ssd, ssr, i, m, a1, a2, a3.mono fun b hb o e => st.kp b o (fun q => a7 b hb (hDK b q)) e, a4, a5.then st (fun b hb q => .inl (nD b hb q)) (fun g hg _ => .inl (hG g hg)), a6, a7, a8,
      a9.at' fun o e => st.kp L o (fun q => LK (hDK L q)) e, a10, fun b hb hb2 => by obtain ⟨o, ho⟩ := a11 b hb hb2; exact ⟨o, st.kp b o hb2 ho⟩, a12⟩
  · rintro v' rem s3 ⟨ssd, ssr, i, m, a1, a2, a3, a4, a5, a6, a7, a8, a9, a10, a11, a12⟩ O3 al E1
    obtain ⟨k, tk, r, rfl, rfl, a1'⟩ := strs_cons_inv a1
    refine wpAny_assign_Name (wpAny_storeName_local rfl a9 (fun h' hn' hs' => ?_) rfl)
    change h'.Ns L _ at hn'
    change Heap.SameBut L s3.heap h' at hs'
    have x4 : Ext [L] [] s3 { s3 with heap := h', toks := s3.toks + 1 } := Ext.heap fun b o hb e => hs'.extBut b o (fun q => hb (by simp [q])) e
    generalize hs4e : ({ s3 with heap := h', toks := s3.toks + 1 } : Shared) = s4 at x4
    have e4 : s4.heap = h' := by rw [← hs4e]
    have O4 : On h₀ s4.heap := x4.on O3 fun b hb => by simp at hb; rw [hb]; exact L0
    have S4 : OSet w h₀ (HP s4.heap) x i := a3.mono fun b hb o e => x4.kp b o (fun q => a8 (by simp at q; exact q ▸ hb)) e
    rw [← e4] at hn'
    have hz : i.l.length ≤ 900 := by
      have h1 : i.keys.length = i.l.length := by unfold SetI.keys; rw [List.length_map]
      have h2 : (ssd ++ k :: r).length ≤ 800 := a2 ▸ hlen
      simp at h2
      omega
    refine wpAny_execs_cons (wpAny_Expr_any (MethodCall_ (pl := _) (n_local rfl rfl hn' (by rw [if_neg (by decide)]; exact a10) ?_)))
    refine method_fn (B.X.keeps O4) (inst_set S4.ox S4.od) (os_ga w) (os_gat w) (os_add w) (fn_add w) rfl ?_
    refine callWith_K B.X (kp_add w) (args_cons (n_local rfl rfl hn' (by rw [if_pos rfl]) (args_nil ⟨B.X.keeps O4, wpAny_call (a_add B O4 ((r1 _).le (by decide) (by decide)) S4 hz fun s5 i5 x5 S5 hk5 hsub => ?_)⟩)))
    refine wpAny_execs_nil ?_
    have x04 : Ext [x, dx] [] s s4 := a5.then x4 (fun b hb _ => .inl (by simp at hb; rw [hb]; exact hL)) (fun _ h => nomatch h)
    have alK : ∀ b ∈ K, ∃ o, s4.heap.get? b = some o := fun b hb => by
      have : ∃ o, s3.heap.get? b = some o := by
        by_cases q : b ∈ D
        · exact al b q
        · exact a11 b hb q
      obtain ⟨o, ho⟩ := this
      exact ⟨o, x4.kp b o (fun q => LK (by simp at q; exact q ▸ hb)) ho⟩
    refine ⟨rfl, ⟨ssd ++ [k], r, i5, _, a1', by rw [a2]; simp, S5, ?_, x04.then x5 (fun b hb q => ?_) (fun _ h => nomatch h), fun b hb => ?_, fun b hb q => ?_, fun hb => ?_, hn'.at' fun o e => x5.kp L o a8 e, by rw [if_neg (by decide)]; exact a10, fun b hb _ => ?_, ?_⟩, ?_⟩
    · rw [hk5, a4, List.foldl_append]; rfl
    · rcases a6 b hb with e | e | e
      · exact absurd (by simp [e]) q
      · exact absurd (by simp [e]) q
      · exact .inl e
    · rcases hsub b hb with e | e
      · exact a6 b e
      · by_cases q1 : b = x
        · exact .inl q1
        · by_cases q2 : b = dx
          · exact .inr (.inl q2)
          · refine .inr (.inr ?_)
            cases q : s.heap.get? b with
            | none => rfl
            | some o => have := x04.kp b o (by simp [q1, q2]) q; rw [e] at this; cases this
    · rcases hsub b hb with e | e
      · exact a7 b e q
      · obtain ⟨o, ho⟩ := alK b q
        rw [e] at ho; cases ho
    · rcases hsub L hb with e | e
      · exact a8 e
      · obtain ⟨o, ho⟩ := Ns.obj hn'
        rw [e] at ho; cases ho
    · obtain ⟨o, ho⟩ := alK b hb
      exact ⟨o, x5.kp b o (fun q => a7 b q hb) ho⟩
    · rw [hk5]
      unfold addL
      split
      · simp; omega
      · simp; omega
    · refine (Agr2.of_ext x4 O3 (fun b hb => by simp at hb; rw [hb]; exact L0) (fun b hb q => LK (by simp at q; exact q ▸ hb)) (fun _ _ q => nomatch q)).trans (Agr2.of_ext x5 O4 (fun b hb => S4.fr b hb) (fun b hb q => a7 b q hb) (fun _ _ q => nomatch q))
  · rintro s3 ⟨ssd, ssr, i, m, a1, a2, a3, a4, a5, a6, a7, a8, a9, a10, a11, a12⟩ O3
    cases a1
    rw [List.append_nil] at a2
    rw [← a2] at a4
    exact wpAny_execs_nil (wpAny_execs_nil (ret s3 i a5 a3 a4 a6))
  · intro b hb
    have hb' : b = x ∨ b = dx ∨ b = mp ∨ b = rt ∨ b = rd := by simpa [SetI.fp] using hb
    rcases hb' with e | e | e | e | e
    · exact .inl e
    · exact .inr (.inl e)
    · exact .inr (.inr (e ▸ nm))
    · exact .inr (.inr (e ▸ nr))
    · exact .inr (.inr (e ▸ nrd))
end Mine
set_option Elab.async false
set_option maxRecDepth 100000
set_option maxHeartbeats 4000000
namespace Mine
open PySem PySem.W PyProof.Rows PySem.Calls

theorem filled21 : PySem.Challenge.rw_ay0038_01 = PySem.Challenge.rw_ay0038_01 ∧ hd.heap_39 = hd.heap_39 := by
  k_fill
  exact ⟨rfl, rfl⟩
local macro_rules | `(tactic| walk_at "my at") => `(tactic| first | exact at_nil | (refine' at_cons ?k1 ?k2 ?_; (case k1 => k_asm); (case k2 => k_mem); walk_at "my at"))
local macro_rules | `(tactic| k_ne) => `(tactic| (refine neN ?_; (try dsimp only); first | with_reducible assumption | (refine Ne.symm ?_; with_reducible assumption)))
local macro_rules | `(tactic| walk_at "my enter") => `(tactic| (k_dflt (refine' enter ?k1 ?k2 ?k3 ?k6 ?k7 ?k8 ?k9 ?kB ?_ ?c2 ?c3 ?c4 ?c5; (case k1 => assumption); (case k2 => assumption); (case k3 => exact at_new (by assumption) (by assumption)); (case k6 => k_is); (case k7 => k_is); (case k8 => exact Nat.lt_trans (by assumption) (by decide)); (case k9 => first | exact BindsTo.of_eq rfl | exact binds_K (by assumption) rfl (by k_is) rfl rfl rfl); (case c5 => decide); (case kB => exact locs rfl); (case c2 => exact rfl); (case c3 => exact rfl); (case c4 => exact rfl); k_whole; intro g L h₁ loose mean mg mb hg F N X T hlt hL; (try dsimp only); (try k_fold))))

theorem k_init0 {w : World} {h₀ : Heap} {fr : Option (List Env)} {gd : Option (List Code)} {dp un : Nat} {s : Shared} {R : Result → Shared → Prop} {x dx : Nat}
    (B : Bs w h₀) (O : On h₀ s.heap) (hd : dp < 580) (hu : un < 1880)
    (ha : At s.heap [(x, instObj 121 dx), (dx, dictOf [] 0)]) (hn : New0 h₀ [(x, instObj 121 dx), (dx, dictOf [] 0)])
    (hdis : x ≠ dx)
    (ret : ∀ s' i, Ext [x, dx] [] s s' → OSet w h₀ (HP s'.heap) x i → i.keys = [] → (∀ b ∈ i.fp x, b = x ∨ b = dx ∨ s.heap.get? b = none) → R (.ok (.ret .none)) s') :
    codeAny (model PR w) (k_A fr gd dp un) (.call (.ref 47) ⟨[.ref x], []⟩) R s := by
  have X0 := B.X.keeps O
  have hax := ha
  have hnx := hn
  walk_at "my enter"
  rename_i g L h₁ loose mean mg mb hg F N X T hlt hL
  clear ha hn
  k_steps
  rename_i h7 o1 lo1 hs1 fs1 hi1 fi1 l1 h8 F8 N8
  rename_i rt rd _ q1 q2 _ _ _ _ mp
  have kp : Kp [x, dx] s.heap h8 := fin_keep (by assumption) F8
  have hm : h8.get? mp = some o1 := (N8 _ (.head _)).1
  have hr : h8.get? rt = some (lnk rd none (some (.ref rt)) (some (.ref rt))) := (N8 _ (.tail _ (.head _))).1
  have hrd : h8.get? rd = some (dictOf [] 0) := (N8 _ (.tail _ (.tail _ (.head _)))).1
  have hx : h8.get? x = some (instObj 121 dx) := (N8 _ (.tail _ (.tail _ (.tail _ (.head _))))).1
  obtain ⟨t1, t2, hdx⟩ : ∃ t1 t2, h8.get? dx = some (dictOf [e_root w t1 rt, e_map w t2 mp] 2) := ⟨_, _, (N8 _ (.tail _ (.tail _ (.tail _ (.tail _ (.head _)))))).1⟩
  have n2 : ∀ b, x < b → dx < b → b ∉ [x, dx] := fun b h1 h2 => by
    simp only [List.mem_cons, List.not_mem_nil, or_false, not_or]
    exact ⟨Nat.ne_of_gt h1, Nat.ne_of_gt h2⟩
  have nm : s.heap.get? mp = none := fin_new (by assumption) N8 (.head _) (n2 _ l1.2.2.1 l1.2.2.2)
  have nr : s.heap.get? rt = none := fin_new (by assumption) N8 (.tail _ (.head _)) (n2 _ (Nat.lt_trans q1.1 q2) (Nat.lt_trans q1.2 q2))
  have nrd : s.heap.get? rd = none := fin_new (by assumption) N8 (.tail _ (.tail _ (.head _))) (n2 _ q1.1 q1.2)
  have old : ∀ b, s.heap.get? b = none → h₀.get? b = none := fun b hb => by
    cases q : h₀.get? b with
    | none => rfl
    | some o => have := O _ _ q; rw [hb] at this; cases this
  have S8 : OSet w h₀ (HP h8) x ⟨dx, mp, rt, rd, t1, t2, []⟩ := by
    refine ⟨hx, hdx, ⟨o1, hm, hs1⟩, ?_, ⟨fun _ => rt, fun _ => rt, hr, hrd, fun n hn => (by cases hn), rfl, rfl, trivial⟩, ?_, ?_⟩
    · exact (nd5 q1.1 q1.2 q2 l1.1 hdis).1
    · exact (nd5 q1.1 q1.2 q2 l1.1 hdis).2
    · intro b hb
      have hb' : b = x ∨ b = dx ∨ b = mp ∨ b = rt ∨ b = rd := by simpa [SetI.fp] using hb
      rcases hb' with rfl | rfl | rfl | rfl | rfl
      · exact hnx _ (.head _)
      · exact hnx _ (.tail _ (.head _))
      · exact old _ nm
      · exact old _ nr
      · exact old _ nrd
  refine ret _ ⟨dx, mp, rt, rd, t1, t2, []⟩ (Ext.heap kp) S8 rfl ?_
  · intro b hb
    have hb' : b = x ∨ b = dx ∨ b = mp ∨ b = rt ∨ b = rd := by simpa [SetI.fp] using hb
    rcases hb' with e | e | e | e | e
    · exact .inl e
    · exact .inr (.inl e)
    · exact .inr (.inr (e ▸ nm))
    · exact .inr (.inr (e ▸ nr))
    · exact .inr (.inr (e ▸ nrd))

theorem rm_make {A : Around} {d u : Nat} (r : Rm A d u) (C : Addr) (vals : List Value) : Rm (A.under (.builtin "type.__call__" ⟨.ref C :: vals, []⟩)) (d + 1) (u + 10) := by
  refine ⟨r.h, Nat.succ_lt_succ r.d, ?_⟩
  show A.units + Code.cUnits _ < _
  have h1 : Code.cUnits (.builtin "type.__call__" ⟨.ref C :: vals, []⟩) ≤ 10 := by
    have : Code.cUnits (.builtin "type.__call__" ⟨.ref C :: vals, []⟩) = Code.cUnits (.builtin "type.__call__" ⟨.ref C :: [], []⟩) := rfl
    rw [this]; exact Nat.le_of_ble_eq_true rfl
  have := r.u
  omega

section
variable {w : World} {h₀ : Heap} {A : Around} {s : Shared} {E : Value → Shared → Prop} {vs : List Value} {ss : List Str} {v : Nat}
theorem fn_init (w : World) : typeIn (KK w) (.ref 47) = some (.type "function") := by kernel_rfl

theorem make_open {rest : List Value} {Q : Value → Shared → Prop} (B : Bs w h₀) (O : On h₀ s.heap)
    (h : ∀ x dx sM, Ext [] [] s sM → s.heap.get? x = none → s.heap.get? dx = none → x ≠ dx → At sM.heap [(x, instObj 121 dx), (dx, dictOf [] 0)] →
      codeAny (model PR w) (A.under (.builtin "type.__call__" ⟨.ref 121 :: rest, []⟩)) (.call (.ref 47) ⟨.ref x :: rest, []⟩) (InitBack x (fun r s' => match r with | .ok (.ret v) => Q v s' | .ok _ => False | .error e => E e s')) sM) :
    wpAny (model PR w) A (call (.ref 121) rest) Q E s := by
  have X := B.X.keeps O
  refine wpAny_call ?_
  obtain ⟨hh, g, d, t, os⟩ := s
  refine make_core (makes_of X (os_makes w)) (looks_findIn X (os_init w)) (fun self => bind_fn X self (fn_init w)) (.inl rfl) ?_
  have k : On hh ((hh.push emptyDict).push (instObj 121 hh.objs.size)) := fun b o e => Heap.get?_push_of_some _ (Heap.get?_push_of_some _ e)
  have e1 : ((hh.push emptyDict).push (instObj 121 hh.objs.size)).get? (hh.objs.size + 1) = some (instObj 121 hh.objs.size) := by
    have := Heap.get?_push_size (hh.push emptyDict) (o := instObj 121 hh.objs.size) rfl
    rwa [Heap.size_push] at this
  have e2 : ((hh.push emptyDict).push (instObj 121 hh.objs.size)).get? hh.objs.size = some (dictOf [] 0) := Heap.get?_push_of_some _ (Heap.get?_push_size hh rfl)
  exact h (hh.objs.size + 1) hh.objs.size ⟨(hh.push emptyDict).push (instObj 121 hh.objs.size), g, d, t, os⟩ (Ext.onh (s := ⟨hh, g, d, t, os⟩) (tk := t) k) (none_of_size (Nat.le_succ _)) (none_of_size (Nat.le_refl _)) (Nat.succ_ne_self _)
    (at_cons' e1 (at_cons' e2 at_nil))

/-- OrderedSet(v) -/
theorem c_make1 {Q : Value → Shared → Prop} (B : Bs w h₀) (O : On h₀ s.heap) (r : Rm A 570 1860) (hss : StrsAre vs ss) (hlen : ss.length ≤ 800)
    (hsrc : ∀ sM x dx, Ext [] [] s sM → s.heap.get? x = none → s.heap.get? dx = none → Srcs w h₀ x dx v vs sM)
    (h : ∀ s' x i, Ext [] [] s s' → OSet w h₀ (HP s'.heap) x i → i.keys = ss.foldl addL [] → (∀ b ∈ i.fp x, s.heap.get? b = none) → Q (.ref x) s') :
    wpAny (model PR w) A (call (.ref 121) [.ref v]) Q E s := by
  refine make_open B O fun x dx sM xM nx ndx hne hat => ?_
  have r2 := rm_make r 121 [.ref v]
  rw [r2.kA]
  have old : ∀ b, s.heap.get? b = none → h₀.get? b = none := fun b hb => by
    cases q : h₀.get? b with
    | none => rfl
    | some o => have := O _ _ q; rw [hb] at this; cases this
  refine k_init B (xM.on O fun _ h => nomatch h) (Nat.lt_of_lt_of_le r2.d (by decide)) (Nat.lt_of_lt_of_le r2.u (by decide)) hat (new_cons (old _ nx) (new_cons (old _ ndx) new_nil)) hne (hsrc sM x dx xM nx ndx) hss hlen fun s' i x' S hk hf => ?_
  refine ⟨rfl, h s' x i (xM.then x' (fun b hb _ => .inl ?_) (fun _ h => nomatch h)) S hk fun b hb => ?_⟩
  · simp at hb; rcases hb with rfl | rfl
    · exact nx
    · exact ndx
  · rcases hf b hb with rfl | rfl | e
    · exact nx
    · exact ndx
    · cases q : s.heap.get? b with
      | none => rfl
      | some o => have := xM.keep b o q; rw [e] at this; cases this
/-- OrderedSet() -/
theorem c_make0 {Q : Value → Shared → Prop} (B : Bs w h₀) (O : On h₀ s.heap) (r : Rm A 570 1860)
    (h : ∀ s' x i, Ext [] [] s s' → OSet w h₀ (HP s'.heap) x i → i.keys = [] → (∀ b ∈ i.fp x, s.heap.get? b = none) → Q (.ref x) s') :
    wpAny (model PR w) A (call (.ref 121) []) Q E s := by
  refine make_open B O fun x dx sM xM nx ndx hne hat => ?_
  have r2 := rm_make r 121 []
  rw [r2.kA]
  have old : ∀ b, s.heap.get? b = none → h₀.get? b = none := fun b hb => by
    cases q : h₀.get? b with
    | none => rfl
    | some o => have := O _ _ q; rw [hb] at this; cases this
  refine k_init0 B (xM.on O fun _ h => nomatch h) (Nat.lt_of_lt_of_le r2.d (by decide)) (Nat.lt_of_lt_of_le r2.u (by decide)) hat (new_cons (old _ nx) (new_cons (old _ ndx) new_nil)) hne fun s' i x' S hk hf => ?_
  refine ⟨rfl, h s' x i (xM.then x' (fun b hb _ => .inl ?_) (fun _ h => nomatch h)) S hk fun b hb => ?_⟩
  · simp at hb; rcases hb with rfl | rfl
    · exact nx
    · exact ndx
  · rcases hf b hb with rfl | rfl | e
    · exact nx
    · exact ndx
    · cases q : s.heap.get? b with
      | none => rfl
      | some o => have := xM.keep b o q; rw [e] at this; cases this

theorem src_list {l x dx : Nat} (hl : s.heap.IsList l vs.toArray) (h1 : l ≠ x) (h2 : l ≠ dx) : Srcs w h₀ x dx l vs s := by
  intro A E Q s1 r O1 x1 h
  have hl1 : s1.heap.IsList l vs.toArray := hl.at fun o e => x1.kp l o (by simp [h1, h2]) e
  obtain ⟨ol, hol⟩ := IsList.obj hl1
  have hn : s1.heap.get? s1.heap.objs.size = none := none_of_size (Nat.le_refl _)
  have hne : s1.heap.objs.size ≠ l := fun e => by rw [e, hol] at hn; cases hn
  refine wpAny_pyIter_list hl1 ?_
  refine h _ _ [s1.heap.objs.size, l] [s1.heap.objs.size] [] (it_list (i := 0) hne ⟨_, Heap.get?_push_size _ rfl, rfl, rfl⟩ (hl1.push _) rfl) Ext.push (fun b hb => by simp at hb; rw [hb]; exact hn) (fun _ h => nomatch h) (fun b hb => by simp at hb; simp [hb]) (fun b hb => ?_) (fun b hb => ?_)
  · simp at hb; rcases hb with rfl | rfl
    · exact ⟨_, Heap.get?_push_size _ rfl⟩
    · exact ⟨_, Heap.get?_push_of_some _ hol⟩
  · simp at hb; rcases hb with rfl | rfl
    · exact .inr hn
    · exact .inl ⟨h1, h2, IsList.obj hl⟩
theorem src_set {a x dx : Nat} {i : SetI} (B : Bs w h₀) (S : OSet w h₀ (HP s.heap) a i) (h1 : x ∉ i.fp a) (h2 : dx ∉ i.fp a) : Srcs w h₀ x dx a (vals i.l) s := by
  intro A E Q s1 r O1 x1 h
  have S1 : OSet w h₀ (HP s1.heap) a i := S.mono fun b hb o e => x1.kp b o (by simp only [List.mem_cons, List.not_mem_nil, or_false, not_or]; exact ⟨fun q => h1 (q ▸ hb), fun q => h2 (q ▸ hb)⟩) e
  refine i_set B O1 (Nat.lt_trans r.d (by decide)) S1 fun h3 gs tk G L o3 hL hG hne It hb => ?_
  have n : ∀ b, s1.heap.get? b = none → h₀.get? b = none := fun b hb => by
    cases q : h₀.get? b with
    | none => rfl
    | some o => have := O1 _ _ q; rw [hb] at this; cases this
  refine h _ _ (G :: L :: i.fp a) [L] [s1.gens.size] (it_gen B hne It) (Ext.pushed hb o3) (fun b hb => by simp at hb; rw [hb]; exact hL) (fun g hg => by simp at hg; rw [hg]; exact Array.getElem?_eq_none (Nat.le_refl _)) (fun b hb => by simp at hb; simp [hb]) (fun b hb => ?_) (fun b hb => ?_)
  · simp only [List.mem_cons] at hb; rcases hb with rfl | rfl | hb
    · obtain ⟨o, _, _, ho, _⟩ := It.gen; exact ⟨o, ho⟩
    · exact It.alive
    · obtain ⟨o, ho⟩ := S1.alive b hb; exact ⟨o, o3 b o ho⟩
  · simp only [List.mem_cons] at hb; rcases hb with rfl | rfl | hb
    · exact .inr hG
    · exact .inr hL
    · exact .inl ⟨fun q => h1 (q ▸ hb), fun q => h2 (q ▸ hb), S.alive b hb⟩
end
end Mine
set_option Elab.async false
set_option maxRecDepth 100000
set_option maxHeartbeats 4000000
namespace Mine
open PySem PySem.W PyProof.Rows PySem.Calls

theorem filled22 : PySem.Challenge.rw_ay0038_01 = PySem.Challenge.rw_ay0038_01 ∧ hd.heap_39 = hd.heap_39 := by
  k_fill
  exact ⟨rfl, rfl⟩
local macro_rules | `(tactic| k_ne) => `(tactic| (refine neN ?_; (try dsimp only); first | with_reducible assumption | (refine Ne.symm ?_; with_reducible assumption)))
local macro_rules | `(tactic| walk_at "my enter") => `(tactic| (k_dflt (refine' enter ?k1 ?k2 ?k3 ?k6 ?k7 ?k8 ?k9 ?kB ?_ ?c2 ?c3 ?c4 ?c5; (case k1 => assumption); (case k2 => assumption); (case k3 => exact at_new (by assumption) (by assumption)); (case k6 => k_is); (case k7 => k_is); (case k8 => exact Nat.lt_trans (by assumption) (by decide)); (case k9 => first | exact BindsTo.of_eq rfl | exact binds_K (by assumption) rfl (by k_is) rfl rfl rfl); (case c5 => decide); (case kB => exact locs rfl); (case c2 => exact rfl); (case c3 => exact rfl); (case c4 => exact rfl); k_whole; intro g L h₁ loose mean mg mb hg F N X T hlt hL; (try dsimp only); (try k_fold))))

theorem k_sign {w : World} {h₀ : Heap} {fr : Option (List Env)} {gd : Option (List Code)} {dp un : Nat} {s : Shared} {R : Result → Shared → Prop} {n : Int} {t : Tok}
    (B : Bs w h₀) (O : On h₀ s.heap) (hd : dp < 580) (hu : un < 1880)
    (ret : ∀ s' c t, Ext [] [] s s' → c < 1114112 → R (.ok (.ret (.str ⟨#[c]⟩ t))) s') :
    codeAny (model PR w) (k_A fr gd dp un) (.call (.ref 133) ⟨[.int n t], []⟩) R s := by
  have X0 := B.X.keeps O
  have ha : At s.heap [] := at_nil
  have hn : New0 h₀ [] := new_nil
  walk_at "my enter"
  rename_i g L h₁ loose mean mg mb hg F N X T hlt hL
  clear ha hn
  k_steps
  all_goals
    refine ret _ _ _ (Ext.heap fun b o _ e => Fr.keep (by assumption) b o (hg b o (by simp) e)) ?_
    have e := Int.fmod_eq_emod_of_nonneg n (b := 1114112) (by decide)
    rw [e]
    omega

/-- a name of the law: never the one that is none's -/
structure NmOK (x : Str) : Prop where
  ne : x ≠ "item-ab-"
  ok : PyData.strOk x = true

section
variable {w : World} {h₀ : Heap} {A : Around} {s : Shared} {R : Result → Shared → Prop} {E : Value → Shared → Prop}
theorem kp_sign (w : World) : keepIn (KK w) (.ref 133) = true := by kernel_rfl
theorem kp_name (w : World) : keepIn (KK w) (.ref 140) = true := by kernel_rfl
theorem kp_whole (w : World) : keepIn (KK w) (.ref 145) = true := by kernel_rfl

def base4 : List Str := ["", "item", "item-a", "item-ab"]
theorem base4_ok : ∀ x ∈ base4, NmOK x := by
  intro x hx
  simp only [base4, List.mem_cons, List.not_mem_nil, or_false] at hx
  rcases hx with rfl | rfl | rfl | rfl <;> exact ⟨by decide +kernel, by decide +kernel⟩
theorem names_list (w : World) : ∃ t0 t1 t2 t3 n, (hd.heap_39 w.params).lookup 126 = some { cls := .type "list", data := .seq #[.str (Str.ofString "") t0, .str (Str.ofString "item") t1, .str (Str.ofString "item-a") t2, .str (Str.ofString "item-ab") t3] n } := ⟨_, _, _, _, _, by k_is⟩
theorem names_at (B : Bs w h₀) (O : On h₀ s.heap) : ∃ vs, s.heap.IsList 126 vs.toArray ∧ StrsAre vs base4 := by
  obtain ⟨t0, t1, t2, t3, n, e⟩ := names_list w
  exact ⟨[.str "" t0, .str "item" t1, .str "item-a" t2, .str "item-ab" t3], ⟨_, B.X.keeps O _ _ e, rfl, n, rfl⟩, .cons _ _ (.cons _ _ (.cons _ _ (.cons _ _ .nil)))⟩

theorem strs_get {vs : List Value} {ss : List Str} (h : StrsAre vs ss) : ∀ {i : Nat} {x : Str}, ss[i]? = some x → ∃ t, vs[i]? = some (.str x t) := by
  induction h with
  | nil => intro i x h; cases h
  | cons y t r ih =>
    intro i x h
    cases i with
    | zero => simp at h; subst h; exact ⟨t, rfl⟩
    | succ i => simpa using ih (by simpa using h)
theorem strs_at {h : Heap} {l : Nat} {vs : List Value} {ss : List Str} (hl : h.IsList l vs.toArray) (hi : StrsAre vs ss) {i : Nat} {x : Str} (e : ss[i]? = some x) : ∃ t, vs.toArray[i]? = some (.str x t) := by
  obtain ⟨t, e⟩ := strs_get hi e
  exact ⟨t, by simpa using e⟩
theorem sub_list {M : Model} {l : Nat} {items : Array Value} {i : Value} {Q : Value → Shared → Prop} (hl : s.heap.IsList l items) (h : wpAny M A (getItem (.ref l) i) Q E s) : SubscriptOn M A (.ref l) i Q E s :=
  ⟨"list", _, slot_list_getitem.lookup, hl.typeIs, h⟩

theorem a_sign {n : Int} {t : Tok} (B : Bs w h₀) (O : On h₀ s.heap) (r : Rm A 580 1880) (ret : ∀ s' c t, Ext [] [] s s' → c < 1114112 → R (.ok (.ret (.str ⟨#[c]⟩ t))) s') : codeAny (model PR w) A (.call (.ref 133) ⟨[.int n t], []⟩) R s := by
  rw [r.kA]; exact k_sign B O r.d r.u ret
theorem sign_ok {c : Nat} (h : c < 1114112) : NmOK (Str.ofString "item-" ++ ⟨#[c]⟩) := by
  constructor
  · intro e
    have := congrArg (fun x : Str => x.cps.size) e
    revert this
    show ((Str.ofString "item-").cps ++ #[c]).size = (Str.ofString "item-ab-").cps.size → False
    rw [Array.size_append]
    exact fun q => absurd (show 6 = 8 from q) (by decide)
  · show ((Str.ofString "item-").cps ++ #[c]).all (· < 0x110000) = true
    rw [Array.all_append]
    have h1 : (Str.ofString "item-").cps.all (· < 0x110000) = true := by decide +kernel
    rw [h1]
    simpa using h

theorem a_name {n : Int} {t : Tok} (B : Bs w h₀) (O : On h₀ s.heap) (r : Rm A 570 1870) (ret : ∀ s' nm t, Ext [] [] s s' → NmOK nm → R (.ok (.ret (.str nm t))) s') : codeAny (model PR w) A (.call (.ref 140) ⟨[.int n t], []⟩) R s := by
  k_dflt (refine' enter0 ?k1 ?k2 ?k6 ?k7 ?k8 ?k9 ?kB ?_ ?c2 ?c3 ?c4 ?c5; (case k1 => assumption); (case k2 => assumption); (case k6 => k_is); (case k7 => k_is); (case k8 => exact Nat.lt_trans r.d (by decide)); (case k9 => exact BindsTo.of_eq rfl); (case c5 => decide); (case kB => exact locs rfl); (case c2 => exact rfl); (case c3 => exact rfl); (case c4 => exact rfl))
  intro L s1 x1 hn hL
  have O1 := x1.on O fun _ h => nomatch h
  have r1 : ∀ env, Rm (A.deeper env) 571 1873 := fun _ => r.deeper
  refine wpAny_execs_cons (wpAny_If ?_)
  refine wpAny_isTrue_Compare1 ?_
  refine wpAny_BinOp ?_
  refine n_local rfl rfl hn rfl ?_
  refine wpAny_Constant_int ?_
  refine mod_int' (by decide) ?_
  refine wpAny_Constant_int ?_
  refine eq_int ?_
  refine wpAny_truthy_bool ?_
  split
  · obtain ⟨vs, hl, hi⟩ := names_at (s := s1) B O1
    refine wpAny_execs_cons ?_
    refine wpAny_Return_some ?_
    refine wpAny_Subscript_BinOp_late ?_
    refine n_global B (by exact O1) rfl rfl rfl (by k_is) ?_
    refine wpAny_BinOp ?_
    refine wpAny_BinOp ?_
    refine n_local rfl rfl hn rfl ?_
    refine wpAny_Constant_int ?_
    refine floordiv_int (by decide) ?_
    refine wpAny_Constant_int ?_
    refine mod_int' (by decide) ?_
    have e := Int.fmod_eq_emod_of_nonneg (n.fdiv 2) (b := 4) (by decide)
    rw [e]
    generalize hk : (n.fdiv 2) % 4 = k
    have h0 : 0 ≤ k := by omega
    have h4 : k < 4 := by omega
    have hb : ∃ x, base4[k.toNat]? = some x ∧ NmOK x := by
      have hlt : k.toNat < base4.length := by show k.toNat < 4; omega
      exact ⟨_, List.getElem?_eq_getElem hlt, base4_ok _ (List.getElem_mem hlt)⟩
    obtain ⟨x, hx, ok⟩ := hb
    obtain ⟨t', hx'⟩ := strs_at hl hi hx
    exact sub_list (by exact hl) (wpAny_getItem_list (by exact hl) h0 (by omega) hx' (ret _ _ _ (x1.trans Ext.tok) ok))
  · refine wpAny_execs_nil ?_
    dsimp only
    refine wpAny_execs_cons ?_
    refine wpAny_Return_some ?_
    refine wpAny_BinOp ?_
    refine Calls.Constant_str ?_
    refine wpAny_Call_NameR (n_global B (by exact O1) rfl rfl rfl (by k_is) ?_)
    refine callWith_K B.X (kp_sign w) ?_
    refine args_cons ?_
    refine wpAny_BinOp ?_
    refine n_local rfl rfl hn rfl ?_
    refine wpAny_Constant_int ?_
    refine floordiv_int (by decide) ?_
    refine args_nil ?_
    refine ⟨B.X.keeps O1, wpAny_call (a_sign B O1 ((r1 _).le (by decide) (by decide)) fun s2 c t2 x2 hc => ?_)⟩
    refine add_str (fun t3 tk3 => ret _ _ _ ?_ (sign_ok hc)) (big_line (Nat.le_of_ble_eq_true rfl))
    exact (x1.trans Ext.tok).trans (x2.trans Ext.tok)
end
end Mine
set_option Elab.async false
set_option maxRecDepth 100000
set_option maxHeartbeats 4000000
namespace Mine
open PySem PySem.W PyProof.Rows PySem.Calls PySem.W.X PySem.Builtin

theorem filled23 : PySem.Challenge.rw_ay0038_01 = PySem.Challenge.rw_ay0038_01 ∧ hd.heap_39 = hd.heap_39 := by
  k_fill
  exact ⟨rfl, rfl⟩

def pdata (ss ts : List Str) : List PyData := ss.flatMap fun a => ts.map fun b => .tuple [.str a, .str b]
theorem readsAll_append {h : Heap} : ∀ {vs us : List Value} {ds es : List PyData}, ReadsAll h vs ds [] → ReadsAll h us es [] → ReadsAll h (vs ++ us) (ds ++ es) []
  | [], _, ds, _, a, b => by
    cases ds with
    | nil => exact b
    | cons d ds => nomatch a
  | v :: vs, us, ds, es, a, b => by
    cases ds with
    | nil => nomatch a
    | cons d ds =>
      generalize hq : ([] : List Addr) = q at a
      cases a with
      | cons h1 h2 =>
        obtain ⟨rfl, rfl⟩ := List.append_eq_nil_iff.mp hq.symm
        exact .cons (bs := []) h1 (readsAll_append h2 b)
theorem prs_len {g : Heap} {X : List Nat} {h : Heap} {ps : List (Value × Value)} {ys : List Value} (p : PrsAt g X h ps ys) : ps.length = ys.length := p.length
theorem prs_row {g : Heap} {X : List Nat} {h : Heap} {v : Value} {x : Str} {t : Tok} (hv : v = .str x t) : ∀ {us : List Value} {ts : List Str} {ys : List Value}, StrsAre us ts → Paired (fun (p : Value × Value) y => ∃ T, y = .ref T ∧ h.IsTuple T #[p.1, p.2] ∧ g.get? T = none ∧ T ∉ X) (us.map fun b => (v, b)) ys →
    ReadsAll h ys (ts.map fun b => .tuple [.str x, .str b]) []
  | [], _, ys, .nil, p => by cases p; exact .nil
  | _ :: us, _, ys, .cons y t' r, p => by
    cases p with
    | cons a b =>
      obtain ⟨T, rfl, ⟨o, ho, hc, n, hd⟩, _, _⟩ := a
      subst hv
      exact .cons (as := []) (bs := []) (Reads.tuple ho hc hd (.cons (as := []) (bs := []) (.str _ _) (.cons (as := []) (bs := []) (.str _ _) .nil))) (prs_row rfl r b)
theorem paired_split {α β : Type} {F : α → β → Prop} : ∀ {as bs : List α} {ys : List β}, Paired F (as ++ bs) ys → ∃ y1 y2, ys = y1 ++ y2 ∧ Paired F as y1 ∧ Paired F bs y2
  | [], _, ys, p => ⟨[], ys, rfl, .nil, p⟩
  | a :: as, bs, _, .cons h t => by
    obtain ⟨y1, y2, rfl, p1, p2⟩ := paired_split t
    exact ⟨_ :: y1, y2, rfl, .cons h p1, p2⟩
theorem prs_reads {g : Heap} {X : List Nat} {h : Heap} {us : List Value} {ts : List Str} (hu : StrsAre us ts) : ∀ {vs : List Value} {ss : List Str} {ys : List Value}, StrsAre vs ss → PrsAt g X h (pairsOf vs us) ys → ReadsAll h ys (pdata ss ts) []
  | _, _, ys, .nil, p => by cases p; exact .nil
  | _, _, ys, .cons x t r, p => by
    obtain ⟨y1, y2, rfl, p1, p2⟩ := paired_split (as := us.map fun b => (Value.str x t, b)) p
    exact readsAll_append (prs_row rfl hu p1) (prs_reads hu r p2)
theorem eqvAll_append {as bs cs ds : List PyData} (h1 : PyData.eqvAll as cs = true) (h2 : PyData.eqvAll bs ds = true) : PyData.eqvAll (as ++ bs) (cs ++ ds) = true := by
  induction as generalizing cs with
  | nil => cases cs with
    | nil => exact h2
    | cons c cs => simp [PyData.eqvAll] at h1
  | cons a as ih => cases cs with
    | nil => simp [PyData.eqvAll] at h1
    | cons c cs =>
      simp only [PyData.eqvAll, Bool.and_eq_true, List.cons_append] at h1 ⊢
      exact ⟨h1.1, ih h1.2⟩
theorem pdata_refl (ss ts : List Str) : PyData.eqvAll (pdata ss ts) (pdata ss ts) = true := by
  unfold pdata
  induction ss with
  | nil => rfl
  | cons x r ih =>
    rw [List.flatMap_cons]
    refine eqvAll_append ?_ ih
    clear ih
    induction ts with
    | nil => rfl
    | cons y t ih => simp [PyData.eqvAll, PyData.eqv, ih]
theorem lay_append {as bs : List PyData} (h1 : PyData.canLayAll0 as = true) (h2 : PyData.canLayAll0 bs = true) : PyData.canLayAll0 (as ++ bs) = true := by
  induction as with
  | nil => exact h2
  | cons a as ih =>
    simp only [PyData.canLayAll0, Bool.and_eq_true, List.cons_append] at h1 ⊢
    exact ⟨h1.1, ih h1.2⟩
theorem depth_append {as bs : List PyData} {n : Nat} (h1 : PyData.depthAll as ≤ n) (h2 : PyData.depthAll bs ≤ n) : PyData.depthAll (as ++ bs) ≤ n := by
  induction as with
  | nil => exact h2
  | cons a as ih =>
    simp only [PyData.depthAll, List.cons_append] at h1 ⊢
    have := ih (by omega)
    omega
theorem pdata_shaped {ss ts : List Str} (o1 : OkS ss) (o2 : OkS ts) : PySem.SeqAt.shaped (.list (pdata ss ts)) = true := by
  have hx : ∀ x, PyData.strOk x = true → PyData.canLayAll0 (ts.map fun b => PyData.tuple [.str x, .str b]) = true := by
    intro x hx
    induction ts with
    | nil => simp [PyData.canLayAll0]
    | cons y t ih => simp [PyData.canLayAll0, PyData.canLay0, hx, o2 y (.head _), ih fun z hz => o2 z (.tail _ hz)]
  have hd : ∀ x, PyData.depthAll (ts.map fun b => PyData.tuple [.str x, .str b]) ≤ 1 := by
    intro x
    clear o1 o2 hx
    induction ts with
    | nil => simp [PyData.depthAll]
    | cons y t ih => simp [PyData.depthAll, PyData.depth]; omega
  have h1 : PyData.canLayAll0 (pdata ss ts) = true := by
    unfold pdata
    induction ss with
    | nil => simp [PyData.canLayAll0]
    | cons x r ih =>
      rw [List.flatMap_cons]
      exact lay_append (hx x (o1 x (.head _))) (ih fun z hz => o1 z (.tail _ hz))
  have h2 : PyData.depthAll (pdata ss ts) ≤ 1 := by
    unfold pdata
    clear h1 o1
    induction ss with
    | nil => simp [PyData.depthAll]
    | cons x r ih =>
      rw [List.flatMap_cons]
      exact depth_append (hd x) ih
  show (PyData.canLay0 (.list (pdata ss ts)) && decide (PyData.depth (.list (pdata ss ts)) ≤ 64)) = true
  rw [Bool.and_eq_true]
  refine ⟨by simp only [PyData.canLay0]; exact h1, decide_eq_true ?_⟩
  simp only [PyData.depth]; omega

section
variable {w : World} {h₀ : Heap} {A : Around} {s : Shared} {R : Result → Shared → Prop} {E : Value → Shared → Prop} {a l : Nat} {i : SetI}
theorem ne_pairs {x y : Nat} {g g' : Heap} {X X' : List Nat} {vs us vs' us' : List Value} {ys ys' : List Value} {ss ts : List Str} {Q : Value → Shared → Prop} (r : Rm A 600 1980) (o1 : OkS ss) (o2 : OkS ts)
    (hl : s.heap.IsList x ys.toArray) (hp : PrsAt g X s.heap (pairsOf vs us) ys) (h1 : StrsAre vs ss) (h2 : StrsAre us ts)
    (hl' : s.heap.IsList y ys'.toArray) (hp' : PrsAt g' X' s.heap (pairsOf vs' us') ys') (h1' : StrsAre vs' ss) (h2' : StrsAre us' ts)
    (h : Q (.bool false) s) : wpAny (model PR w) A (compareOp .NotEq (.ref x) (.ref y)) Q E s := by
  obtain ⟨o, ho, hc, n, hd⟩ := hl
  obtain ⟨o', ho', hc', n', hd'⟩ := hl'
  refine ne_dataH (Reads.list ho hc hd (by simpa using prs_reads h2 h1 hp)) (Reads.list ho' hc' hd' (by simpa using prs_reads h2' h1' hp')) (pdata_shaped o1 o2) (pdata_shaped o1 o2) (Nat.lt_of_lt_of_le (Nat.add_lt_add_right r.u 64) (by decide)) ?_
  simp only [PyData.eqv]
  rw [pdata_refl]
  exact h

theorem iter_set {Q : Value → Shared → Prop} (B : Bs w h₀) (O : On h₀ s.heap) (hd : A.depth < 600) (S : OSet w h₀ (HP s.heap) a i)
    (h : ∀ s5 G L g, ItAt w h₀ (G :: L :: i.fp a) [L] [g] (.ref G) (vals i.l) s5 → Ext [] [] s s5 → s.heap.get? L = none → s.heap.get? G = none → s.gens[g]? = none → (∀ b ∈ G :: L :: i.fp a, ∃ o, s5.heap.get? b = some o) → (∃ x, s5.gens[g]? = some x) → Q (.ref G) s5) :
    wpAny (model PR w) A (pyIter (.ref a)) Q E s := by
  refine i_set B O hd S fun h3 gs tk G L o3 hL hG hne It hb => ?_
  refine h _ G L s.gens.size (it_gen B hne It) (Ext.pushed hb o3) hL hG (Array.getElem?_eq_none (Nat.le_refl _)) (fun b hb => ?_) (by obtain ⟨_, gs', hgs, _⟩ := It; exact ⟨gs', hgs⟩)
  simp only [List.mem_cons] at hb; rcases hb with rfl | rfl | hb
  · obtain ⟨o, _, _, ho, _⟩ := It.gen; exact ⟨o, ho⟩
  · exact It.alive
  · obtain ⟨o, ho⟩ := S.alive b hb; exact ⟨o, o3 b o ho⟩
theorem iter_list {vs : List Value} {Q : Value → Shared → Prop} (hl : s.heap.IsList l vs.toArray)
    (h : ∀ s5 I, ItAt w h₀ [I, l] [I] [] (.ref I) vs s5 → Ext [] [] s s5 → s.heap.get? I = none → (∀ b ∈ [I, l], ∃ o, s5.heap.get? b = some o) → Q (.ref I) s5) :
    wpAny (model PR w) A (pyIter (.ref l)) Q E s := by
  obtain ⟨ol, hol⟩ := IsList.obj hl
  have hn : s.heap.get? s.heap.objs.size = none := none_of_size (Nat.le_refl _)
  have hne : s.heap.objs.size ≠ l := fun e => by rw [e, hol] at hn; cases hn
  refine wpAny_pyIter_list hl (h _ _ (it_list (i := 0) hne ⟨_, Heap.get?_push_size _ rfl, rfl, rfl⟩ (hl.push _) rfl) Ext.push hn fun b hb => ?_)
  simp at hb; rcases hb with rfl | rfl
  · exact ⟨_, Heap.get?_push_size _ rfl⟩
  · exact ⟨_, Heap.get?_push_of_some _ hol⟩
theorem none_of {b : Nat} (O : On h₀ s.heap) (hb : s.heap.get? b = none) : h₀.get? b = none := by
  cases q : h₀.get? b with
  | none => rfl
  | some o => have := O _ _ q; rw [hb] at this; cases this
end
end Mine
set_option Elab.async false
set_option maxRecDepth 100000
set_option maxHeartbeats 4000000
namespace Mine
open PySem PySem.W PyProof.Rows PySem.Calls PySem.W.X PySem.Builtin

/-- a thing that can be walked, its items -/
def SrcAt (w : World) (h₀ : Heap) (v : Nat) (vs : List Value) (s : Shared) : Prop :=
  ∀ (A : Around) (E : Value → Shared → Prop) (Q : Value → Shared → Prop) (s1 : Shared), A.depth < 600 → On h₀ s1.heap → On s.heap s1.heap →
    (∀ s5 it K D G, ItAt w h₀ K D G it vs s5 → Ext [] [] s1 s5 → (∀ b ∈ D, s1.heap.get? b = none) → (∀ g ∈ G, s1.gens[g]? = none) → (∀ b ∈ D, b ∈ K) → (∀ b ∈ K, ∃ o, s5.heap.get? b = some o) → (∀ g ∈ G, ∃ x, s5.gens[g]? = some x) →
      (∀ b ∈ K, (∃ o, s.heap.get? b = some o) ∨ s1.heap.get? b = none) → Q it s5) →
    wpAny (model PR w) A (pyIter (.ref v)) Q E s1

section
variable {w : World} {h₀ : Heap} {A : Around} {s s' : Shared} {R : Result → Shared → Prop} {E : Value → Shared → Prop} {a l v : Nat} {i : SetI} {vs : List Value}
theorem SrcAt.on (S : SrcAt w h₀ v vs s) (k : On s.heap s'.heap) : SrcAt w h₀ v vs s' := fun A E Q s1 hd O k1 h => S A E Q s1 hd O (fun b o e => k1 b o (k b o e)) fun s5 it K D G h1 h2 h3 h4 h5 h6 h7 h8 =>
  h s5 it K D G h1 h2 h3 h4 h5 h6 h7 fun b hb => (h8 b hb).imp (fun ⟨o, e⟩ => ⟨o, k b o e⟩) id
theorem srcAt_list (hl : s.heap.IsList l vs.toArray) : SrcAt w h₀ l vs s := by
  intro A E Q s1 hd O1 k h
  refine iter_list (hl.at fun o e => k l o e) fun s5 I It x5 hI hK => h s5 _ _ _ _ It x5 (fun b hb => by simp at hb; rw [hb]; exact hI) (fun _ h => nomatch h) (fun b hb => by simp at hb; simp [hb]) hK (fun _ h => nomatch h) fun b hb => ?_
  simp at hb; rcases hb with rfl | rfl
  · exact .inr hI
  · exact .inl (IsList.obj hl)
theorem srcAt_set (B : Bs w h₀) (S : OSet w h₀ (HP s.heap) a i) : SrcAt w h₀ a (vals i.l) s := by
  intro A E Q s1 hd O1 k h
  refine iter_set B O1 hd (S.on k) fun s5 G L g It x5 hL hG hg hK hgs => h s5 _ _ _ _ It x5 (fun b hb => by simp at hb; rw [hb]; exact hL) (fun b hb => by simp at hb; rw [hb]; exact hg) (fun b hb => by simp at hb; simp [hb]) hK (fun b hb => by simp at hb; rw [hb]; exact hgs) fun b hb => ?_
  simp only [List.mem_cons] at hb; rcases hb with rfl | rfl | hb
  · exact .inr hG
  · exact .inr hL
  · exact .inl (S.alive b hb)

theorem pairs {iter1 iter2 : Expr} {x1 x2 : Str} {px1 px2 qx1 qx2 : Pos} {tk : Nat} {tp : Pos} {scope : Scope} {cl : List (Str × Addr)} {pos : Pos} {env : Env} {Q : Value → Shared → Prop}
    (hh : A.handled = none) (hd : A.depth < 600)
    (hclos : closureFor scope env = pure cl) (hcell : ∀ y ∈ scope.names, y.2 ≠ .cell) (hkind : scope.kind = .function)
    (hnames : ∀ y ∈ scope.names, y.2 = .local → scope.names.lookup y.1 = some .local) (hx1 : scope.names.lookup x1 = some .local) (hx2 : scope.names.lookup x2 = some .local) (hxx : x1 ≠ x2)
    (O : On h₀ s.heap) (S : SrcAt w h₀ v vs s) (hz : vs.length * vs.length ≤ 1000)
    (h1 : ∀ Q : Value → Shared → Prop, Q (.ref v) s → wpAny (model PR w) A (eval iter1 env) Q E s)
    (h2 : ∀ C s' E' (Q : Value → Shared → Prop), On s.heap s'.heap → Q (.ref v) s' → wpAny (model PR w) A (eval iter2 (compEnvC scope cl C env)) Q E' s')
    (post : ∀ Da ys s', Ext [] [] s s' → s.heap.get? Da = none → s'.heap.IsList Da ys.toArray → PrsAt s.heap [] s'.heap (pairsOf vs vs) ys → Q (.ref Da) s')
    (hs : ∀ x, foldedSetIterable iter1 env x = pure x := by intro _; rfl) (hs2 : ∀ C x, foldedSetIterable iter2 (compEnvC scope cl C env) x = pure x := by intro _ _; rfl)
    (hd1 : (x1 == ("__debug__" : Str)) = false := by decide) (hd2 : (x2 == ("__debug__" : Str)) = false := by decide) :
    wpAny (model PR w) A (eval (.ListComp (.Tuple [.Name x1 qx1, .Name x2 qx2] tk tp) [⟨.Name x1 px1, iter1, [], 0⟩, ⟨.Name x2 px2, iter2, [], 0⟩] scope pos) env) Q E s := by
  refine comp2 (h₀ := h₀) hh (Nat.lt_trans hd (by decide)) hclos hcell hkind hnames hx1 hx2 hxx (h1 _ (S _ _ _ _ hd O (fun b o e => e) fun s2 it K D G I x2 hD hG hDK hK hGs hKs => ?_)) hs hs2 hd1 hd2
  have O2 := x2.on O fun _ h => nomatch h
  have keep : ∀ s', Ext D G s2 s' → On s.heap s'.heap := fun s' y b o e => y.kp b o (fun q => by rw [hD b q] at e; cases e) (x2.keep b o e)
  refine ⟨K, D, G, vs, vs, I, O2, fun b hb => none_of O (hD b hb), hDK, hK, hGs, hz, fun C s5 m E' R O5 y5 hC hn hR => ?_, fun Da ys s' hDa hl O' y' hp => ?_⟩
  · refine h2 C s5 E' _ (keep s5 y5) (S _ _ _ _ hd O5 (keep s5 y5) fun s6 it2 K2 D2 G2 I2 x6 hD2 hG2 hDK2 hK2 hGs2 hKs2 => ?_)
    exact hR it2 K2 D2 G2 s6 I2 x6 hD2 hG2 hDK2 hK2 fun b hb => (hKs2 b hb).imp (fun ⟨o, e⟩ => ⟨o, x2.keep b o e⟩) id
  · refine post Da ys s' (x2.then y' (fun b hb _ => .inl (hD b hb)) (fun g hg _ => .inl (hG g hg))) ?_ hl ?_
    · cases q : s.heap.get? Da with
      | none => rfl
      | some o => have := x2.keep _ _ q; rw [hDa] at this; cases this
    · refine Paired.imp hp ?_
      rintro p y ⟨T, rfl, ht, hg, hT⟩
      refine ⟨T, rfl, ht, ?_, hT⟩
      cases q : s.heap.get? T with
      | none => rfl
      | some o => have := x2.keep _ _ q; rw [hg] at this; cases this

/-- the texts of a source that pass a test -/
theorem filt {iter : Expr} {x : Str} {px qx : Pos} {ifs : List Expr} {scope : Scope} {cl : List (Str × Addr)} {pos : Pos} {env : Env} {Q : Value → Shared → Prop} {ss : List Str} (p : Str → Bool)
    (hh : A.handled = none) (hd : A.depth < 600)
    (hclos : closureFor scope env = pure cl) (hcell : ∀ y ∈ scope.names, y.2 ≠ .cell) (hkind : scope.kind = .function)
    (hnames : ∀ y ∈ scope.names, y.2 = .local → scope.names.lookup y.1 = some .local) (hx : scope.names.lookup x = some .local)
    (O : On h₀ s.heap) (S : SrcAt w h₀ v vs s) (hss : StrsAre vs ss) (hz : ss.length ≤ 1000)
    (h1 : wpAny (model PR w) A (eval iter env) (fun xv s₁ => xv = .ref v ∧ s₁.heap = s.heap ∧ Ext [] [] s s₁) E s)
    (ht : ∀ C s' m y t E' (Q : Bool → Shared → Prop), y ∈ ss → On h₀ s'.heap → On s.heap s'.heap → s'.heap.Ns C m → m x = some (.str y t) → (∀ s'', Ext [] [] s' s'' → Q (p y) s'') →
      wpAny (model PR w) A (testsOf ifs (compEnvC scope cl C env)) Q E' s')
    (post : ∀ Da us s', Ext [] [] s s' → s.heap.get? Da = none → s'.heap.IsList Da us.toArray → StrsAre us (ss.filter p) → Q (.ref Da) s')
    (hs : ∀ x, foldedSetIterable iter env x = pure x := by intro _; rfl) (hti : ∀ it v, letOwnedTupleGo (.Name x px) it v = pure () := by intro _ _; rfl) (hdb : (x == ("__debug__" : Str)) = false := by decide) :
    wpAny (model PR w) A (eval (.ListComp (.Name x qx) [⟨.Name x px, iter, ifs, 0⟩] scope pos) env) Q E s := by
  refine comp1 (h₀ := h₀) (fun u => match u with | .str y _ => p y | _ => false) (fun u y => y = u) hh (Nat.lt_trans hd (by decide)) hclos hcell hkind hnames hx (wpAny_mono h1 (fun xv s₁ hx1 => ?_) fun _ _ e => e) hs hti
  obtain ⟨rfl, e1, x1⟩ := hx1
  have O1 := x1.on O fun _ h => nomatch h
  refine S _ _ _ _ hd O1 x1.keep fun s2 it K D G I x2 hD hG hDK hK hGs hKs => ?_
  have O2 := x2.on O1 fun _ h => nomatch h
  have x02 : Ext [] [] s s2 := x1.trans x2
  have hD' : ∀ b ∈ D, s.heap.get? b = none := fun b hb => by rw [← e1]; exact hD b hb
  have keep : ∀ s', Ext D G s2 s' → On s.heap s'.heap := fun s' y b o e => y.kp b o (fun q => by rw [hD' b q] at e; cases e) (x02.keep b o e)
  have hlen : vs.length ≤ 1000 := by have := StrsAre.length hss; omega
  have hmem : ∀ u, u ∈ vs → ∃ y t, u = .str y t ∧ y ∈ ss := by
    clear h1 ht post hz I hlen S
    induction hss with
    | nil => intro u hu; cases hu
    | cons y t r ih =>
      intro u hu
      rcases List.mem_cons.mp hu with rfl | hu
      · exact ⟨y, t, rfl, .head _⟩
      · obtain ⟨y', t', e, hy⟩ := ih u hu
        exact ⟨y', t', e, .tail _ hy⟩
  refine ⟨K, D, G, vs, I, O2, fun b hb => none_of O (hD' b hb), hDK, hK, hlen, fun C s5 m u E' hu O5 y5 hC hn hm => ?_, fun C s5 m u E' hu hp O5 y5 hC hn hm => ?_, fun Da ys s' hDa hl O' y' hp => ?_⟩
  · obtain ⟨y, t, rfl, hy⟩ := hmem u hu
    exact ht C s5 m y t E' _ hy O5 (keep s5 y5) hn hm fun s'' x'' => ⟨rfl, x''⟩
  · exact n_local (env := compEnvC scope cl C env) hkind (lookup_relabel_local hx) hn hm ⟨rfl, Ext.refl⟩ hdb
  · refine post Da ys s' (x02.then y' (fun b hb _ => .inl (hD' b hb)) (fun g hg _ => .inl (Array.getElem?_eq_none (Nat.le_trans x1.gz (Array.getElem?_eq_none_iff.mp (hG g hg)))))) ?_ hl ?_
    · cases q : s.heap.get? Da with
      | none => rfl
      | some o => have := x02.keep _ _ q; rw [hDa] at this; cases this
    · have e : ys = vs.filter fun u => match u with | .str y _ => p y | _ => false := by
        clear hl
        have : ∀ {xs ys : List Value}, Paired (fun u y => y = u) xs ys → ys = xs := by
          intro xs ys h
          induction h with
          | nil => rfl
          | cons h _ ih => rw [h, ih]
        exact this hp
      rw [e]
      clear h1 ht post hz I hlen S hmem hp hl e
      induction hss with
      | nil => exact .nil
      | cons y t r ih =>
        rw [List.filter_cons, List.filter_cons]
        cases q : p y
        · simpa [q] using ih
        · simpa [q] using StrsAre.cons y t ih
end
end Mine
set_option Elab.async false
set_option maxRecDepth 100000
set_option maxHeartbeats 4000000
namespace Mine
open PySem PySem.W PyProof.Rows PySem.Calls PySem.W.X PySem.Builtin

theorem mem_fold (x : Str) : ∀ (ss acc : List Str), x ∈ ss.foldl addL acc ↔ x ∈ acc ∨ x ∈ ss
  | [], acc => by simp
  | y :: r, acc => by
    rw [List.foldl_cons, mem_fold x r]
    unfold addL
    split
    · rename_i h
      simp only [List.mem_cons]
      constructor
      · rintro (h1 | h1)
        · exact .inl h1
        · exact .inr (.inr h1)
      · rintro (h1 | rfl | h1)
        · exact .inl h1
        · exact .inl h
        · exact .inr h1
    · simp only [List.mem_append, List.mem_cons, List.not_mem_nil, or_false]
      constructor
      · rintro ((h1 | h1) | h1)
        · exact .inl h1
        · exact .inr (.inl h1)
        · exact .inr (.inr h1)
      · rintro (h1 | h1 | h1)
        · exact .inl (.inl h1)
        · exact .inl (.inr h1)
        · exact .inr h1
theorem fold_nodup : ∀ (ss acc : List Str), (acc ++ ss).Nodup → ss.foldl addL acc = acc ++ ss
  | [], acc, _ => by simp
  | y :: r, acc, h => by
    rw [List.foldl_cons]
    have hy : y ∉ acc := by
      rw [List.nodup_append] at h
      exact fun q => h.2.2 y q y (.head _) rfl
    have e : addL acc y = acc ++ [y] := by unfold addL; rw [if_neg hy]
    rw [e, fold_nodup r (acc ++ [y]) (by simpa using h)]
    simp
theorem fold_mem : ∀ (ss acc : List Str), (∀ x ∈ ss, x ∈ acc) → ss.foldl addL acc = acc
  | [], acc, _ => rfl
  | y :: r, acc, h => by
    rw [List.foldl_cons]
    have e : addL acc y = acc := by unfold addL; rw [if_pos (h y (.head _))]
    rw [e, fold_mem r acc fun x hx => h x (.tail _ hx)]
theorem fold_twice {row : List Str} (h : row.Nodup) : (row ++ row).foldl addL [] = row := by
  rw [List.foldl_append, fold_nodup row [] (by simpa using h), List.nil_append]
  exact fold_mem row row fun x hx => hx
theorem fold_len (ss : List Str) : ∀ acc : List Str, (ss.foldl addL acc).length ≤ acc.length + ss.length := by
  induction ss with
  | nil => intro acc; simp
  | cons y r ih =>
    intro acc
    rw [List.foldl_cons]
    have h1 := ih (addL acc y)
    have h2 : (addL acc y).length ≤ acc.length + 1 := by
      unfold addL; split
      · omega
      · simp
    simp; omega
/-- rows that make another set -/
structure Bad (row ss : List Str) : Prop where
  ne : ss.foldl addL [] ≠ row
  ok : OkS ss
  len : ss.length ≤ 60
def itemAb : Str := Str.ofString "item-ab-"
theorem itemAb_ok : PyData.strOk itemAb = true := by decide +kernel
theorem bad_item {row ss : List Str} (h1 : ∀ x ∈ row, NmOK x) (h2 : itemAb ∈ ss) (h3 : OkS ss) (h4 : ss.length ≤ 60) : Bad row ss := by
  refine ⟨fun e => ?_, h3, h4⟩
  have : itemAb ∈ row := by rw [← e, mem_fold]; exact .inr h2
  exact (h1 _ this).ne rfl
theorem bad_swap {row : List Str} (h1 : ∀ x ∈ row, NmOK x) (hn : row.Nodup) {p : Nat} {x y : Str} (hx : row[p]? = some x) (hy : row[p + 1]? = some y) (hz : row.length ≤ 25) : Bad row (row.take p ++ [y, x] ++ row.drop (p + 2)) := by
  have hp : p < row.length := (List.getElem?_eq_some_iff.mp hx).1
  have hp1 : p + 1 < row.length := (List.getElem?_eq_some_iff.mp hy).1
  have e : row = row.take p ++ [x, y] ++ row.drop (p + 2) := by
    have e1 : row.drop p = x :: row.drop (p + 1) := by
      rw [List.drop_eq_getElem_cons hp, (List.getElem?_eq_some_iff.mp hx).2]
    have e2 : row.drop (p + 1) = y :: row.drop (p + 2) := by
      rw [List.drop_eq_getElem_cons hp1, (List.getElem?_eq_some_iff.mp hy).2]
    have := (List.take_append_drop p row).symm
    rw [e1, e2] at this
    simpa using this
  have hperm : (row.take p ++ [y, x] ++ row.drop (p + 2)).Perm row := by
    conv => rhs; rw [e]
    exact ((List.Perm.swap x y []).append_left _).append_right _
  have hnd : (row.take p ++ [y, x] ++ row.drop (p + 2)).Nodup := hperm.nodup_iff.mpr hn
  refine ⟨fun q => ?_, fun z hz => ?_, ?_⟩
  · rw [fold_nodup _ [] (by simpa using hnd), List.nil_append] at q
    have hxy : x = y := by
      have h3 : (row.take p ++ [y, x] ++ row.drop (p + 2)) = row.take p ++ [x, y] ++ row.drop (p + 2) := q.trans e
      have h4 := List.append_cancel_right h3
      have h5 := List.append_cancel_left h4
      injection h5 with h6 _
      exact h6.symm
    subst hxy
    rw [e] at hn
    simp [List.nodup_append] at hn
  · exact (h1 z (hperm.mem_iff.mp hz)).ok
  · rw [hperm.length_eq]; omega

section
variable {w : World} {h₀ : Heap} {A : Around} {s : Shared} {R : Result → Shared → Prop} {E : Value → Shared → Prop} {x y l : Nat} {ss ts : List Str}
theorem add_ls {Q : Value → Shared → Prop} (h1 : LS s.heap x ss) (h2 : LS s.heap y ts) (hz : ss.length + ts.length ≤ 1000)
    (h : ∀ D s', Ext [] [] s s' → s.heap.get? D = none → LS s'.heap D (ss ++ ts) → Q (.ref D) s') : wpAny (model PR w) A (binaryOp .Add (.ref x) (.ref y)) Q E s := by
  obtain ⟨vs, hl, hi⟩ := h1
  obtain ⟨ws, hb, hj⟩ := h2
  have l1 := StrsAre.length hi
  have l2 := StrsAre.length hj
  obtain ⟨⟨cls, dd, data, sl⟩, ho, hc, n, hd⟩ := id hl
  obtain ⟨⟨cls2, dd2, data2, sl2⟩, ho2, hc2, n2, hd2⟩ := id hb
  simp only at hc hd hc2 hd2
  subst hc hd hc2 hd2
  have e : vs.toArray ++ ws.toArray = (vs ++ ws).toArray := by simp
  refine concat_meets ⟨_, ho, rfl⟩ ⟨_, ho2, rfl⟩ noFill_list_add seq_list_add PySem.F.slot_list_add PySem.F.entry_list_add (PySem.F.args_list_add_2 _ _) (list_addW x y vs.toArray ws.toArray n n2 dd dd2 sl sl2 (big_line (by simp; omega))) ⟨ho, ho2, ?_⟩
  rw [e]
  exact h _ _ Ext.push (none_of_size (Nat.le_refl _)) ⟨vs ++ ws, ⟨_, Heap.get?_push_size _ rfl, rfl, _, rfl⟩, hi.append' hj⟩
theorem ls_len {Q : Value → Shared → Prop} (h1 : LS s.heap x ss) (hz : ss.length ≤ 1000) (h : ∀ s' t, Ext [] [] s s' → Q (.int ss.length t) s') : wpAny (model PR w) A (call (.builtin "len") [.ref x]) Q E s := by
  obtain ⟨vs, hl, hi⟩ := h1
  have l1 := StrsAre.length hi
  refine call_len_list hl (by simp; omega) ?_
  have e : ((vs.toArray.size : Nat) : Int) = ss.length := by simp [l1]
  rw [e]
  exact h _ _ Ext.tok
theorem ls_in {k : Str} {t : Tok} {Q : Value → Shared → Prop} (h1 : LS s.heap x ss) (h : Q (.bool (decide (k ∈ ss))) s) : wpAny (model PR w) A (compareOp .In (.str k t) (.ref x)) Q E s := by
  obtain ⟨vs, hl, hi⟩ := h1
  refine in_list_strs hl hi ?_
  have e : ss.any (· == k) = decide (k ∈ ss) := by
    rw [Bool.eq_iff_iff]; simp
  rw [e]; exact h
theorem ls_notin {k : Str} {t : Tok} {Q : Value → Shared → Prop} (h1 : LS s.heap x ss) (h : Q (.bool (!decide (k ∈ ss))) s) : wpAny (model PR w) A (compareOp .NotIn (.str k t) (.ref x)) Q E s := by
  obtain ⟨vs, hl, hi⟩ := h1
  refine notin_list_strs hl hi ?_
  have e : ss.any (· == k) = decide (k ∈ ss) := by
    rw [Bool.eq_iff_iff]; simp
  rw [e]; exact h
theorem ls_eq {Q : Value → Shared → Prop} (h1 : LS s.heap x ss) (h2 : LS s.heap y ts) (o1 : OkS ss) (o2 : OkS ts) (r : Rm A 600 1980) (h : Q (.bool (decide (ss = ts))) s) : wpAny (model PR w) A (compareOp .Eq (.ref x) (.ref y)) Q E s := by
  obtain ⟨vs, hl, hi⟩ := h1
  obtain ⟨us, hl', hi'⟩ := h2
  exact eq_strs hl hi hl' hi' o1 o2 r h
theorem ls_ne {Q : Value → Shared → Prop} (h1 : LS s.heap x ss) (h2 : LS s.heap y ts) (o1 : OkS ss) (o2 : OkS ts) (r : Rm A 600 1980) (h : Q (.bool (!decide (ss = ts))) s) : wpAny (model PR w) A (compareOp .NotEq (.ref x) (.ref y)) Q E s := by
  obtain ⟨vs, hl, hi⟩ := h1
  obtain ⟨us, hl', hi'⟩ := h2
  exact ne_strs hl hi hl' hi' o1 o2 r h
theorem nil_ls {env : Env} {pos : Pos} {Q : Value → Shared → Prop} (h : ∀ D s', Ext [] [] s s' → s.heap.get? D = none → LS s'.heap D [] → Q (.ref D) s') : wpAny (model PR w) A (eval (.List [] pos) env) Q E s := by
  refine wpAny_List (wpAny_items_nil ⟨Nat.zero_le _, ?_⟩)
  exact h _ _ Ext.push (none_of_size (Nat.le_refl _)) ⟨[], ⟨_, Heap.get?_push_size _ rfl, rfl, _, rfl⟩, .nil⟩
theorem one_ls {env : Env} {pos : Pos} {e : Expr} {Q : Value → Shared → Prop}
    (h : wpAny (model PR w) A (eval e env) (fun v s1 => ∃ k t, v = .str k t ∧ ∀ D s', Ext [] [] s1 s' → s1.heap.get? D = none → LS s'.heap D [k] → Q (.ref D) s') E s) (he : starEach (e :: []) env = (false, eval e env) :: starEach [] env := by rfl) : wpAny (model PR w) A (eval (.List [e] pos) env) Q E s := by
  refine wpAny_List (wpAny_items_cons (wpAny_mono h (fun v s1 h1 => wpAny_items_nil ⟨big_line (Nat.le_of_ble_eq_true rfl), ?_⟩) fun _ _ e => e) he)
  obtain ⟨k, t, rfl, h1⟩ := h1
  exact h1 _ _ Ext.push (none_of_size (Nat.le_refl _)) ⟨[.str k t], ⟨_, Heap.get?_push_size _ rfl, rfl, _, rfl⟩, .cons _ _ .nil⟩
end
end Mine
set_option Elab.async false
set_option maxRecDepth 100000
set_option maxHeartbeats 4000000
namespace Mine
open PySem PySem.W PyProof.Rows PySem.Calls PySem.W.X PySem.Builtin

theorem filled26 : PySem.Challenge.rw_ay0038_01 = PySem.Challenge.rw_ay0038_01 ∧ hd.heap_39 = hd.heap_39 := by
  k_fill
  exact ⟨rfl, rfl⟩
local macro_rules | `(tactic| walk_at "my enterC") => `(tactic| (k_dflt (refine' enterC ?k1 ?k2 ?k6 ?k7 ?k8 ?k9 ?kB ?c5 ?_ ?c2 ?c3 ?c4; (case k1 => assumption); (case k2 => assumption); (case k6 => k_is); (case k7 => k_is); (case k8 => first | decide | exact Nat.lt_trans (Rm.d (by assumption)) (by decide)); (case k9 => exact BindsTo.of_eq rfl); (case kB => first | rfl | decide | kernel_rfl); (case c5 => decide); (case c2 => exact rfl); (case c3 => exact rfl); (case c4 => exact rfl))))

section
variable {w : World} {h₀ : Heap} {A : Around} {s : Shared} {R : Result → Shared → Prop} {E : Value → Shared → Prop} {a l nl : Nat} {i : SetI}

theorem slice_end {ss rs : List Str} {vl vu : Value} {lo up : Option Int} {Q : Value → Shared → Prop} (hl : LS s.heap l ss) (hz : ss.length ≤ 1000) (hp : IsPart vl lo) (hq : IsPart vu up)
    (hpick : ∀ vs, StrsAre vs ss → StrsAre (slicePick vs.toArray lo up none).toList rs) (h : ∀ D s', Ext [] [] s s' → s.heap.get? D = none → LS s'.heap D rs → Q (.ref D) s') :
    ∃ l' items lo hi, Value.ref l = .ref l' ∧ s.heap.IsList l' items ∧ items.size ≤ sizeLine ∧ IsPart vl lo ∧ IsPart vu hi ∧
      Q (.ref (s.heap.objs.size + 1)) { s with heap := (s.heap.push { cls := .type "slice", data := .fields #[vl, vu, .none] }).push { cls := .type "list", data := .seq (slicePick items lo hi none) } } := by
  obtain ⟨vs, hl, hi⟩ := hl
  have l1 := StrsAre.length hi
  have key := Heap.get?_push_size (s.heap.push { cls := .type "slice", data := .fields #[vl, vu, .none] }) (o := { cls := .type "list", data := .seq (slicePick vs.toArray lo up none) }) rfl
  rw [Heap.size_push] at key
  exact ⟨l, vs.toArray, lo, up, rfl, hl, big_line (by simp; omega), hp, hq, h _ _ (Ext.heap (tk := s.toks) fun b o _ e => Heap.get?_push_of_some _ (Heap.get?_push_of_some _ e)) (none_of_size (Nat.le_succ _)) ⟨(slicePick vs.toArray lo up none).toList, ⟨_, key, rfl, 0, by simp⟩, hpick vs hi⟩⟩
theorem slice_ls {value : Expr} {lower upper : Option Expr} {p pos : Pos} {env : Env} {Q : Value → Shared → Prop}
    (h : wpAny (model PR w) A (eval value env) (fun o s1 => wpAny (model PR w) A (evalPart lower env) (fun vl s2 => wpAny (model PR w) A (evalPart upper env) (fun vu s3 => ∃ l ss lo up rs, o = .ref l ∧ LS s3.heap l ss ∧ ss.length ≤ 1000 ∧ IsPart vl lo ∧ IsPart vu up ∧
      (∀ vs, StrsAre vs ss → StrsAre (slicePick vs.toArray lo up none).toList rs) ∧ (∀ D s', Ext [] [] s3 s' → s3.heap.get? D = none → LS s'.heap D rs → Q (.ref D) s')) E s2) E s1) E s)
    (hg : ∀ o r : Value, letTemporaryGo value o r = pure () := by intro _ _; rfl) : wpAny (model PR w) A (eval (.Subscript value (.Slice lower upper none p) pos) env) Q E s := by
  refine wpAny_Subscript_list_slice (wpAny_mono h (fun o s1 h1 => wpAny_mono h1 (fun vl s2 h2 => wpAny_mono h2 (fun vu s3 h3 => ?_) fun _ _ e => e) fun _ _ e => e) fun _ _ e => e) hg
  obtain ⟨l, ss, lo, up, rs, rfl, a1, a2, a3, a4, a5, a6⟩ := h3
  exact slice_end a1 a2 a3 a4 a5 a6
theorem pick_upto {ss : List Str} (b : Nat) : ∀ vs, StrsAre vs ss → StrsAre (slicePick vs.toArray none (some (b : Int)) none).toList (ss.take b) := fun vs h => by
  rw [slicePick_upto']; simpa using StrsAre.take' h b
theorem pick_from {ss : List Str} (a : Nat) : ∀ vs, StrsAre vs ss → StrsAre (slicePick vs.toArray (some (a : Int)) none none).toList (ss.drop a) := fun vs h => by
  rw [slicePick_from']; simpa using StrsAre.drop' h a
theorem pick_last1 {ss : List Str} : ∀ vs, StrsAre vs ss → StrsAre (slicePick vs.toArray (some (-1)) none none).toList (ss.drop (ss.length - 1)) := fun vs h => by
  have := slicePick_last vs.toArray 1 (Nat.le_refl _)
  rw [show (-((1 : Nat) : Int)) = -1 from rfl] at this
  rw [this]
  have l1 := StrsAre.length h
  simpa [l1] using StrsAre.drop' h (ss.length - 1)
theorem pick_but1 {ss : List Str} : ∀ vs, StrsAre vs ss → StrsAre (slicePick vs.toArray none (some (-1)) none).toList (ss.take (ss.length - 1)) := fun vs h => by
  have := slicePick_butLast vs.toArray 1 (Nat.le_refl _)
  rw [show (-((1 : Nat) : Int)) = -1 from rfl] at this
  rw [this]
  have l1 := StrsAre.length h
  simpa [l1] using StrsAre.take' h (ss.length - 1)

/-- the frame of _law_whole -/
structure Wst (s : Shared) (L ch cr a l : Nat) (s' : Shared) (m : Str → Option Value) : Prop where
  x : Ext [] [] s s'
  n : s'.heap.Ns L m
  h : s'.heap.IsCell ch (some (.ref a))
  r : s'.heap.IsCell cr (some (.ref l))
theorem cell_ne {h : Heap} {L c : Nat} {m : Str → Option Value} {v : Option Value} (n : h.Ns L m) (k : h.IsCell c v) : c ≠ L := fun e => by
  obtain ⟨o, es, ep, ho, hd, _⟩ := n
  obtain ⟨o', ho', hd'⟩ := k
  rw [e, ho] at ho'
  cases ho'
  rw [hd] at hd'; cases hd'
theorem list_ne {h : Heap} {L c : Nat} {m : Str → Option Value} {ss : List Str} (n : h.Ns L m) (k : LS h c ss) : c ≠ L := fun e => by
  obtain ⟨o, es, ep, ho, hd, _⟩ := n
  obtain ⟨_, ⟨o', ho', _, k, hd'⟩, _⟩ := k
  rw [e, ho] at ho'
  cases ho'
  rw [hd] at hd'; cases hd'
theorem Wst.on {s s' s'' : Shared} {L ch cr a l : Nat} {m : Str → Option Value} (W : Wst s L ch cr a l s' m) (x : Ext [] [] s' s'') : Wst s L ch cr a l s'' m := ⟨W.x.trans x, W.n.keeps x.keep, W.h.keeps x.keep, W.r.keeps x.keep⟩
theorem Wst.store {s s' : Shared} {L ch cr a l : Nat} {m : Str → Option Value} {env : Env} {x : Str} {v : Value} {Q : Unit → Shared → Prop} (W : Wst s L ch cr a l s' m) (hL : s.heap.get? L = none) (hloc : env.locals = L) (kx : env.kindOf x = some .local) (hk : env.scope.kind = .function)
    (h : ∀ s'', Ext [L] [] s' s'' → Wst s L ch cr a l s'' (fun y => if y = x then some v else m y) → Q () s'') : wpAny (model PR w) A (storeName env x v) Q E s' := by
  subst hloc
  refine wpAny_storeName_local kx W.n (fun h' hn' hs' => ?_) (by rw [hk]; rfl)
  have x' : Ext [env.locals] [] s' { s' with heap := h', toks := s'.toks + 1 } := Ext.heap fun b o hb e => hs'.extBut b o (fun q => hb (by simp [q])) e
  have kp : ∀ {c : Nat} {v : Option Value}, s'.heap.IsCell c v → h'.IsCell c v := fun {c v} k => by
    have hne := cell_ne W.n k
    obtain ⟨o, ho, hd⟩ := k
    exact ⟨o, hs'.extBut c o hne ho, hd⟩
  exact h _ x' ⟨W.x.then x' (fun b hb _ => .inl (by simp at hb; rw [hb]; exact hL)) (fun _ h => nomatch h), hn', kp W.h, kp W.r⟩

/-- the other rows -/
structure Oth (row : List Str) (s' : Shared) (od : Nat) (items : Array Value) : Prop where
  p : s'.heap.PlainList od items
  b : ∀ v ∈ items.toList, ∃ d ss, v = .ref d ∧ LS s'.heap d ss ∧ Bad row ss ∧ d ≠ od
theorem Oth.on {row : List Str} {s' s'' : Shared} {od : Nat} {items : Array Value} (T : Oth row s' od items) (x : Ext [] [] s' s'') : Oth row s'' od items :=
  ⟨by obtain ⟨n, e⟩ := T.p; exact ⟨n, x.keep _ _ e⟩, fun v hv => by obtain ⟨d, ss, e, h1, h2⟩ := T.b v hv; exact ⟨d, ss, e, h1.on x.keep, h2⟩⟩
theorem plain_ne {h : Heap} {L c : Nat} {m : Str → Option Value} {xs : Array Value} (n : h.Ns L m) (k : h.PlainList c xs) : c ≠ L := fun e => by
  obtain ⟨o, es, ep, ho, hd, _⟩ := n
  obtain ⟨_, ho'⟩ := k
  rw [e, ho] at ho'
  cases ho'
  cases hd
theorem Oth.onL {row : List Str} {s' s'' : Shared} {od L : Nat} {items : Array Value} {m : Str → Option Value} (T : Oth row s' od items) (x : Ext [L] [] s' s'') (n : s'.heap.Ns L m) : Oth row s'' od items := by
  refine ⟨?_, fun v hv => ?_⟩
  · have hne := plain_ne n T.p
    obtain ⟨k, e⟩ := T.p
    exact ⟨k, x.kp od _ (by simpa using hne) e⟩
  · obtain ⟨d, ss, e, h1, h2⟩ := T.b v hv
    exact ⟨d, ss, e, h1.at fun o e => x.kp d o (by simpa using list_ne n h1) e, h2⟩
theorem two_ls {env : Env} {pos : Pos} {e1 e2 : Expr} {Q : Value → Shared → Prop}
    (h : wpAny (model PR w) A (eval e1 env) (fun v s1 => wpAny (model PR w) A (eval e2 env) (fun u s2 => ∃ k t k' t', v = .str k t ∧ u = .str k' t' ∧ ∀ D s', Ext [] [] s2 s' → s2.heap.get? D = none → LS s'.heap D [k, k'] → Q (.ref D) s') E s1) E s)
    (he : starEach (e1 :: [e2]) env = (false, eval e1 env) :: starEach [e2] env := by rfl) (he2 : starEach (e2 :: []) env = (false, eval e2 env) :: starEach [] env := by rfl) : wpAny (model PR w) A (eval (.List [e1, e2] pos) env) Q E s := by
  refine wpAny_List (wpAny_items_cons (wpAny_mono h (fun v s1 h1 => wpAny_items_cons (wpAny_mono h1 (fun u s2 h2 => wpAny_items_nil ⟨big_line (Nat.le_of_ble_eq_true rfl), ?_⟩) fun _ _ e => e) he2) fun _ _ e => e) he)
  obtain ⟨k, t, k', t', rfl, rfl, h1⟩ := h2
  exact h1 _ _ Ext.push (none_of_size (Nat.le_refl _)) ⟨[.str k t, .str k' t'], ⟨_, Heap.get?_push_size _ rfl, rfl, _, rfl⟩, .cons _ _ (.cons _ _ .nil)⟩
theorem item_ls {l : Nat} {ss : List Str} {k : Int} {t : Tok} {x : Str} {Q : Value → Shared → Prop} (hl : LS s.heap l ss) (h0 : 0 ≤ k) (hk : ss[k.toNat]? = some x) (hz : ss.length ≤ 1000) (h : ∀ t', Q (.str x t') s) : SubscriptOn (model PR w) A (.ref l) (.int k t) Q E s := by
  obtain ⟨vs, hl, hi⟩ := hl
  obtain ⟨t', e⟩ := strs_at hl hi hk
  have hlt : k.toNat < ss.length := (List.getElem?_eq_some_iff.mp hk).1
  exact sub_list hl (wpAny_getItem_list hl h0 (by omega) e (h t'))

theorem a_whole {row names : List Str} {pk : Int} {pt : Tok} (B : Bs w h₀) (O : On h₀ s.heap) (r : Rm A 560 1850) (S : OSet w h₀ (HP s.heap) a i) (hl : LS s.heap l row)
    (hnl : LS s.heap nl names) (hk : i.keys = row) (hok : ∀ x ∈ row, NmOK x) (hon : ∀ x ∈ names, NmOK x) (hz : row.length ≤ 25) (hzn : names.length ≤ 60)
    (ret : ∀ s', Ext [] [] s s' → R (.ok (.ret (.bool true))) s') : codeAny (model PR w) A (.call (.ref 145) ⟨[.ref a, .ref l, .ref nl, .int pk pt], []⟩) R s := by
  walk_at "my enterC"
  intro L s1 x1 hn hL hc
  refine anyE fun E0 => ?_
  have hch := hc "held" _ rfl
  have hcr := hc "row" _ rfl
  have O1 := x1.on O fun _ h => nomatch h
  have r1 : ∀ env, Rm (A.deeper env) 561 1853 := fun _ => r.deeper
  have hrow : OkS row := fun x hx => (hok x hx).ok
  have hnam : OkS names := fun x hx => (hon x hx).ok
  have hnd : row.Nodup := hk ▸ keys_nodup S
  have hil : i.l.length = row.length := by rw [← hk]; unfold SetI.keys; rw [List.length_map]
  have hsq : ∀ n, n = row.length → n * n ≤ 1000 := fun n e => by
    have : n ≤ 25 := by omega
    exact Nat.le_trans (Nat.mul_le_mul this this) (by decide)
  have S1 := S.on x1.keep
  have hl1 := hl.on x1.keep
  have hn1 := hnl.on x1.keep
  -- the pairs
  refine wpAny_execs_cons (wpAny_If ?_)
  refine wpAny_isTrue_Compare1 ?_
  refine pairs (h₀ := h₀) (v := a) (vs := vals i.l) (r1 _).h (Nat.lt_trans (r1 default).d (by decide)) rfl (by decide) rfl (by decide) rfl rfl (by decide) O1 (srcAt_set B S1) (hsq _ (by simp [vals, hil])) (fun Q hq => n_cell rfl rfl rfl hch hq) (fun C s' E' Q k hq => n_cell rfl rfl rfl (hch.keeps k) hq) fun D1 y1 s2 x2 hD1 hp1 hq1 => ?_
  have O2 := x2.on O1 fun _ h => nomatch h
  have hcr2 := hcr.keeps x2.keep
  obtain ⟨us, hus, hui⟩ := hl1.on x2.keep
  refine pairs (h₀ := h₀) (v := l) (vs := us) (r1 _).h (Nat.lt_trans (r1 default).d (by decide)) rfl (by decide) rfl (by decide) rfl rfl (by decide) O2 (srcAt_list hus) (hsq _ (StrsAre.length hui)) (fun Q hq => n_cell rfl rfl rfl hcr2 hq) (fun C s' E' Q k hq => n_cell rfl rfl rfl (hcr2.keeps k) hq) fun D2 y2 s3 x3 hD2 hp2 hq2 => ?_
  have sv : StrsAre (vals i.l) row := hk ▸ strs_vals i.l
  refine ne_pairs ((r1 _).le (by decide) (by decide)) hrow hrow (hp1.at fun o e => x3.keep _ o e) (hq1.at (X' := []) (fun T o _ _ e => x3.keep T o e) (fun _ _ _ h => h)) sv sv hp2 hq2 hui hui ?_
  refine wpAny_truthy_bool ?_
  refine (if_neg (by decide)).mpr (wpAny_execs_nil ?_)
  dsimp only
  have x13 : Ext [] [] s1 s3 := x2.trans x3
  have O3 := x13.on O1 fun _ h => nomatch h
  have S3 := S1.on x13.keep
  have hl3 := hl1.on x13.keep
  have hn3 := hn1.on x13.keep
  have hch3 := hch.keeps x13.keep
  have hcr3 := hcr.keeps x13.keep
  have hns3 := hn.keeps x13.keep
  obtain ⟨nv, hnv, hni⟩ := id hn3
  have nlen : names.length ≤ 1000 := by omega
  -- the names
  refine wpAny_execs_cons (wpAny_If ?_)
  refine wpAny_isTrue_Compare1 ?_
  refine filt (h₀ := h₀) (v := nl) (vs := nv) (ss := names) (fun x => decide (x ∈ row)) (r1 _).h (Nat.lt_trans (r1 default).d (by decide)) rfl (by decide) rfl (by decide) rfl O3 (srcAt_list hnv) hni nlen (n_local rfl rfl hns3 rfl ⟨rfl, rfl, Ext.refl⟩) (fun C s' m y t E' Q hy O' k hC hm hQ => ?ht1) fun D4 u4 s4 x4 hD4 hl4 hi4 => ?_
  case ht1 =>
    refine wpAny_tests_one ?_
    refine wpAny_isTrue_Compare1 ?_
    refine n_local rfl rfl hC hm ?_
    refine n_cell rfl rfl rfl (hch3.keeps k) ?_
    refine in_set B O' ((r1 _).le (by decide) (by decide)) (S3.on k) (by omega) fun s'' x'' => ?_
    rw [hk]
    exact wpAny_truthy_bool (hQ s'' x'')
  have O4 := x4.on O3 fun _ h => nomatch h
  have hcr4 := hcr3.keeps x4.keep
  have hl4r := hl3.on x4.keep
  refine filt (h₀ := h₀) (v := nl) (vs := nv) (ss := names) (fun x => decide (x ∈ row)) (r1 _).h (Nat.lt_trans (r1 default).d (by decide)) rfl (by decide) rfl (by decide) rfl O4 (srcAt_list (hnv.at fun o e => x4.keep _ o e)) hni nlen (n_local rfl rfl (hns3.keeps x4.keep) rfl ⟨rfl, rfl, Ext.refl⟩) (fun C s' m y t E' Q hy O' k hC hm hQ => ?ht2) fun D5 u5 s5 x5 hD5 hl5 hi5 => ?_
  case ht2 =>
    refine wpAny_tests_one ?_
    refine wpAny_isTrue_Compare1 ?_
    refine n_local rfl rfl hC hm ?_
    refine n_cell rfl rfl rfl (hcr4.keeps k) ?_
    refine ls_in (hl4r.on k) ?_
    exact wpAny_truthy_bool (hQ _ Ext.refl)
  have hfo : OkS (names.filter fun x => decide (x ∈ row)) := fun x hx => hnam x (List.mem_filter.mp hx).1
  refine ne_strs (hl4.at fun o e => x5.keep _ o e) hi4 hl5 hi5 hfo hfo ((r1 _).le (by decide) (by decide)) ?_
  refine wpAny_truthy_bool ?_
  refine (if_neg (by simp)).mpr (wpAny_execs_nil ?_)
  dsimp only
  have x15 : Ext [] [] s1 s5 := x13.trans (x4.trans x5)
  have O5 := x15.on O1 fun _ h => nomatch h
  have S5 := S1.on x15.keep
  have hl5' := hl1.on x15.keep
  have hch5 := hch.keeps x15.keep
  have hcr5 := hcr.keeps x15.keep
  have hns5 := hn.keeps x15.keep
  -- like
  refine wpAny_execs_cons (wpAny_Assign_Name ?_)
  refine wpAny_Call_NameR (n_global B (by exact O5) rfl rfl rfl (by k_is) ?_)
  refine callWith_K B.X (kp_cls w) ?_
  refine args_cons ?_
  refine wpAny_BinOp ?_
  refine n_cell rfl rfl rfl hcr5 ?_
  refine n_cell rfl rfl rfl hcr5 ?_
  refine add_ls hl5' hl5' (by omega) fun D6 s6 x6 hD6 hl6 => ?_
  have O6 := x6.on O5 fun _ h => nomatch h
  obtain ⟨v6, hv6, hi6⟩ := hl6
  refine args_nil ⟨B.X.keeps O6, ?_⟩
  refine c_make1 B O6 ((r1 _).le (by decide) (by decide)) hi6 (by simp; omega) (fun sM x dx xM nx ndx => src_list (hv6.at fun o e => xM.keep _ o e) (ne_of_alive (IsList.obj hv6).choose_spec nx) (ne_of_alive (IsList.obj hv6).choose_spec ndx)) fun s7 lk j x7 T7 hj hjf => ?_
  rw [fold_twice hnd] at hj
  have x17 : Ext [] [] s1 s7 := x15.trans (x6.trans x7)
  have hL0 : s.heap.get? L = none := by rw [← hL]; exact none_of_size (Nat.le_refl _)
  have W7 : Wst s L _ _ a l s7 _ := ⟨x1.trans x17, hn.keeps x17.keep, hch.keeps x17.keep, hcr.keeps x17.keep⟩
  have hLj : L ∉ j.fp lk := fun q => by
    have h1 := hjf L q
    obtain ⟨o, ho⟩ := Ns.obj (hns5.keeps x6.keep)
    rw [h1] at ho; cases ho
  refine W7.store hL0 rfl rfl rfl fun s8 x8 W8 => ?_
  have T8 : OSet w h₀ (HP s8.heap) lk j := T7.mono fun b hb o e => x8.kp b o (fun q => hLj (by simp at q; exact q ▸ hb)) e
  clear x8 T7 W7 x17 hns5 hcr5 hch5 hl5' S5 O5 x15 hns3 hcr3 hch3 hl3 S3 O3 x13 hn3 hcr2 O2
  dsimp only
  have hjl : j.l.length ≤ 900 := by
    have : j.keys.length = j.l.length := by unfold SetI.keys; rw [List.length_map]
    rw [hj] at this; omega
  have oi : OkS i.keys := hk ▸ hrow
  have oj : OkS j.keys := hj ▸ hrow
  have eij : i.keys = j.keys := hk.trans hj.symm
  have O8 := W8.x.on O fun _ h => nomatch h
  refine wpAny_execs_cons (wpAny_If ?_)
  refine wpAny_isTrue_BoolOp ?_
  refine wpAny_allTrue_Or_cons ?_
  refine wpAny_isTrue_Not ?_
  refine wpAny_isTrue_Compare1 ?_
  refine n_cell rfl rfl rfl W8.h ?_
  refine n_local rfl rfl W8.n rfl ?_
  refine cmp_set B O8 ((r1 _).le (by decide) (by decide)) (S.on W8.x.keep) (by omega) T8 hjl oi oj fun s9 x9 => ?_
  rw [decide_eq_true eij]
  refine wpAny_truthy_bool ?_
  refine (if_neg (by decide)).mpr ?_
  have W9 := W8.on x9
  have O9 := W9.x.on O fun _ h => nomatch h
  refine wpAny_allTrue_Or_cons ?_
  refine wpAny_isTrue_Not ?_
  refine wpAny_isTrue_Compare1 ?_
  refine n_local rfl rfl W9.n rfl ?_
  refine n_cell rfl rfl rfl W9.h ?_
  refine cmp_set B O9 ((r1 _).le (by decide) (by decide)) (T8.on x9.keep) hjl (S.on W9.x.keep) (by omega) oj oi fun s10 x10 => ?_
  rw [decide_eq_true eij.symm]
  refine wpAny_truthy_bool ?_
  refine (if_neg (by decide)).mpr ?_
  refine wpAny_allTrue_Or_nil ?_
  refine (if_neg (by decide)).mpr (wpAny_execs_nil ?_)
  dsimp only
  have W10 := W9.on x10
  have O10 := W10.x.on O fun _ h => nomatch h
  -- place
  refine wpAny_execs_cons (wpAny_Assign_Name ?_)
  refine wpAny_mono (Q := fun v s' => ∃ (p : Nat) (t : Tok), v = .int p t ∧ p ≤ row.length ∧ Ext [] [] s10 s') ?_ (fun v s11 h11 => ?_) fun _ _ e => e
  · refine wpAny_IfExp ?_
    refine wpAny_isTrue_Compare1 ?_
    refine n_cell rfl rfl rfl W10.r ?_
    refine nil_ls fun D s' x' hD hlD => ?_
    have W' := W10.on x'
    refine ls_ne (hl.on W'.x.keep) hlD hrow (fun _ h => nomatch h) ((r1 _).le (by decide) (by decide)) ?_
    refine wpAny_truthy_bool ?_
    split
    · rename_i hne
      have hpos : 0 < row.length := by
        cases row with
        | nil => simp at hne
        | cons _ _ => simp
      refine wpAny_BinOp ?_
      refine n_local rfl rfl W'.n rfl ?_
      have O' := W'.x.on O fun _ h => nomatch h
      refine wpAny_Call_NameR (n_builtin B (by exact O') rfl rfl rfl rfl (by k_is) rfl (by decide) ?_)
      refine callWith_builtin1 (args_cons ?_)
      refine n_cell rfl rfl rfl W'.r ?_
      refine args_nil ?_
      refine ls_len (hl.on W'.x.keep) (by omega) fun s'' t x'' => ?_
      refine mod_int' (by omega) ?_
      have h0 := Int.fmod_nonneg_of_pos pk (b := row.length) (by omega)
      have h1 := Int.fmod_lt_of_pos pk (b := row.length) (by omega)
      refine ⟨(pk.fmod row.length).toNat, s''.toks, ?_, by omega, (x'.trans x'').trans Ext.tok⟩
      rw [Int.toNat_of_nonneg h0]
    · refine wpAny_Constant_int ?_
      exact ⟨0, _, rfl, Nat.zero_le _, x'.trans Ext.tok⟩
  obtain ⟨p, tp, rfl, hp, x11⟩ := h11
  refine (W10.on x11).store hL0 rfl rfl rfl fun s12 x12 W12 => ?_
  dsimp only
  have O12 := W12.x.on O fun _ h => nomatch h
  -- others
  refine wpAny_execs_cons (wpAny_Assign_Name ?_)
  have hab : OkS [itemAb] := fun x hx => by simp at hx; rw [hx]; exact itemAb_ok
  refine wpAny_List ?_
  refine wpAny_items_cons ?_
  refine wpAny_BinOp ?_
  refine n_cell rfl rfl rfl W12.r ?_
  refine one_ls ?_
  refine Calls.Constant_str ?_
  refine ⟨itemAb, _, rfl, fun D13 s13 x13 hD13 hl13 => ?_⟩
  have W13 := W12.on (Ext.tok.trans x13)
  refine add_ls (hl.on W13.x.keep) hl13 (by simp; omega) fun D14 s14 x14 hD14 hl14 => ?_
  have W14 := W13.on x14
  refine wpAny_items_cons ?_
  refine wpAny_BinOp ?_
  refine wpAny_BinOp ?_
  refine slice_ls ?_
  refine n_cell rfl rfl rfl W14.r ?_
  refine wpAny_evalPart_none ?_
  refine wpAny_evalPart_some ?_
  refine n_local rfl rfl W14.n rfl ?_
  refine ⟨l, row, _, _, _, rfl, hl.on W14.x.keep, by omega, .none, .int _ _, pick_upto p, fun D15 s15 x15 hD15 hl15 => ?_⟩
  have W15 := W14.on x15
  refine one_ls ?_
  refine Calls.Constant_str ?_
  refine ⟨itemAb, _, rfl, fun D16 s16 x16 hD16 hl16 => ?_⟩
  have W16 := W15.on (Ext.tok.trans x16)
  refine add_ls (hl15.on (Ext.tok.trans x16 : Ext [] [] s15 s16).keep) hl16 (by simp; omega) fun D17 s17 x17 hD17 hl17 => ?_
  have W17 := W16.on x17
  refine slice_ls ?_
  refine n_cell rfl rfl rfl W17.r ?_
  refine wpAny_evalPart_some ?_
  refine wpAny_BinOp ?_
  refine n_local rfl rfl W17.n rfl ?_
  refine wpAny_Constant_int ?_
  refine add_int ?_
  refine wpAny_evalPart_none ?_
  have W18 := W17.on (Ext.tok (tk := s17.toks + 1 + 1))
  refine ⟨l, row, some ((p + 1 : Nat) : Int), _, _, rfl, hl.on W18.x.keep, by omega, IsPart.int ((p : Int) + 1) _, .none, pick_from (p + 1), fun D19 s19 x19 hD19 hl19 => ?_⟩
  have W19 := W18.on x19
  refine add_ls (hl17.on (Ext.tok.trans x19 : Ext [] [] s17 s19).keep) hl19 (by simp; omega) fun D20 s20 x20 hD20 hl20 => ?_
  have W20 := W19.on x20
  refine wpAny_items_nil ⟨big_line (Nat.le_of_ble_eq_true rfl), ?_⟩
  have bad1 : Bad row (row ++ [itemAb]) := bad_item hok (by simp) (fun x hx => by
    rcases List.mem_append.mp hx with h | h
    · exact hrow x h
    · exact hab x h) (by simp; omega)
  have bad2 : Bad row (row.take p ++ [itemAb] ++ row.drop (p + 1)) := bad_item hok (by simp) (fun x hx => by
    rcases List.mem_append.mp hx with h | h
    · rcases List.mem_append.mp h with h | h
      · exact hrow x (List.mem_of_mem_take h)
      · exact hab x h
    · exact hrow x (List.mem_of_mem_drop h)) (by simp; omega)
  have x1420 : Ext [] [] s14 s20 := x15.trans ((Ext.tok.trans x16 : Ext [] [] s15 s16).trans (x17.trans ((Ext.tok.trans x19 : Ext [] [] s17 s19).trans x20)))
  have hl14' := hl14.on x1420.keep
  have nod : s20.heap.get? s20.heap.objs.size = none := none_of_size (Nat.le_refl _)
  have hodn : s.heap.get? s20.heap.objs.size = none := by
    cases q : s.heap.get? s20.heap.objs.size with
    | none => rfl
    | some o => have := W20.x.keep _ _ q; rw [nod] at this; cases this
  have W21 := W20.on (Ext.push (o := { cls := .type "list", data := .seq ([Value.ref D14, .ref D20] : List Value).toArray }))
  have T21 : Oth row { s20 with heap := s20.heap.push { cls := .type "list", data := .seq ([Value.ref D14, .ref D20] : List Value).toArray } } s20.heap.objs.size ([Value.ref D14, .ref D20] : List Value).toArray := by
    refine ⟨⟨_, Heap.get?_push_size _ rfl⟩, fun v hv => ?_⟩
    have hv' : v = .ref D14 ∨ v = .ref D20 := by simpa using hv
    rcases hv' with rfl | rfl
    · exact ⟨_, _, rfl, hl14'.on (Ext.push (D := []) (G := [])).keep, bad1, fun e => by obtain ⟨_, ⟨o, ho, _⟩, _⟩ := hl14'; rw [e, nod] at ho; cases ho⟩
    · exact ⟨_, _, rfl, hl20.on (Ext.push (D := []) (G := [])).keep, bad2, fun e => by obtain ⟨_, ⟨o, ho, _⟩, _⟩ := hl20; rw [e, nod] at ho; cases ho⟩
  try dsimp only
  generalize hod : s20.heap.objs.size = od at T21 hodn ⊢
  generalize hs21 : ({ s20 with heap := s20.heap.push { cls := .type "list", data := .seq ([Value.ref D14, .ref D20] : List Value).toArray } } : Shared) = s21 at W21 T21 ⊢
  refine W21.store hL0 rfl rfl rfl fun s22 x22 W22 => ?_
  have T22 := T21.onL x22 W21.n
  clear T21 W21 hl20 hl14' x1420 W20 W19 W18 W17 W16 W15 W14 W13 hs21 hl19 hl17 hl16 hl15 hl14 hl13
  try dsimp only
  -- one more
  refine wpAny_execs_cons ?_
  refine wpAny_mono (Q := fun f s' => f = .next ∧ ∃ m items, Wst s L (L + 1) (L + 1 + 1) a l s' m ∧ Oth row s' od items ∧ m "others" = some (.ref od) ∧ items.size ≤ 3) ?_ (fun f s23 h23 => ?_) fun _ _ e => e
  · refine wpAny_If ?_
    refine wpAny_isTrue_Compare1 ?_
    have O22 := W22.x.on O fun _ h => nomatch h
    refine wpAny_Call_NameR (n_builtin B (by exact O22) rfl rfl rfl rfl (by k_is) rfl (by decide) ?_)
    refine callWith_builtin1 (args_cons ?_)
    refine n_cell rfl rfl rfl W22.r ?_
    refine args_nil ?_
    refine ls_len (hl.on W22.x.keep) (by omega) fun s23 t23 x23 => ?_
    refine wpAny_Constant_int ?_
    refine gt_int ?_
    refine wpAny_truthy_bool ?_
    have x23' : Ext [] [] s22 { s23 with toks := s23.toks + 1 } := x23.trans Ext.tok
    generalize hs24 : ({ s23 with toks := s23.toks + 1 } : Shared) = s24 at x23' ⊢
    have W24 := W22.on x23'
    have T24 := T22.on x23'
    split
    · rename_i hgt
      have h2 : 1 < row.length := by
        have : decide ((row.length : Int) > 1) = true := hgt
        have := of_decide_eq_true this; omega
      refine wpAny_execs_cons (wpAny_Assign_Name ?_)
      refine wpAny_BinOp ?_
      refine n_local rfl rfl W24.n rfl ?_
      refine wpAny_BinOp ?_
      have O24 := W24.x.on O fun _ h => nomatch h
      refine wpAny_Call_NameR (n_builtin B (by exact O24) rfl rfl rfl rfl (by k_is) rfl (by decide) ?_)
      refine callWith_builtin1 (args_cons ?_)
      refine n_cell rfl rfl rfl W24.r ?_
      refine args_nil ?_
      refine ls_len (hl.on W24.x.keep) (by omega) fun s25 t25 x25 => ?_
      refine wpAny_Constant_int ?_
      refine sub_int ?_
      refine mod_int' (by omega) ?_
      have h0 := Int.fmod_nonneg_of_pos pk (b := (row.length : Int) - 1) (by omega)
      have h1 := Int.fmod_lt_of_pos pk (b := (row.length : Int) - 1) (by omega)
      obtain ⟨q, hq⟩ : ∃ q : Nat, pk.fmod ((row.length : Int) - 1) = (q : Int) := ⟨_, (Int.toNat_of_nonneg h0).symm⟩
      rw [hq] at h1 ⊢
      have hqp : q + 1 < row.length := by omega
      have x25' : Ext [] [] s24 { s25 with toks := s25.toks + 1 + 1 + 1 } := x25.trans Ext.tok
      refine (W24.on x25').store hL0 rfl rfl rfl fun s26 x26 W26 => ?_
      have T26 := (T24.on x25').onL x26 (W24.on x25').n
      dsimp only
      refine wpAny_execs_cons (wpAny_Expr_any (wpAny_Call_append rfl rfl rfl rfl ?_))
      refine n_local rfl rfl W26.n rfl ?_
      refine ⟨od, _, rfl, (by obtain ⟨n, e⟩ := T26.p; exact ⟨_, n, e, rfl, rfl, rfl⟩), ?_⟩
      refine wpAny_BinOp ?_
      refine wpAny_BinOp ?_
      refine slice_ls ?_
      refine n_cell rfl rfl rfl W26.r ?_
      refine wpAny_evalPart_none ?_
      refine wpAny_evalPart_some ?_
      refine n_local rfl rfl W26.n rfl ?_
      refine ⟨l, row, _, _, _, rfl, hl.on W26.x.keep, by omega, .none, .int _ _, pick_upto q, fun D27 s27 x27 hD27 hl27 => ?_⟩
      have W27 := W26.on x27
      have e0 : row[q]? = some row[q] := List.getElem?_eq_getElem (by omega)
      have e1 : row[q + 1]? = some row[q + 1] := List.getElem?_eq_getElem hqp
      refine two_ls ?_
      refine wpAny_Subscript_BinOp_late ?_
      refine n_cell rfl rfl rfl W27.r ?_
      refine wpAny_BinOp ?_
      refine n_local rfl rfl W27.n rfl ?_
      refine wpAny_Constant_int ?_
      refine add_int ?_
      refine item_ls (ss := row) (k := ((q + 1 : Nat) : Int)) (by exact hl.on W27.x.keep) (by omega) (by rw [Int.toNat_natCast]; exact e1) (by omega) fun t28 => ?_
      refine wpAny_Subscript_Name_late ?_
      refine n_cell rfl rfl rfl (by exact W27.r) ?_
      refine n_local rfl rfl (by exact W27.n) rfl ?_
      refine item_ls (ss := row) (k := (q : Int)) (by exact hl.on W27.x.keep) (by omega) (by rw [Int.toNat_natCast]; exact e0) (by omega) fun t29 => ?_
      refine ⟨_, _, _, _, rfl, rfl, fun D30 s30 x30 hD30 hl30 => ?_⟩
      have x2730 : Ext [] [] s27 s30 := Ext.tok.trans x30
      have W30 := W27.on x2730
      refine add_ls (hl27.on x2730.keep) hl30 (by simp; omega) fun D31 s31 x31 hD31 hl31 => ?_
      have W31 := W30.on x31
      refine slice_ls ?_
      refine n_cell rfl rfl rfl W31.r ?_
      refine wpAny_evalPart_some ?_
      refine wpAny_BinOp ?_
      refine n_local rfl rfl W31.n rfl ?_
      refine wpAny_Constant_int ?_
      refine add_int ?_
      refine wpAny_evalPart_none ?_
      refine ⟨l, row, some ((q + 2 : Nat) : Int), _, _, rfl, hl.on W31.x.keep, by omega, IsPart.int ((q : Int) + 2) _, .none, pick_from (q + 2), fun D32 s32 x32 hD32 hl32 => ?_⟩
      have x3132 : Ext [] [] s31 s32 := Ext.tok.trans x32
      refine add_ls (hl31.on x3132.keep) hl32 (by simp; omega) fun D33 s33 x33 hD33 hl33 => ?_
      have x2633 : Ext [] [] s26 s33 := x27.trans (x2730.trans (x31.trans (x3132.trans x33)))
      have W33 := W26.on x2633
      have T33 := T26.on x2633
      have hod33 : ∃ o, s32.heap.get? od = some o := by
        obtain ⟨n, g⟩ := (T26.on (x27.trans (x2730.trans (x31.trans x3132)))).p
        exact ⟨_, g⟩
      have hD33o : D33 ≠ od := fun e => by obtain ⟨o, ho⟩ := hod33; rw [← e, hD33] at ho; cases ho
      refine wpAny_list_append_plain T33.p (fun h34 hl34 hs34 => ?_) (big_line (Nat.le_of_ble_eq_true rfl))
      have x34 : Ext [od] [] s33 { s33 with heap := h34 } := Ext.heap (tk := s33.toks) fun b o hb e => hs34.extBut b o (fun q => hb (by simp [q])) e
      have odL : od ≠ L := plain_ne W33.n T33.p
      have kpc : ∀ {c : Nat} {v : Option Value}, s33.heap.IsCell c v → h34.IsCell c v := fun {c v} k => by
        obtain ⟨o, ho, hd⟩ := k
        refine ⟨o, hs34.extBut c o (fun e => ?_) ho, hd⟩
        obtain ⟨n, g⟩ := T33.p
        rw [e, g] at ho; cases ho; cases hd
      refine wpAny_execs_nil ⟨rfl, _, _, ⟨W33.x.then x34 (fun b hb _ => .inl (by simp at hb; rw [hb]; exact hodn)) (fun _ h => nomatch h), W33.n.sameBut hs34 odL.symm, kpc W33.h, kpc W33.r⟩, ⟨hl34, fun v hv => ?_⟩, rfl, by simp⟩
      have hv' : v ∈ ([Value.ref D14, .ref D20] : List Value) ∨ v = .ref D33 := by simpa [or_assoc] using hv
      rcases hv' with hv' | rfl
      · obtain ⟨d, ss, e, h1, h2, h3⟩ := T33.b v (by simpa using hv')
        exact ⟨d, ss, e, h1.at fun o e => hs34.extBut d o h3 e, h2, h3⟩
      · exact ⟨D33, _, rfl, hl33.at fun o e => hs34.extBut D33 o hD33o e, bad_swap hok hnd e0 e1 hz, hD33o⟩
    · refine wpAny_execs_nil ⟨rfl, _, _, W24, T24, rfl, by simp⟩
  obtain ⟨rfl, m, items, W23, T23, hm, hsz⟩ := h23
  dsimp only
  have O23 := W23.x.on O fun _ h => nomatch h
  refine wpAny_execs_cons (wpAny_For (n_local rfl rfl W23.n hm ?_))
  refine iter_list (h₀ := h₀) (vs := items.toList) (by simpa using T23.p.isList) fun s24 I It x24 hI hK => ?_
  show codeAny _ _ _ _ _
  have odL : od ≠ L := plain_ne W23.n T23.p
  have IL : I ≠ L := fun e => by obtain ⟨o, ho⟩ := Ns.obj W23.n; rw [← e, hI] at ho; cases ho
  have Is : s.heap.get? I = none := by
    cases q : s.heap.get? I with
    | none => rfl
    | some o => have := W23.x.keep _ _ q; rw [hI] at this; cases this
  have Ic : ∀ {c : Nat} {v : Option Value}, s23.heap.IsCell c v → c ≠ I := fun {c v} k e => by
    obtain ⟨o, ho, _⟩ := k
    rw [e, hI] at ho; cases ho
  have c1 := Ic W23.h
  have c2 := Ic W23.r
  have W24 := W23.on x24
  have T24 := T23.on x24
  have L0 : h₀.get? L = none := none_of O hL0
  refine loop_it0 (h₀ := h₀) (K := [I, od]) (D := [I]) (G := []) (by exact r.h) ?hd1 ?ht1 (fun b hb => by simp at hb; rw [hb]; exact none_of O Is)
    (fun rem s' => ∃ m, Wst s L (L + 1) (L + 1 + 1) a l s' m ∧ ∀ v ∈ rem, ∃ d ss, v = .ref d ∧ LS s'.heap d ss ∧ Bad row ss ∧ d ≠ I) ?_ ?_ ?_ It (x24.on O23 fun _ h => nomatch h) ⟨m, W24, fun v hv => ?_⟩
  case hd1 => exact Nat.lt_trans (r1 default).d (by decide)
  case ht1 => intro _; rfl
  · rintro rem s25 s26 ⟨m, W, hr⟩ st
    have kc : ∀ {c : Nat} {v : Option Value}, c ≠ I → s25.heap.IsCell c v → s26.heap.IsCell c v := fun {c v} hc k => by
      obtain ⟨o, ho, hd⟩ := k
      exact ⟨o, st.kp c o (by simpa using hc) ho, hd⟩
    refine ⟨m, ⟨W.x.then st (fun b hb _ => .inl (by simp at hb; rw [hb]; exact Is)) (fun _ h => nomatch h), W.n.at' fun o e => st.kp L o (by simpa using IL.symm) e, kc c1 W.h, kc c2 W.r⟩, fun v hv => ?_⟩
    obtain ⟨d, ss, e, h1, h2, h3⟩ := hr v hv
    exact ⟨d, ss, e, h1.at fun o e => st.kp d o (by simpa using h3) e, h2, h3⟩
  · rintro v rem s25 ⟨m, W, hr⟩ O25 al E1
    obtain ⟨d, ss, rfl, hd1, hbad, hdI⟩ := hr v (.head _)
    refine wpAny_assign_Name ?_
    refine W.store hL0 rfl rfl rfl fun s26 x26 W26 => ?_
    have O26 := W26.x.on O fun _ h => nomatch h
    have hd26 : LS s26.heap d ss := hd1.at fun o e => x26.kp d o (by simpa using list_ne W.n hd1) e
    have hr26 : ∀ v ∈ rem, ∃ d ss, v = .ref d ∧ LS s26.heap d ss ∧ Bad row ss ∧ d ≠ I := fun v hv => by
      obtain ⟨d, ss, e, h1, h2, h3⟩ := hr v (.tail _ hv)
      exact ⟨d, ss, e, h1.at fun o e => x26.kp d o (by simpa using list_ne W.n h1) e, h2, h3⟩
    refine wpAny_execs_cons (wpAny_Assign_Name ?_)
    refine wpAny_Call_NameR (n_global B (by exact O26) rfl rfl rfl (by k_is) ?_)
    refine callWith_K B.X (kp_cls w) ?_
    refine args_cons ?_
    refine n_local rfl rfl W26.n rfl ?_
    obtain ⟨v6, hv6, hi6⟩ := hd26
    have hlb := hbad.len
    refine args_nil ⟨B.X.keeps O26, ?_⟩
    refine c_make1 B O26 ((r1 _).le (by decide) (by decide)) hi6 (by omega) (fun sM x dx xM nx ndx => src_list (hv6.at fun o e => xM.keep _ o e) (ne_of_alive (IsList.obj hv6).choose_spec nx) (ne_of_alive (IsList.obj hv6).choose_spec ndx)) fun s27 uk u x27 T27 hu huf => ?_
    have W27 := W26.on x27
    have hLu : L ∉ u.fp uk := fun q => by
      have h1 := huf L q
      obtain ⟨o, ho⟩ := Ns.obj W26.n
      rw [h1] at ho; cases ho
    refine W27.store hL0 rfl rfl rfl fun s28 x28 W28 => ?_
    have T28 : OSet w h₀ (HP s28.heap) uk u := T27.mono fun b hb o e => x28.kp b o (fun q => hLu (by simp at q; exact q ▸ hb)) e
    have O28 := W28.x.on O fun _ h => nomatch h
    have hr28 : ∀ v ∈ rem, ∃ d ss, v = .ref d ∧ LS s28.heap d ss ∧ Bad row ss ∧ d ≠ I := fun v hv => by
      obtain ⟨d, ss, e, h1, h2, h3⟩ := hr26 v hv
      have h1' := h1.on x27.keep
      exact ⟨d, ss, e, h1'.at fun o e => x28.kp d o (by simpa using list_ne W27.n h1') e, h2, h3⟩
    have hul : u.l.length ≤ 900 := by
      have h1 : u.keys.length = u.l.length := by unfold SetI.keys; rw [List.length_map]
      have h2 := fold_len ss []
      rw [hu] at h1; simp at h2; omega
    have ou : OkS u.keys := fun y hy => by
      rw [hu, mem_fold] at hy
      rcases hy with hy | hy
      · cases hy
      · exact hbad.ok y hy
    have ne1 : i.keys ≠ u.keys := fun e => hbad.ne (by rw [← hu, ← e, hk])
    dsimp only
    refine wpAny_execs_cons (wpAny_If ?_)
    refine wpAny_isTrue_BoolOp ?_
    refine wpAny_allTrue_Or_cons ?_
    refine wpAny_isTrue_Compare1 ?_
    refine n_cell rfl rfl rfl W28.h ?_
    refine n_local rfl rfl W28.n rfl ?_
    refine cmp_set B O28 ((r1 _).le (by decide) (by decide)) (S.on W28.x.keep) (by omega) T28 hul oi ou fun s29 x29 => ?_
    rw [decide_eq_false ne1]
    refine wpAny_truthy_bool ?_
    refine (if_neg (by decide)).mpr ?_
    have W29 := W28.on x29
    have O29 := W29.x.on O fun _ h => nomatch h
    refine wpAny_allTrue_Or_cons ?_
    refine wpAny_isTrue_Compare1 ?_
    refine n_local rfl rfl W29.n rfl ?_
    refine n_cell rfl rfl rfl W29.h ?_
    refine cmp_set B O29 ((r1 _).le (by decide) (by decide)) (T28.on x29.keep) hul (S.on W29.x.keep) (by omega) ou oi fun s30 x30 => ?_
    rw [decide_eq_false ne1.symm]
    refine wpAny_truthy_bool ?_
    refine (if_neg (by decide)).mpr ?_
    refine wpAny_allTrue_Or_nil ?_
    refine (if_neg (by decide)).mpr (wpAny_execs_nil ?_)
    have W30 := W29.on x30
    refine wpAny_execs_nil ⟨rfl, ⟨_, W30, fun v hv => ?_⟩, ?_⟩
    · obtain ⟨d, ss, e, h1, h2, h3⟩ := hr28 v hv
      exact ⟨d, ss, e, h1.on (x29.trans x30).keep, h2, h3⟩
    · have xa : Ext [L] [] s25 s30 := (x26.trans x27.any).trans (x28.trans (x29.trans x30).any)
      exact Agr2.of_ext xa O25 (fun b hb => by simp at hb; rw [hb]; exact L0) (fun b hb q => by simp at hb q; rcases hb with rfl | rfl; exact IL q; exact odL q) (fun _ h => nomatch h)
  · rintro s25 ⟨m, W, _⟩ O25
    refine wpAny_execs_cons (wpAny_Return_some ?_)
    exact wpAny_Constant_bool (ret _ W.x)
  · obtain ⟨d, ss, e, h1, h2, h3⟩ := T24.b v hv
    refine ⟨d, ss, e, h1, h2, fun q => ?_⟩
    obtain ⟨d', ss', e', h1', h2', h3'⟩ := T23.b v hv
    rw [e] at e'; cases e'
    obtain ⟨_, ⟨o, ho, _⟩, _⟩ := h1'
    rw [q, hI] at ho; cases ho
end
end Mine
set_option Elab.async false
set_option maxRecDepth 100000
set_option maxHeartbeats 2000000
namespace Mine
open PySem PySem.W PyProof.Rows PySem.Calls PySem.W.X PySem.Builtin

def kd (h : Heap) (a : Nat) : Nat := match h.get? a with
  | some o => (match o.data with | .seq .. => 1 | .cell _ => 2 | .dict .. => 3 | .plain => 4 | _ => 5)
  | none => 0
theorem kd_ns {h : Heap} {a : Nat} {m : Str → Option Value} (n : h.Ns a m) : kd h a = 3 := by
  obtain ⟨o, es, ep, ho, hd, _⟩ := n
  unfold kd; rw [ho]; simp only [hd]
theorem kd_cell {h : Heap} {a : Nat} {v : Option Value} (n : h.IsCell a v) : kd h a = 2 := by
  obtain ⟨o, ho, hd⟩ := n
  unfold kd; rw [ho]; simp only [hd]
theorem kd_plain {h : Heap} {a : Nat} {xs : Array Value} (n : h.PlainList a xs) : kd h a = 1 := by
  obtain ⟨o, ho⟩ := n
  unfold kd; rw [ho]
theorem kd_list {h : Heap} {a : Nat} {xs : Array Value} (n : h.IsList a xs) : kd h a = 1 := by
  obtain ⟨o, ho, _, k, hd⟩ := n
  unfold kd; rw [ho]; simp only [hd]
theorem kd_ls {h : Heap} {a : Nat} {ss : List Str} (n : LS h a ss) : kd h a = 1 := by
  obtain ⟨_, l, _⟩ := n; exact kd_list l
theorem kd_fp {w : World} {h₀ h : Heap} {a : Nat} {i : SetI} (S : OSet w h₀ (HP h) a i) : ∀ b ∈ i.fp a, kd h b = 3 ∨ kd h b = 4 := by
  obtain ⟨ox, od, ⟨o, om, hd⟩, lo, ⟨nx, pv, l1, l2, l3, l4⟩, nd, fr⟩ := S
  intro b hb
  unfold SetI.fp at hb
  simp only [List.mem_cons, List.mem_append, List.mem_map] at hb
  have one : ∀ {b : Nat} {o : Obj}, h.get? b = some o → (o.data = .plain ∨ ∃ es n, o.data = .dict es n) → kd h b = 3 ∨ kd h b = 4 := by
    intro b o e q
    unfold kd; rw [e]
    rcases q with q | ⟨es, n, q⟩
    · right; simp only [q]
    · left; simp only [q]
  rcases hb with rfl | rfl | rfl | rfl | rfl | ⟨n, hn, rfl⟩ | ⟨n, hn, rfl⟩
  · exact one ox (.inl rfl)
  · exact one od (.inr ⟨_, _, rfl⟩)
  · obtain ⟨es, ep, _, q, _⟩ := hd
    exact one om (.inr ⟨_, _, q⟩)
  · exact one l1 (.inl rfl)
  · exact one l2 (.inr ⟨_, _, rfl⟩)
  · exact one (l3 n hn).1 (.inl rfl)
  · exact one (l3 n hn).2 (.inr ⟨_, _, rfl⟩)
theorem kd_ne {h : Heap} {a b x y : Nat} (h1 : kd h a = x) (h2 : kd h b = y) (n : x ≠ y) : a ≠ b := fun e => n (by rw [← h1, ← h2, e])
theorem kd_fp_ne {w : World} {h₀ h : Heap} {a c : Nat} {i : SetI} (S : OSet w h₀ (HP h) a i) {x : Nat} (h1 : kd h c = x) (n1 : x ≠ 3) (n2 : x ≠ 4) : c ∉ i.fp a := fun q => by
  rcases kd_fp S c q with e | e
  · exact n1 (h1.symm.trans e)
  · exact n2 (h1.symm.trans e)

structure LD where
  as : Nat → Nat
  is : Nat → SetI
  rs : Nat → Nat
  ro : Nat → List Str
  kz : Nat → List Str
  nm : Nat
  names : List Str
structure Fx where
  L : Nat
  cp : Nat
  cn : Nat
  hl : Nat
  rl : Nat
  pk : Int
  nk : Str
def upd {α : Type} (g : Nat → α) (k : Nat) (v : α) : Nat → α := fun j => if j = k then v else g j
def LD.fps (d : LD) (k : Nat) : List Nat := (d.is k).fp (d.as k)
def foot (f : Fx) (d : LD) : List Nat := f.L :: f.cp :: f.cn :: f.hl :: f.rl :: d.rs 0 :: d.rs 1 :: d.nm :: (d.fps 0 ++ d.fps 1)

/-- the state of law -/
structure Lst (w : World) (h₀ : Heap) (f : Fx) (sb : Shared) (F0 : List Nat) (N : Nat) (d : LD) (s : Shared) (m : Str → Option Value) : Prop where
  y : Ext F0 [] sb s
  fr : ∀ b ∈ foot f d, b ∈ F0 ∨ sb.heap.get? b = none
  o : On h₀ s.heap
  f0 : ∀ b ∈ foot f d, h₀.get? b = none
  n : s.heap.Ns f.L m
  cp : ∃ t, s.heap.IsCell f.cp (some (.int f.pk t))
  cn : ∃ v, s.heap.IsCell f.cn v
  hl : s.heap.IsList f.hl #[.ref (d.as 0), .ref (d.as 1)]
  rl : s.heap.IsList f.rl #[.ref (d.rs 0), .ref (d.rs 1)]
  st : ∀ k, k < 2 → OSet w h₀ (HP s.heap) (d.as k) (d.is k)
  ks : ∀ k, k < 2 → (d.is k).keys = d.kz k
  rr : ∀ k, k < 2 → LS s.heap (d.rs k) (d.ro k)
  nn : LS s.heap d.nm d.names
  Lf : ∀ k, k < 2 → f.L ∉ d.fps k
  dj : ∀ b ∈ d.fps 0, b ∉ d.fps 1
  ne : f.cp ≠ f.cn ∧ f.hl ≠ f.rl
  rn : ∀ k, k < 2 → d.rs k ≠ f.hl ∧ d.rs k ≠ f.rl
  nx : d.nm ≠ f.hl ∧ d.nm ≠ f.rl
  mh : m "held" = some (.ref f.hl)
  mr : m "rows" = some (.ref f.rl)
  mn : m f.nk = some (.ref d.nm)
  okr : ∀ k, k < 2 → ∀ x ∈ d.ro k, NmOK x
  okk : ∀ k, k < 2 → ∀ x ∈ d.kz k, NmOK x
  okn : ∀ x ∈ d.names, NmOK x
  zr : ∀ k, k < 2 → (d.ro k).length ≤ N
  zk : ∀ k, k < 2 → (d.kz k).length ≤ N
  zn : d.names.length ≤ N + 8

theorem foot_mem {f : Fx} {d : LD} {b : Nat} : b ∈ foot f d ↔ b = f.L ∨ b = f.cp ∨ b = f.cn ∨ b = f.hl ∨ b = f.rl ∨ b = d.rs 0 ∨ b = d.rs 1 ∨ b = d.nm ∨ b ∈ d.fps 0 ∨ b ∈ d.fps 1 := by
  unfold foot; simp only [List.mem_cons, List.mem_append]
theorem two {k : Nat} (h : k < 2) : k = 0 ∨ k = 1 := by omega
theorem foot_fp {f : Fx} {d : LD} {b k : Nat} (hk : k < 2) (h : b ∈ d.fps k) : b ∈ foot f d := by
  rw [foot_mem]
  rcases two hk with rfl | rfl <;> simp [h]
theorem foot_rs {f : Fx} {d : LD} {k : Nat} (hk : k < 2) : d.rs k ∈ foot f d := by
  rw [foot_mem]
  rcases two hk with rfl | rfl <;> simp

section
variable {w : World} {h₀ : Heap} {f : Fx} {sb : Shared} {F0 : List Nat} {N : Nat} {d : LD} {s s' s'' : Shared} {m m' : Str → Option Value}
theorem PlainList.kp {h h' : Heap} {a : Nat} {xs : Array Value} (l : h.PlainList a xs) (k : ∀ o, h.get? a = some o → h'.get? a = some o) : h'.PlainList a xs := l.at k
theorem IsCell.kp {h h' : Heap} {a : Nat} {v : Option Value} (l : h.IsCell a v) (k : ∀ o, h.get? a = some o → h'.get? a = some o) : h'.IsCell a v := by
  obtain ⟨o, ho, hd⟩ := l; exact ⟨o, k o ho, hd⟩

theorem Lst.on (W : Lst w h₀ f sb F0 N d s m) (x : Ext [] [] s s') : Lst w h₀ f sb F0 N d s' m := by
  have k := x.keep
  exact ⟨W.y.trans x.any, W.fr, x.on W.o (fun _ h => nomatch h), W.f0, W.n.keeps k, W.cp.imp fun _ h => h.keeps k, W.cn.imp fun _ h => h.keeps k, W.hl.at (k _), W.rl.at (k _), fun j hj => (W.st j hj).on k, W.ks, fun j hj => (W.rr j hj).on k, W.nn.on k,
    W.Lf, W.dj, W.ne, W.rn, W.nx, W.mh, W.mr, W.mn, W.okr, W.okk, W.okn, W.zr, W.zk, W.zn⟩
theorem Lst.N_le {N' : Nat} (W : Lst w h₀ f sb F0 N d s m) (h : N ≤ N') : Lst w h₀ f sb F0 N' d s m :=
  { W with zr := fun k hk => Nat.le_trans (W.zr k hk) h, zk := fun k hk => Nat.le_trans (W.zk k hk) h, zn := Nat.le_trans W.zn (by omega) }
/-- steps at places of the foot -/
theorem Lst.yy (W : Lst w h₀ f sb F0 N d s m) {D : List Nat} (x : Ext D [] s s') (hD : ∀ b ∈ D, b ∈ foot f d) : Ext F0 [] sb s' ∧ On h₀ s'.heap :=
  ⟨W.y.then x (fun b hb q => .inl ((W.fr b (hD b hb)).resolve_left q)) (fun _ h => nomatch h), x.on W.o fun b hb => W.f0 b (hD b hb)⟩

/-- a local stored; the names perhaps -/
theorem Lst.chL {nm' : Nat} {names' : List Str} (nk' : Str) (W : Lst w h₀ f sb F0 N d s m) (x : Ext [f.L] [] s s') (n' : s'.heap.Ns f.L m') (hh : m' "held" = some (.ref f.hl)) (hr : m' "rows" = some (.ref f.rl)) (hn : m' nk' = some (.ref nm'))
    (l' : LS s.heap nm' names') (nx' : nm' ≠ f.hl ∧ nm' ≠ f.rl) (fr' : nm' ∈ F0 ∨ sb.heap.get? nm' = none) (f0' : h₀.get? nm' = none) (ok' : ∀ x ∈ names', NmOK x) (zn' : names'.length ≤ N + 8) :
    Lst w h₀ { f with nk := nk' } sb F0 N { d with nm := nm', names := names' } s' m' := by
  have kL := kd_ns W.n
  have k : ∀ {c : Nat}, c ≠ f.L → ∀ o, s.heap.get? c = some o → s'.heap.get? c = some o := fun {c} hc o e => x.kp c o (by simpa using hc) e
  obtain ⟨yy, oo⟩ := W.yy x (fun b hb => by simp at hb; rw [hb, foot_mem]; exact .inl rfl)
  refine ⟨yy, fun b hb => ?_, oo, fun b hb => ?_, n', W.cp.imp fun _ h => IsCell.kp h (k (kd_ne (kd_cell h) kL (by decide))), W.cn.imp fun _ h => IsCell.kp h (k (kd_ne (kd_cell h) kL (by decide))),
    W.hl.at (k (kd_ne (kd_list W.hl) kL (by decide))), W.rl.at (k (kd_ne (kd_list W.rl) kL (by decide))), fun j hj => (W.st j hj).mono fun b hb o e => k (fun q => W.Lf j hj (q ▸ hb)) o e, W.ks,
    fun j hj => (W.rr j hj).at (k (kd_ne (kd_ls (W.rr j hj)) kL (by decide))), l'.at (k (kd_ne (kd_ls l') kL (by decide))), W.Lf, W.dj, W.ne, W.rn, nx', hh, hr, hn, W.okr, W.okk, ok', W.zr, W.zk, zn'⟩
  · by_cases q : b = nm'
    · rw [q]; exact fr'
    · refine W.fr b ?_
      rw [foot_mem] at hb ⊢
      rcases hb with h | h | h | h | h | h | h | h | h | h
      all_goals first | exact absurd h q | exact .inl h | exact .inr (.inl h) | exact .inr (.inr (.inl h)) | exact .inr (.inr (.inr (.inl h))) | exact .inr (.inr (.inr (.inr (.inl h)))) | exact .inr (.inr (.inr (.inr (.inr (.inl h))))) | exact .inr (.inr (.inr (.inr (.inr (.inr (.inl h)))))) | exact .inr (.inr (.inr (.inr (.inr (.inr (.inr (.inl h))))))) | exact .inr (.inr (.inr (.inr (.inr (.inr (.inr (.inr (.inl h)))))))) | exact .inr (.inr (.inr (.inr (.inr (.inr (.inr (.inr (.inr (h)))))))))
  · by_cases q : b = nm'
    · rw [q]; exact f0'
    · refine W.f0 b ?_
      rw [foot_mem] at hb ⊢
      rcases hb with h | h | h | h | h | h | h | h | h | h
      all_goals first | exact absurd h q | exact .inl h | exact .inr (.inl h) | exact .inr (.inr (.inl h)) | exact .inr (.inr (.inr (.inl h))) | exact .inr (.inr (.inr (.inr (.inl h)))) | exact .inr (.inr (.inr (.inr (.inr (.inl h))))) | exact .inr (.inr (.inr (.inr (.inr (.inr (.inl h)))))) | exact .inr (.inr (.inr (.inr (.inr (.inr (.inr (.inl h))))))) | exact .inr (.inr (.inr (.inr (.inr (.inr (.inr (.inr (.inl h)))))))) | exact .inr (.inr (.inr (.inr (.inr (.inr (.inr (.inr (.inr (h)))))))))
/-- a local stored -/
theorem Lst.store {A : Around} {E : Value → Shared → Prop} {env : Env} {x : Str} {v : Value} {Q : Unit → Shared → Prop} (W : Lst w h₀ f sb F0 N d s m) (hloc : env.locals = f.L) (kx : env.kindOf x = some .local) (hk : env.scope.kind = .function)
    (h1 : ("held" : Str) ≠ x) (h2 : ("rows" : Str) ≠ x) (h3 : f.nk ≠ x)
    (h : ∀ s', Ext [f.L] [] s s' → Lst w h₀ f sb F0 N d s' (fun y => if y = x then some v else m y) → Q () s') : wpAny (model PR w) A (storeName env x v) Q E s := by
  refine wpAny_storeName_local kx (by rw [hloc]; exact W.n) (fun h' hn' hs' => ?_) (by rw [hk]; rfl)
  rw [hloc] at hn' hs'
  have x' : Ext [f.L] [] s { s with heap := h', toks := s.toks + 1 } := Ext.heap fun b o hb e => hs'.extBut b o (fun q => hb (by simp [q])) e
  refine h _ x' ?_
  have fm : d.nm ∈ foot f d := by rw [foot_mem]; simp
  exact W.chL (nm' := d.nm) (names' := d.names) f.nk x' hn' (by rw [if_neg h1]; exact W.mh) (by rw [if_neg h2]; exact W.mr) (by rw [if_neg h3]; exact W.mn) W.nn W.nx (W.fr _ fm) (W.f0 _ fm) W.okn W.zn
/-- the cell of name -/
theorem Lst.cell {A : Around} {E : Value → Shared → Prop} {env : Env} {x : Str} {v : Value} {Q : Unit → Shared → Prop} (W : Lst w h₀ f sb F0 N d s m) (hc : env.cells.lookup x = some f.cn) (kx : env.kindOf x = some .cell) (hk : env.scope.kind = .function)
    (h : ∀ s', Ext [f.cn] [] s s' → Lst w h₀ f sb F0 N d s' m → s'.heap.IsCell f.cn (some v) → Q () s') : wpAny (model PR w) A (storeName env x v) Q E s := by
  obtain ⟨v0, hv0⟩ := W.cn
  refine wpAny_storeName_cell hk kx hc hv0 fun h' hv hs' => ?_
  have x' : Ext [f.cn] [] s { s with heap := h' } := Ext.heap (tk := s.toks) fun b o hb e => hs'.extBut b o (fun q => hb (by simp [q])) e
  have kC := kd_cell hv0
  have k : ∀ {c : Nat}, c ≠ f.cn → ∀ o, s.heap.get? c = some o → h'.get? c = some o := fun {c} hc o e => hs'.extBut c o hc e
  obtain ⟨yy, oo⟩ := W.yy x' (fun b hb => by simp at hb; rw [hb, foot_mem]; simp)
  refine h _ x' ⟨yy, W.fr, oo, W.f0, W.n.at' (k (kd_ne (kd_ns W.n) kC (by decide))), W.cp.imp fun _ h => IsCell.kp h (k W.ne.1), ⟨_, hv⟩, W.hl.at (k (kd_ne (kd_list W.hl) kC (by decide))), W.rl.at (k (kd_ne (kd_list W.rl) kC (by decide))),
    fun j hj => (W.st j hj).mono fun b hb o e => k (fun q => kd_fp_ne (W.st j hj) kC (by decide) (by decide) (q ▸ hb)) o e, W.ks, fun j hj => (W.rr j hj).at (k (kd_ne (kd_ls (W.rr j hj)) kC (by decide))), W.nn.at (k (kd_ne (kd_ls W.nn) kC (by decide))),
    W.Lf, W.dj, W.ne, W.rn, W.nx, W.mh, W.mr, W.mn, W.okr, W.okk, W.okn, W.zr, W.zk, W.zn⟩ hv
end
end Mine
set_option Elab.async false
set_option maxRecDepth 100000
set_option maxHeartbeats 2000000
namespace Mine
open PySem PySem.W PyProof.Rows PySem.Calls PySem.W.X PySem.Builtin

section
variable {w : World} {h₀ : Heap} {f : Fx} {sb : Shared} {F0 : List Nat} {N : Nat} {d : LD} {s s' s'' : Shared} {m m' : Str → Option Value} {A : Around} {E : Value → Shared → Prop} {k : Nat}
theorem upd_at {α : Type} {g : Nat → α} {k : Nat} {v : α} : upd g k v k = v := if_pos rfl
theorem upd_ne {α : Type} {g : Nat → α} {k j : Nat} {v : α} (h : j ≠ k) : upd g k v j = g j := if_neg h
theorem Lst.fresh (W : Lst w h₀ f sb F0 N d s m) {b : Nat} (h : s.heap.get? b = none) : (b ∈ F0 ∨ sb.heap.get? b = none) ∧ h₀.get? b = none := by
  refine ⟨?_, none_of W.o h⟩
  by_cases q : b ∈ F0
  · exact .inl q
  · refine .inr ?_
    cases e : sb.heap.get? b with
    | none => rfl
    | some o => have := W.y.kp b o q e; rw [h] at this; cases this
theorem foot_upd_rs {r' : Nat} {ro' : Nat → List Str} {b : Nat} (hb : b ∈ foot f { d with rs := upd d.rs k r', ro := ro' }) : b = r' ∨ b ∈ foot f d := by
  rw [foot_mem] at hb ⊢
  have e : ∀ j, upd d.rs k r' j = r' ∨ upd d.rs k r' j = d.rs j := fun j => by
    by_cases q : j = k
    · subst q; exact .inl upd_at
    · exact .inr (upd_ne q)
  rcases hb with h | h | h | h | h | h | h | h | h | h
  · exact .inr (.inl h)
  · exact .inr (.inr (.inl h))
  · exact .inr (.inr (.inr (.inl h)))
  · exact .inr (.inr (.inr (.inr (.inl h))))
  · exact .inr (.inr (.inr (.inr (.inr (.inl h)))))
  · rcases e 0 with q | q
    · exact .inl (h.trans q)
    · exact .inr (.inr (.inr (.inr (.inr (.inr (.inl (h.trans q)))))))
  · rcases e 1 with q | q
    · exact .inl (h.trans q)
    · exact .inr (.inr (.inr (.inr (.inr (.inr (.inr (.inl (h.trans q))))))))
  · exact .inr (.inr (.inr (.inr (.inr (.inr (.inr (.inr (.inl h))))))))
  · exact .inr (.inr (.inr (.inr (.inr (.inr (.inr (.inr (.inr (.inl h)))))))))
  · exact .inr (.inr (.inr (.inr (.inr (.inr (.inr (.inr (.inr (.inr h)))))))))

theorem Lst.chR {r' : Nat} {ro' : List Str} (W : Lst w h₀ f sb F0 N d s m) (x : Ext [f.rl] [] s s') (l : s'.heap.IsList f.rl #[.ref (upd d.rs k r' 0), .ref (upd d.rs k r' 1)])
    (lr : LS s.heap r' ro') (ne : r' ≠ f.hl ∧ r' ≠ f.rl) (fr' : r' ∈ F0 ∨ sb.heap.get? r' = none) (f0' : h₀.get? r' = none) (ok' : ∀ x ∈ ro', NmOK x) (z' : ro'.length ≤ N) :
    Lst w h₀ f sb F0 N { d with rs := upd d.rs k r', ro := upd d.ro k ro' } s' m := by
  have kR := kd_list W.rl
  have kk : ∀ {c : Nat}, c ≠ f.rl → ∀ o, s.heap.get? c = some o → s'.heap.get? c = some o := fun {c} hc o e => x.kp c o (by simpa using hc) e
  obtain ⟨yy, oo⟩ := W.yy x (fun b hb => by simp at hb; rw [hb, foot_mem]; simp)
  refine ⟨yy, fun b hb => ?_, oo, fun b hb => ?_, W.n.at' (kk (kd_ne (kd_ns W.n) kR (by decide))), W.cp.imp fun _ h => IsCell.kp h (kk (kd_ne (kd_cell h) kR (by decide))), W.cn.imp fun _ h => IsCell.kp h (kk (kd_ne (kd_cell h) kR (by decide))),
    W.hl.at (kk W.ne.2), l, fun j hj => (W.st j hj).mono fun b hb o e => kk (fun q => kd_fp_ne (W.st j hj) kR (by decide) (by decide) (q ▸ hb)) o e, W.ks, fun j hj => ?_, W.nn.at (kk W.nx.2),
    W.Lf, W.dj, W.ne, fun j hj => ?_, W.nx, W.mh, W.mr, W.mn, fun j hj => ?_, W.okk, W.okn, fun j hj => ?_, W.zk, W.zn⟩
  · rcases foot_upd_rs hb with rfl | q
    · exact fr'
    · exact W.fr b q
  · rcases foot_upd_rs hb with rfl | q
    · exact f0'
    · exact W.f0 b q
  all_goals dsimp only
  · by_cases q : j = k
    · subst q; rw [upd_at, upd_at]; exact lr.at (kk ne.2)
    · rw [upd_ne q, upd_ne q]; exact (W.rr j hj).at (kk (W.rn j hj).2)
  · by_cases q : j = k
    · subst q; rw [upd_at]; exact ne
    · rw [upd_ne q]; exact W.rn j hj
  · by_cases q : j = k
    · subst q; rw [upd_at]; exact ok'
    · rw [upd_ne q]; exact W.okr j hj
  · by_cases q : j = k
    · subst q; rw [upd_at]; exact z'
    · rw [upd_ne q]; exact W.zr j hj

theorem set2 {x0 x1 : Nat} {v : Nat} (hk : k < 2) : (#[Value.ref x0, .ref x1] : Array Value).setIfInBounds k (.ref v) = #[.ref (upd (fun j => if j = 0 then x0 else x1) k v 0), .ref (upd (fun j => if j = 0 then x0 else x1) k v 1)] := by
  rcases two hk with rfl | rfl <;> rfl
theorem get2 {g : Nat → Nat} (hk : k < 2) : (#[Value.ref (g 0), .ref (g 1)] : Array Value)[k]? = some (.ref (g k)) := by
  rcases two hk with rfl | rfl <;> rfl
theorem upd01 {g : Nat → Nat} {v : Nat} : upd (fun j => if j = 0 then g 0 else g 1) k v 0 = upd g k v 0 ∧ upd (fun j => if j = 0 then g 0 else g 1) k v 1 = upd g k v 1 := by
  unfold upd
  refine ⟨?_, ?_⟩ <;> split <;> simp

/-- rows[k] = .. -/
theorem Lst.setR {r' : Nat} {ro' : List Str} {t : Tok} {Q : Unit → Shared → Prop} (W : Lst w h₀ f sb F0 N d s m) (hk : k < 2) (lr : LS s.heap r' ro') (ne : r' ≠ f.hl ∧ r' ≠ f.rl) (fr' : r' ∈ F0 ∨ sb.heap.get? r' = none) (f0' : h₀.get? r' = none) (ok' : ∀ x ∈ ro', NmOK x) (z' : ro'.length ≤ N)
    (h : ∀ s', Ext [f.rl] [] s s' → Lst w h₀ f sb F0 N { d with rs := upd d.rs k r', ro := upd d.ro k ro' } s' m → Q () s') : wpAny (model PR w) A (setItem (.ref f.rl) (.int (k : Nat) t) (.ref r')) Q E s := by
  refine wpAny_setItem_list W.rl (by omega) (by omega) (by show ((k : Nat) : Int) < ((2 : Nat) : Int); omega) fun h' hl' hs' => ?_
  have x : Ext [f.rl] [] s { s with heap := h' } := Ext.heap (tk := s.toks) fun b o hb e => hs'.extBut b o (fun q => hb (by simp [q])) e
  rw [Int.toNat_natCast, set2 hk, upd01.1, upd01.2] at hl'
  exact h _ x (W.chR x hl' lr ne fr' f0' ok' z')

theorem foot_upd_is {i' : SetI} {kz' : Nat → List Str} {b : Nat} (hb : b ∈ foot f { d with is := upd d.is k i', kz := kz' }) : b ∈ i'.fp (d.as k) ∨ b ∈ foot f d := by
  rw [foot_mem] at hb ⊢
  have e : ∀ j, b ∈ (upd d.is k i' j).fp (d.as j) → b ∈ i'.fp (d.as k) ∨ b ∈ d.fps j := fun j h => by
    by_cases q : j = k
    · subst q; rw [upd_at] at h; exact .inl h
    · rw [upd_ne q] at h; exact .inr h
  rcases hb with h | h | h | h | h | h | h | h | h | h
  · exact .inr (.inl h)
  · exact .inr (.inr (.inl h))
  · exact .inr (.inr (.inr (.inl h)))
  · exact .inr (.inr (.inr (.inr (.inl h))))
  · exact .inr (.inr (.inr (.inr (.inr (.inl h)))))
  · exact .inr (.inr (.inr (.inr (.inr (.inr (.inl h))))))
  · exact .inr (.inr (.inr (.inr (.inr (.inr (.inr (.inl h)))))))
  · exact .inr (.inr (.inr (.inr (.inr (.inr (.inr (.inr (.inl h))))))))
  · exact (e 0 h).imp id fun q => .inr (.inr (.inr (.inr (.inr (.inr (.inr (.inr (.inl q))))))))
  · exact (e 1 h).imp id fun q => .inr (.inr (.inr (.inr (.inr (.inr (.inr (.inr (.inr q))))))))

theorem Lst.other (W : Lst w h₀ f sb F0 N d s m) {j : Nat} (hk : k < 2) (hj : j < 2) (q : j ≠ k) {b : Nat} (h1 : b ∈ d.fps j) (h2 : b ∈ d.fps k) : False := by
  rcases two hk with rfl | rfl <;> rcases two hj with rfl | rfl
  · exact q rfl
  · exact W.dj b h2 h1
  · exact W.dj b h1 h2
  · exact q rfl

/-- a set changed -/
theorem Lst.chS {i' : SetI} {kz' : List Str} (W : Lst w h₀ f sb F0 N d s m) (hk : k < 2) (x : Ext (d.fps k) [] s s') (S' : OSet w h₀ (HP s'.heap) (d.as k) i') (hkeys : i'.keys = kz') (sub : ∀ b ∈ i'.fp (d.as k), b ∈ d.fps k ∨ s.heap.get? b = none)
    (ok' : ∀ x ∈ kz', NmOK x) (z' : kz'.length ≤ N) : Lst w h₀ f sb F0 N { d with is := upd d.is k i', kz := upd d.kz k kz' } s' m := by
  have S := W.st k hk
  have kk : ∀ {c : Nat}, c ∉ d.fps k → ∀ o, s.heap.get? c = some o → s'.heap.get? c = some o := fun {c} hc o e => x.kp c o hc e
  obtain ⟨yy, oo⟩ := W.yy x (fun b hb => foot_fp hk hb)
  have alive : ∀ j, j < 2 → ∀ b ∈ d.fps j, s.heap.get? b ≠ none := fun j hj b hb q => by
    obtain ⟨o, ho⟩ := (W.st j hj).alive b hb
    rw [q] at ho; cases ho
  refine ⟨yy, fun b hb => ?_, oo, fun b hb => ?_, W.n.at' (kk (W.Lf k hk)), W.cp.imp fun _ h => IsCell.kp h (kk (kd_fp_ne S (kd_cell h) (by decide) (by decide))), W.cn.imp fun _ h => IsCell.kp h (kk (kd_fp_ne S (kd_cell h) (by decide) (by decide))),
    W.hl.at (kk (kd_fp_ne S (kd_list W.hl) (by decide) (by decide))), W.rl.at (kk (kd_fp_ne S (kd_list W.rl) (by decide) (by decide))), fun j hj => ?_, fun j hj => ?_, fun j hj => (W.rr j hj).at (kk (kd_fp_ne S (kd_ls (W.rr j hj)) (by decide) (by decide))), W.nn.at (kk (kd_fp_ne S (kd_ls W.nn) (by decide) (by decide))),
    fun j hj hb => ?_, ?_, W.ne, W.rn, W.nx, W.mh, W.mr, W.mn, W.okr, fun j hj => ?_, W.okn, W.zr, fun j hj => ?_, W.zn⟩
  · rcases foot_upd_is hb with q | q
    · rcases sub b q with q | q
      · exact W.fr b (foot_fp hk q)
      · exact (W.fresh q).1
    · exact W.fr b q
  · rcases foot_upd_is hb with q | q
    · rcases sub b q with q | q
      · exact W.f0 b (foot_fp hk q)
      · exact (W.fresh q).2
    · exact W.f0 b q
  · dsimp only
    by_cases q : j = k
    · subst q; rw [upd_at]; exact S'
    · rw [upd_ne q]; exact (W.st j hj).mono fun b hb o e => kk (fun z => W.other hk hj q hb z) o e
  · dsimp only
    by_cases q : j = k
    · subst q; rw [upd_at, upd_at]; exact hkeys
    · rw [upd_ne q, upd_ne q]; exact W.ks j hj
  · have hb' : f.L ∈ (upd d.is k i' j).fp (d.as j) := hb
    by_cases q : j = k
    · subst q; rw [upd_at] at hb'
      rcases sub _ hb' with z | z
      · exact W.Lf j hk z
      · obtain ⟨o, ho⟩ := Ns.obj W.n; rw [z] at ho; cases ho
    · rw [upd_ne q] at hb'; exact W.Lf j hj hb'
  · intro b h1 h2
    have h1' : b ∈ (upd d.is k i' 0).fp (d.as 0) := h1
    have h2' : b ∈ (upd d.is k i' 1).fp (d.as 1) := h2
    rcases two hk with rfl | rfl
    · rw [upd_at] at h1'; rw [upd_ne (by decide)] at h2'
      rcases sub b h1' with z | z
      · exact W.dj b z h2'
      · exact alive 1 (by decide) b h2' z
    · rw [upd_ne (by decide)] at h1'; rw [upd_at] at h2'
      rcases sub b h2' with z | z
      · exact W.dj b h1' z
      · exact alive 0 (by decide) b h1' z
  · dsimp only
    by_cases q : j = k
    · subst q; rw [upd_at]; exact ok'
    · rw [upd_ne q]; exact W.okk j hj
  · dsimp only
    by_cases q : j = k
    · subst q; rw [upd_at]; exact z'
    · rw [upd_ne q]; exact W.zk j hj

theorem foot_upd_as {a' : Nat} {i' : SetI} {kz' : Nat → List Str} {b : Nat} (hb : b ∈ foot f { d with as := upd d.as k a', is := upd d.is k i', kz := kz' }) : b ∈ i'.fp a' ∨ b ∈ foot f d := by
  rw [foot_mem] at hb ⊢
  have e : ∀ j, b ∈ (upd d.is k i' j).fp (upd d.as k a' j) → b ∈ i'.fp a' ∨ b ∈ d.fps j := fun j h => by
    by_cases q : j = k
    · subst q; rw [upd_at, upd_at] at h; exact .inl h
    · rw [upd_ne q, upd_ne q] at h; exact .inr h
  rcases hb with h | h | h | h | h | h | h | h | h | h
  · exact .inr (.inl h)
  · exact .inr (.inr (.inl h))
  · exact .inr (.inr (.inr (.inl h)))
  · exact .inr (.inr (.inr (.inr (.inl h))))
  · exact .inr (.inr (.inr (.inr (.inr (.inl h)))))
  · exact .inr (.inr (.inr (.inr (.inr (.inr (.inl h))))))
  · exact .inr (.inr (.inr (.inr (.inr (.inr (.inr (.inl h)))))))
  · exact .inr (.inr (.inr (.inr (.inr (.inr (.inr (.inr (.inl h))))))))
  · exact (e 0 h).imp id fun q => .inr (.inr (.inr (.inr (.inr (.inr (.inr (.inr (.inl q))))))))
  · exact (e 1 h).imp id fun q => .inr (.inr (.inr (.inr (.inr (.inr (.inr (.inr (.inr q))))))))

/-- held[k] = .. -/
theorem Lst.setH {a' : Nat} {i' : SetI} {kz' : List Str} {t : Tok} {Q : Unit → Shared → Prop} (W : Lst w h₀ f sb F0 N d s m) (hk : k < 2) (S' : OSet w h₀ (HP s.heap) a' i') (hkeys : i'.keys = kz')
    (fr' : ∀ b ∈ i'.fp a', b ∈ F0 ∨ sb.heap.get? b = none) (Lf' : f.L ∉ i'.fp a') (dj' : ∀ j, j < 2 → ∀ b ∈ i'.fp a', b ∉ d.fps j) (ok' : ∀ x ∈ kz', NmOK x) (z' : kz'.length ≤ N)
    (h : ∀ s', Ext [f.hl] [] s s' → Lst w h₀ f sb F0 N { d with as := upd d.as k a', is := upd d.is k i', kz := upd d.kz k kz' } s' m → Q () s') : wpAny (model PR w) A (setItem (.ref f.hl) (.int (k : Nat) t) (.ref a')) Q E s := by
  refine wpAny_setItem_list W.hl (by omega) (by omega) (by show ((k : Nat) : Int) < ((2 : Nat) : Int); omega) fun h' hl' hs' => ?_
  have x : Ext [f.hl] [] s { s with heap := h' } := Ext.heap (tk := s.toks) fun b o hb e => hs'.extBut b o (fun q => hb (by simp [q])) e
  rw [Int.toNat_natCast, set2 hk, upd01.1, upd01.2] at hl'
  have kH := kd_list W.hl
  have kk : ∀ {c : Nat}, c ≠ f.hl → ∀ o, s.heap.get? c = some o → h'.get? c = some o := fun {c} hc o e => hs'.extBut c o hc e
  obtain ⟨yy, oo⟩ := W.yy x (fun b hb => by simp at hb; rw [hb, foot_mem]; simp)
  refine h _ x ⟨yy, fun b hb => ?_, oo, fun b hb => ?_, W.n.at' (kk (kd_ne (kd_ns W.n) kH (by decide))), W.cp.imp fun _ h => IsCell.kp h (kk (kd_ne (kd_cell h) kH (by decide))), W.cn.imp fun _ h => IsCell.kp h (kk (kd_ne (kd_cell h) kH (by decide))),
    hl', W.rl.at (kk W.ne.2.symm), fun j hj => ?_, fun j hj => ?_, fun j hj => (W.rr j hj).at (kk (W.rn j hj).1), W.nn.at (kk W.nx.1),
    fun j hj hb => ?_, ?_, W.ne, W.rn, W.nx, W.mh, W.mr, W.mn, W.okr, fun j hj => ?_, W.okn, W.zr, fun j hj => ?_, W.zn⟩
  · rcases foot_upd_as hb with q | q
    · exact fr' b q
    · exact W.fr b q
  · rcases foot_upd_as hb with q | q
    · exact S'.fr b q
    · exact W.f0 b q
  · dsimp only
    by_cases q : j = k
    · subst q; rw [upd_at, upd_at]; exact S'.mono fun b hb o e => kk (fun z => kd_fp_ne S' kH (by decide) (by decide) (z ▸ hb)) o e
    · rw [upd_ne q, upd_ne q]; exact (W.st j hj).mono fun b hb o e => kk (fun z => kd_fp_ne (W.st j hj) kH (by decide) (by decide) (z ▸ hb)) o e
  · dsimp only
    by_cases q : j = k
    · subst q; rw [upd_at, upd_at]; exact hkeys
    · rw [upd_ne q, upd_ne q]; exact W.ks j hj
  · have hb' : f.L ∈ (upd d.is k i' j).fp (upd d.as k a' j) := hb
    by_cases q : j = k
    · subst q; rw [upd_at, upd_at] at hb'; exact Lf' hb'
    · rw [upd_ne q, upd_ne q] at hb'; exact W.Lf j hj hb'
  · intro b h1 h2
    have h1' : b ∈ (upd d.is k i' 0).fp (upd d.as k a' 0) := h1
    have h2' : b ∈ (upd d.is k i' 1).fp (upd d.as k a' 1) := h2
    rcases two hk with rfl | rfl
    · rw [upd_at, upd_at] at h1'; rw [upd_ne (by decide), upd_ne (by decide)] at h2'
      exact dj' 1 (by decide) b h1' h2'
    · rw [upd_ne (by decide), upd_ne (by decide)] at h1'; rw [upd_at, upd_at] at h2'
      exact dj' 0 (by decide) b h2' h1'
  · dsimp only
    by_cases q : j = k
    · subst q; rw [upd_at]; exact ok'
    · rw [upd_ne q]; exact W.okk j hj
  · dsimp only
    by_cases q : j = k
    · subst q; rw [upd_at]; exact z'
    · rw [upd_ne q]; exact W.zk j hj

/-- steps beside the state -/
theorem Lst.off {D G : List Nat} (W : Lst w h₀ f sb F0 N d s m) (x : Ext D G s s') (hD : ∀ b ∈ foot f d, b ∉ D) (hs : ∀ b ∈ D, sb.heap.get? b = none) (h0 : ∀ b ∈ D, h₀.get? b = none) (hG : ∀ g ∈ G, sb.gens[g]? = none) : Lst w h₀ f sb F0 N d s' m := by
  have k : ∀ {c : Nat}, c ∈ foot f d → ∀ o, s.heap.get? c = some o → s'.heap.get? c = some o := fun {c} hc o e => x.kp c o (hD c hc) e
  refine ⟨W.y.then x (fun b hb _ => .inl (hs b hb)) (fun g hg _ => .inl (hG g hg)), W.fr, x.on W.o h0, W.f0, W.n.at' (k (by rw [foot_mem]; simp)), W.cp.imp fun _ h => IsCell.kp h (k (by rw [foot_mem]; simp)), W.cn.imp fun _ h => IsCell.kp h (k (by rw [foot_mem]; simp)),
    W.hl.at (k (by rw [foot_mem]; simp)), W.rl.at (k (by rw [foot_mem]; simp)), fun j hj => (W.st j hj).mono fun b hb o e => k (foot_fp hj hb) o e, W.ks, fun j hj => (W.rr j hj).at (k (foot_rs hj)), W.nn.at (k (by rw [foot_mem]; simp)),
    W.Lf, W.dj, W.ne, W.rn, W.nx, W.mh, W.mr, W.mn, W.okr, W.okk, W.okn, W.zr, W.zk, W.zn⟩
theorem Lst.rowAt {i : Int} {t : Tok} {Q : Value → Shared → Prop} (W : Lst w h₀ f sb F0 N d s m) (hk : k < 2) (hi : i = (k : Int)) (h : Q (.ref (d.rs k)) s) : wpAny (model PR w) A (getItem (.ref f.rl) (.int i t)) Q E s := by
  subst hi
  exact wpAny_getItem_list W.rl (by omega) (by omega) (by rw [Int.toNat_natCast]; exact get2 hk) h
theorem Lst.setAt {i : Int} {t : Tok} {Q : Value → Shared → Prop} (W : Lst w h₀ f sb F0 N d s m) (hk : k < 2) (hi : i = (k : Int)) (h : Q (.ref (d.as k)) s) : wpAny (model PR w) A (getItem (.ref f.hl) (.int i t)) Q E s := by
  subst hi
  exact wpAny_getItem_list W.hl (by omega) (by omega) (by rw [Int.toNat_natCast]; exact get2 hk) h
theorem Lst.nx_new (W : Lst w h₀ f sb F0 N d s m) {D : Nat} (hD : s.heap.get? D = none) : D ≠ f.hl ∧ D ≠ f.rl := by
  refine ⟨fun e => ?_, fun e => ?_⟩
  · obtain ⟨o, ho⟩ := IsList.obj W.hl; rw [← e, hD] at ho; cases ho
  · obtain ⟨o, ho⟩ := IsList.obj W.rl; rw [← e, hD] at ho; cases ho
theorem Lst.alive (W : Lst w h₀ f sb F0 N d s m) : ∀ b ∈ foot f d, ∃ o, s.heap.get? b = some o := by
  intro b hb
  rw [foot_mem] at hb
  have ls : ∀ {a : Nat} {ss : List Str}, LS s.heap a ss → ∃ o, s.heap.get? a = some o := fun {a ss} l => by obtain ⟨_, l, _⟩ := l; exact IsList.obj l
  have ce : ∀ {a : Nat} {v : Option Value}, s.heap.IsCell a v → ∃ o, s.heap.get? a = some o := fun {a v} l => by obtain ⟨o, ho, _⟩ := l; exact ⟨o, ho⟩
  rcases hb with h | h | h | h | h | h | h | h | h | h
  · rw [h]; exact Ns.obj W.n
  · rw [h]; obtain ⟨_, c⟩ := W.cp; exact ce c
  · rw [h]; obtain ⟨_, c⟩ := W.cn; exact ce c
  · rw [h]; exact IsList.obj W.hl
  · rw [h]; exact IsList.obj W.rl
  · rw [h]; exact ls (W.rr 0 (by decide))
  · rw [h]; exact ls (W.rr 1 (by decide))
  · rw [h]; exact ls W.nn
  · exact (W.st 0 (by decide)).alive b h
  · exact (W.st 1 (by decide)).alive b h
theorem Lst.foot_ne (W : Lst w h₀ f sb F0 N d s m) {I : Nat} (hI : s.heap.get? I = none) : ∀ b ∈ foot f d, b ≠ I := fun b hb e => by
  obtain ⟨o, ho⟩ := W.alive b hb
  rw [e, hI] at ho; cases ho
theorem Lst.rebase (W : Lst w h₀ f sb F0 N d s m) : Lst w h₀ f s (foot f d) N d s m := { W with y := Ext.refl, fr := fun b hb => .inl hb }
theorem Lst.back {N' : Nat} {d' : LD} (W : Lst w h₀ f sb F0 N d s m) (W' : Lst w h₀ f s (foot f d) N' d' s' m') : Lst w h₀ f sb F0 N' d' s' m' :=
  { W' with
    y := W.y.then W'.y (fun b hb q => .inl ((W.fr b hb).resolve_left q)) (fun _ h => nomatch h)
    fr := fun b hb => (W'.fr b hb).elim (fun q => W.fr b q) fun q => (W.fresh q).1 }
end
end Mine
set_option Elab.async false
set_option maxRecDepth 100000
set_option maxHeartbeats 2000000
namespace Mine
open PySem PySem.W PyProof.Rows PySem.Calls PySem.W.X PySem.Builtin

section
variable {w : World} {h₀ : Heap} {A : Around} {E : Value → Shared → Prop} {s : Shared} {env : Env} {m : Str → Option Value}

theorem comp_rng {elt iter : Expr} {x y : Str} {px py : Pos} {scope : Scope} {cl : List (Str × Addr)} {pos spos : Pos} {Q : Flow → Shared → Prop} {n : Nat}
    (hsw : swapsWith (.ListComp elt [⟨.Name x px, iter, [], 0⟩] scope pos) (some (.Name y py)) spos.line env = pure true) (hh : A.handled = none) (hn10 : n ≤ 10)
    (hclos : closureFor scope env = pure cl) (hcell : ∀ z ∈ scope.names, z.2 ≠ .cell) (hkind : scope.kind = .function)
    (hnames : ∀ z ∈ scope.names, z.2 = .local → scope.names.lookup z.1 = some .local) (hx : scope.names.lookup x = some .local)
    (hy : env.kindOf y = some .local) (hp : (env.scope.kind == .class || (env.scope.kind == .module && env.locals != env.globals)) = false)
    (O : On h₀ s.heap) (hns : s.heap.Ns env.locals m)
    (hit : wpAny (model PR w) A (eval iter env) (fun xv s₁ => ∃ r t u v, xv = .ref r ∧ IsRange s₁.heap r 0 n 1 t u v ∧ Ext [] [] s s₁) E s)
    (helt : ∀ C s' m (k : Nat) t E' (Q : Value → Shared → Prop), k < n → On h₀ s'.heap → On s.heap s'.heap → s'.heap.Ns C m → m x = some (.int k t) → (∀ s'' nm t', Ext [] [] s' s'' → NmOK nm → Q (.str nm t') s'') →
      wpAny (model PR w) A (eval elt (compEnvC scope cl C env)) Q E' s')
    (post : ∀ Da ss s', Ext [env.locals] [] s s' → s'.heap.Ns env.locals (fun z => if z = y then some (.ref Da) else m z) → LS s'.heap Da ss → s.heap.get? Da = none → (∀ x ∈ ss, NmOK x) → ss.length ≤ n → Q .next s')
    (hs : ∀ x, foldedSetIterable iter env x = pure x := by intro _; rfl) (hti : ∀ it v, letOwnedTupleGo (.Name x px) it v = pure () := by intro _ _; rfl) :
    wpAny (model PR w) A (exec (.Assign [.Name y py] (.ListComp elt [⟨.Name x px, iter, [], 0⟩] scope pos) spos) env) Q E s := by
  rw [exec_Assign_Name_used _ _ _ _ hsw]
  refine wpAny_bind (wpAny_standAt (wpAny_bind ?_))
  show wpAny _ A (do let _ ← comprehension (.ListComp elt [⟨.Name x px, iter, [], 0⟩] scope pos) scope env _ (newList []) false (eval iter env) (some (assign (.Name y py) env))) _ _ s
  refine wpAny_bind (wpAny_mono (wpAny_comprehension_free (use := some (assign (.Name y py) env)) (Q := fun _ s' => Q .next s') rfl hs hclos hkind hnames
    (wpAny_mono hit (fun xv s₁ h₁ => ?_) fun _ _ e => e)) (fun _ s' hq => wpAny_pure (wpAny_pure hq)) fun _ _ e => e)
  obtain ⟨r, t, u, v, rfl, hr, x1⟩ := h₁
  have O1 := x1.on O fun _ h => nomatch h
  have rsz : ∀ n : Nat, n ≤ 10 → Builtin.Range.rangeSize 0 (n : Int) 1 = n := by decide
  refine wpAny_pyIter_range hr (small_one (by decide) (by decide) (by omega) (by omega)) ?_
  rw [rsz n hn10]
  have hIn : s₁.heap.get? s₁.heap.objs.size = none := none_of_size (Nat.le_refl _)
  have hI2 := Heap.get?_push_size s₁.heap (o := { cls := .type "range_iterator", data := .fields #[rawInt 0, rawInt n, rawInt 1] }) rfl
  have x2 : Ext [] [] s₁ { s₁ with heap := s₁.heap.push { cls := .type "range_iterator", data := .fields #[rawInt 0, rawInt n, rawInt 1] } } := Ext.push
  generalize hI : s₁.heap.objs.size = I at hIn hI2 ⊢
  generalize hs2 : ({ s₁ with heap := s₁.heap.push { cls := .type "range_iterator", data := .fields #[rawInt 0, rawInt n, rawInt 1] } } : Shared) = s2 at x2 ⊢
  have hri2 : IsRangeIter s2.heap I 0 n 1 := by rw [← hs2]; exact hI2
  have O2 := x2.on O1 fun _ h => nomatch h
  have x02 := x1.trans x2
  have sI : s.heap.get? I = none := by
    cases q : s.heap.get? I with
    | none => rfl
    | some o => have := x1.keep _ _ q; rw [hIn] at this; cases this
  refine block_make (RR := fun acc C => compPost (model PR w) A E (some (assign (.Name y py) env)) (fun _ s' => Q .next s') acc C) hcell hkind fun Da C s4 hDa hC hDC x4 hn4 hl4 => ?_
  have sDa : s.heap.get? Da = none := by
    cases q : s.heap.get? Da with
    | none => rfl
    | some o => have := x02.keep _ _ q; rw [hDa] at this; cases this
  have sC : s.heap.get? C = none := by
    cases q : s.heap.get? C with
    | none => rfl
    | some o => have := x02.keep _ _ q; rw [hC] at this; cases this
  have IC : I ≠ C := fun e => by rw [← e, hri2] at hC; cases hC
  have ID : I ≠ Da := fun e => by rw [← e, hri2] at hDa; cases hDa
  have LC : env.locals ≠ C := fun e => by obtain ⟨o, ho⟩ := Ns.obj hns; rw [e, sC] at ho; cases ho
  have LD' : env.locals ≠ Da := fun e => by obtain ⟨o, ho⟩ := Ns.obj hns; rw [e, sDa] at ho; cases ho
  have nC := none_of O sC
  have nD := none_of O sDa
  have nI := none_of O sI
  have loop : ∀ it', it' = Value.ref I → codeAny (model PR w) A (.compLoop (.ListComp elt [⟨.Name x px, iter, [], 0⟩] scope pos) 0 it' (.ref Da) (compEnvC scope cl C env)) (compPost (model PR w) A E (some (assign (.Name y py) env)) (fun _ s' => Q .next s') (.ref Da) C) s4 := by
    rintro it' rfl
    refine codeAny_compLoop_tests (fun j s' => ∃ k us ss mm, k ≤ n ∧ j = n + 1 - k ∧ IsRangeIter s'.heap I (k : Nat) (n - k : Int) 1 ∧ Ext [I, C, Da] [] s s' ∧ s'.heap.Ns C mm ∧ s'.heap.IsList Da (List.toArray us) ∧ StrsAre us ss ∧ (∀ x ∈ ss, NmOK x) ∧ ss.length = k ∧ On h₀ s'.heap)
      ?_ (n + 1) ⟨0, [], [], _, Nat.zero_le _, rfl, by simpa using x4.keep _ _ hri2, (x02.trans x4).any, hn4, hl4, .nil, (fun _ h => nomatch h), rfl, x4.on O2 fun _ h => nomatch h⟩ (hti _)
    rintro j s5 ⟨k, us, ss, mm, hk, rfl, hri, x5, hn5, hl5, hi5, hok, hlen, O5⟩
    rcases Nat.lt_or_ge k n with hlt | hge
    · refine wpAny_pyNext_range_item hri (by omega) fun h6 hri6 hs6 => ?_
      dsimp only
      have x6 : Ext [I] [] s5 { s5 with heap := h6, toks := s5.toks + 1 } := Ext.heap fun b o hb e => hs6.extBut b o (fun q => hb (by simp [q])) e
      have O6 : On h₀ h6 := x6.on O5 fun b hb => by simp at hb; rw [hb]; exact nI
      have hn6 : h6.Ns C mm := hn5.sameBut hs6 IC.symm
      have hl6 : h6.IsList Da us.toArray := hl5.extBut hs6.extBut ID.symm
      refine wpAny_assign_Name (wpAny_storeName_local (lookup_relabel_local hx) hn6 (fun h7 hn7 hs7 => ?_) (by show (scope.kind == .class || (scope.kind == .module && C != env.globals)) = false; rw [hkind]; rfl))
      change h7.Ns C _ at hn7
      change Heap.SameBut C h6 h7 at hs7
      refine wpAny_tests_nil ?_
      refine (if_pos rfl).mpr ?_
      have x7 : Ext [I, C, Da] [] s { s5 with heap := h7, toks := s5.toks + 1 + 1 } := x5.trans (Ext.heap fun b o hb e => by
        simp at hb
        exact hs7.extBut b o hb.2.1 (hs6.extBut b o hb.1 e))
      have O7 : On h₀ h7 := fun b o e => hs7.extBut b o (fun q => by rw [q, nC] at e; cases e) (O6 b o e)
      have hl7 : h7.IsList Da us.toArray := hl6.extBut hs7.extBut hDC
      have hri7 : IsRangeIter h7 I ((k : Int) + 1) ((n - k : Int) - 1) 1 := hs7.extBut I _ IC hri6
      refine helt C _ _ k s5.toks _ _ hlt O7 (fun b o e => x7.kp b o (by
        simp only [List.mem_cons, List.not_mem_nil, or_false, not_or]
        exact ⟨fun q => (by rw [q, sI] at e; cases e), fun q => (by rw [q, sC] at e; cases e), fun q => (by rw [q, sDa] at e; cases e)⟩) e) hn7 (by simp) fun s8 nm t' x8 hnm => ?_
      have O8 := x8.on O7 fun _ h => nomatch h
      refine wpAny_list_append (hl7.at fun o e => x8.keep _ o e) (fun h9 hl9 hs9 => ?_) (big_line (by have := StrsAre.length hi5; simp; omega))
      refine ⟨n + 1 - (k + 1), by omega, k + 1, us ++ [.str nm t'], ss ++ [nm], _, hlt, rfl, ?_, (x7.trans x8.any).trans (Ext.heap (tk := s8.toks) fun b o hb e => hs9.extBut b o (by simp at hb; exact hb.2.2) e), (hn7.keeps x8.keep).sameBut hs9 hDC.symm, by simpa using hl9, hi5.append' (.cons _ _ .nil), ?_, by simp [hlen], fun b o e => hs9.extBut b o (fun q => by rw [q, nD] at e; cases e) (O8 b o e)⟩
      · have := hs9.extBut I _ ID (x8.keep _ _ hri7)
        have e1 : ((k + 1 : Nat) : Int) = (k : Int) + 1 := by omega
        have e2 : ((n : Int) - ((k + 1 : Nat) : Int)) = (n - k : Int) - 1 := by omega
        show IsRangeIter h9 I _ _ 1
        rw [e1, show ((n : Int) - ((k : Int) + 1)) = (n - k : Int) - 1 by omega]
        exact this
      · intro z hz
        rcases List.mem_append.mp hz with q | q
        · exact hok z q
        · simp at q; rw [q]; exact hnm
    · have hkn : k = n := by omega
      subst hkn
      refine wpAny_pyNext_range_end hh hri (by omega) fun h6 hs6 => ?_
      dsimp only
      have hns6 : h6.Ns env.locals m := (hns.at' fun o e => x5.kp env.locals o (by
        simp only [List.mem_cons, List.not_mem_nil, or_false, not_or]
        exact ⟨fun q => (by obtain ⟨o', ho'⟩ := Ns.obj hns; rw [q, sI] at ho'; cases ho'), LC, LD'⟩) e).at' fun o e => hs6 _ o (fun q => by obtain ⟨o', ho'⟩ := Ns.obj hns; rw [q, sI] at ho'; cases ho') e
      show wpAny _ A (assign (.Name y py) env (.ref Da)) _ _ _
      refine wpAny_assign_Name (wpAny_storeName_local hy hns6 (fun h7 hn7 hs7 => ?_) hp)
      have hn6 : h6.Ns C mm := hn5.at' fun o e => hs6 C o IC.symm e
      have hl6 : h6.IsList Da us.toArray := hl5.at fun o e => hs6 Da o ID.symm e
      refine ⟨mm, hn6.sameBut hs7 LC.symm, fun h8 hs8 => ?_⟩
      refine post Da ss _ ?_ (hn7.sameBut hs8 LC) ⟨us, (hl6.extBut hs7.extBut LD'.symm).extBut hs8.extBut hDC, hi5⟩ sDa hok (by omega)
      obtain ⟨⟨h', tk', gs', e'⟩, k5, g1, g2, g3⟩ := x5
      refine ⟨⟨h8, s5.toks + 1, gs', by rw [e']⟩, fun b o hb e => ?_, g1, g2, g3⟩
      refine hs8.extBut b o (fun q => by rw [q, sC] at e; cases e) (hs7.extBut b o (by simpa using hb) (hs6 b o (fun q => by rw [q, sI] at e; cases e) (k5 b o ?_ e)))
      simp only [List.mem_cons, List.not_mem_nil, or_false, not_or]
      exact ⟨fun q => (by rw [q, sI] at e; cases e), fun q => (by rw [q, sC] at e; cases e), fun q => (by rw [q, sDa] at e; cases e)⟩
  exact codeAny_compStart_list (loop _ rfl) (wpAny_pyIter_rangeiter (x4.keep _ _ hri2) (loop _ rfl))
end
end Mine
set_option Elab.async false
set_option maxRecDepth 100000
set_option maxHeartbeats 8000000
namespace Mine
open PySem PySem.W PyProof.Rows PySem.Calls PySem.W.X PySem.Builtin

theorem filled30 : PySem.Challenge.rw_ay0038_01 = PySem.Challenge.rw_ay0038_01 ∧ hd.heap_39 = hd.heap_39 := by
  k_fill
  exact ⟨rfl, rfl⟩
local macro_rules | `(tactic| walk_at "my enterC") => `(tactic| (k_dflt (refine' enterC ?k1 ?k2 ?k6 ?k7 ?k8 ?k9 ?kB ?c5 ?_ ?c2 ?c3 ?c4; (case k1 => assumption); (case k2 => assumption); (case k6 => k_is); (case k7 => k_is); (case k8 => first | decide | exact Nat.lt_trans (Rm.d (by assumption)) (by decide)); (case k9 => exact BindsTo.of_eq rfl); (case kB => first | rfl | decide | kernel_rfl); (case c5 => decide); (case c2 => exact rfl); (case c3 => exact rfl); (case c4 => exact rfl))))

section
variable {w : World} {h₀ : Heap} {A : Around} {s : Shared} {R : Result → Shared → Prop} {E : Value → Shared → Prop}
theorem tail_list {value slice : Expr} {l : Nat} {items : Array Value} {i : Value} {Q : Value → Shared → Prop} (hl : s.heap.IsList l items) (h : wpAny (model PR w) A (getItem (.ref l) i) Q E s) : wpAny (model PR w) A (subscriptTail value slice (.ref l) i) Q E s := by
  have hT : s.TypeIs (.ref l) "list" := hl.typeIs
  unfold subscriptTail
  refine wpAny_bind ?_
  rw [getitemInPython_of_ne hT.not_modules]
  refine wpAny_bind (wpAny_specialOf hT slot_list_getitem.lookup ?_)
  have fin : wpAny (model PR w) A (subscripted slice false (.ref l) i) (fun r s₃ => wpAny (model PR w) A (letTemporaryGo value (.ref l) r >>= fun _ => pure r) Q E s₃) E s := by
    have go : ∀ vs, wpAny (model PR w) A (operate vs (getItem (.ref l) i)) (fun r s₃ => wpAny (model PR w) A (letTemporaryGo value (.ref l) r >>= fun _ => pure r) Q E s₃) E s := fun vs =>
      wpAny_operating (wpAny_mono h (fun r s₃ h₃ => wpAny_bind (wpAny_letTemporaryGo (wpAny_pure h₃))) fun _ _ x => x)
    unfold subscripted
    split
    · exact go _
    · rename_i q; cases q
    · exact go _
  first
    | exact wpAny_pure (wpAny_bind fin)
    | exact wpAny_bind (wpAny_pure (wpAny_bind fin))
    | exact wpAny_bind fin
theorem slice_any {value : Expr} {lower upper : Option Expr} {p pos : Pos} {env : Env} {Q : Value → Shared → Prop}
    (h : wpAny (model PR w) A (eval value env) (fun o s1 => wpAny (model PR w) A (evalPart lower env) (fun vl s2 => wpAny (model PR w) A (evalPart upper env) (fun vu s3 => ∃ l ss lo up rs, o = .ref l ∧ LS s3.heap l ss ∧ ss.length ≤ 1000 ∧ IsPart vl lo ∧ IsPart vu up ∧
      (∀ vs, StrsAre vs ss → StrsAre (slicePick vs.toArray lo up none).toList rs) ∧ (∀ D s', Ext [] [] s3 s' → s3.heap.get? D = none → LS s'.heap D rs → Q (.ref D) s')) E s2) E s1) E s) :
    wpAny (model PR w) A (eval (.Subscript value (.Slice lower upper none p) pos) env) Q E s := by
  refine Subscript_ (wpAny_mono h (fun o s1 h1 => wpAny_Slice (wpAny_mono h1 (fun vl s2 h2 => wpAny_mono h2 (fun vu s3 h3 => ?_) fun _ _ e => e) fun _ _ e => e)) fun _ _ e => e)
  obtain ⟨l, ss, lo, up, rs, rfl, a1, a2, a3, a4, a5, a6⟩ := h3
  obtain ⟨l', items, lo', up', rfl', b1, b2, b3, b4, b5⟩ := slice_end a1 a2 a3 a4 a5 a6
  cases rfl'
  rw [evalPart_none]
  refine wpAny_pure (tail_list (b1.push _) (wpAny_getItem_list_slice (b1.push _) (Heap.IsSliceOf.new ..) b3 b4 .none (by simp) ?_ b2))
  rw [Heap.size_push]
  exact b5
theorem call_name {s' : Shared} {n : Int} {t : Tok} {Q : Value → Shared → Prop} (B : Bs w h₀) (O' : On h₀ s'.heap) (r : Rm A 570 1870) (x : Ext [] [] s' s) (h : ∀ s'' nm t', Ext [] [] s' s'' → NmOK nm → Q (.str nm t') s'') :
    (hd.heap_39 w.params).In s.heap ∧ wpAny (model PR w) A (call (.ref 140) ([] ++ [.int n t])) Q E s := by
  have O := x.on O' fun _ h => nomatch h
  exact ⟨B.X.keeps O, wpAny_call (a_name B O r fun s'' nm t' x'' ok => h s'' nm t' (x.trans x'') ok)⟩
theorem rng1 {n : Int} {t : Tok} {Q : Value → Shared → Prop} (h : ∀ s' r t u v, IsRange s'.heap r 0 n 1 t u v → Ext [] [] s s' → Q (.ref r) s') : wpAny (model PR w) A (call (.type "range") [.int n t]) Q E s :=
  call_range_1 (h { s with heap := s.heap.push { cls := .type "range", data := .fields #[.int 0 s.toks, .int n t, .int 1 (s.toks + 1)] }, toks := s.toks + 1 + 1 } _ _ _ _ (Heap.get?_push_size _ rfl) (Ext.onh fun b o e => Heap.get?_push_of_some _ e))
theorem iter_rng {r n : Nat} {t u v : Tok} {Q : Value → Shared → Prop} (hr : IsRange s.heap r 0 n 1 t u v) (hn10 : n ≤ 10)
    (h : ∀ s5 I, IsRangeIter s5.heap I (0 : Nat) ((n : Int) - (0 : Nat)) 1 → Ext [] [] s s5 → s.heap.get? I = none → Q (.ref I) s5) : wpAny (model PR w) A (pyIter (.ref r)) Q E s := by
  have rsz : ∀ n : Nat, n ≤ 10 → Builtin.Range.rangeSize 0 (n : Int) 1 = n := by decide
  refine wpAny_pyIter_range hr (small_one (by decide) (by decide) (by omega) (by omega)) ?_
  rw [rsz n hn10]
  refine h _ _ ?_ Ext.push (none_of_size (Nat.le_refl _))
  have := Heap.get?_push_size s.heap (o := { cls := .type "range_iterator", data := .fields #[rawInt 0, rawInt n, rawInt 1] }) rfl
  simpa using this
theorem loop_rng {x : Str} {px : Pos} {body : List Stmt} {env : Env} {I n : Nat} (hh : A.handled = none) (J : Nat → Shared → Prop) (stab : ∀ k s s', J k s → Ext [I] [] s s' → J k s')
    (turn : ∀ k t s, k < n → J k s → wpAny (model PR w) A (assign (.Name x px) env (.int (k : Nat) t)) (fun _ s₂ => wpAny (model PR w) A (execs body env) (fun f s₃ => match f with
        | .next | .cont => J (k + 1) s₃ ∧ (∀ o, s.heap.get? I = some o → s₃.heap.get? I = some o)
        | .brk => R (.ok .next) s₃
        | .ret v => R (.ok (.ret v)) s₃) (notedBy (model PR w) A env fun e s' => R (.error e) s') s₂) (notedBy (model PR w) A env fun e s' => R (.error e) s') s)
    (done : ∀ s, J n s → R (.ok .next) s) (hI : IsRangeIter s.heap I (0 : Nat) ((n : Int) - (0 : Nat)) 1) (hJ : J 0 s) : codeAny (model PR w) A (.forLoop (.Name x px) (.ref I) body [] env) R s := by
  refine codeAny_forLoop (fun j s => ∃ k, k ≤ n ∧ j = n + 1 - k ∧ IsRangeIter s.heap I (k : Nat) (n - k : Int) 1 ∧ J k s) ?_ (n + 1) ⟨0, Nat.zero_le _, rfl, hI, hJ⟩ (by intro _; rfl)
  rintro j s ⟨k, hk, rfl, hri, hJ⟩
  rcases Nat.lt_or_ge k n with hlt | hge
  · refine wpAny_pyNext_range_item hri (by omega) fun h6 hri6 hs6 => ?_
    have x6 : Ext [I] [] s { s with heap := h6, toks := s.toks + 1 } := Ext.heap fun b o hb e => hs6.extBut b o (fun q => hb (by simp [q])) e
    refine wpAny_mono (turn k s.toks _ hlt (stab _ _ _ hJ x6)) (fun _ s₂ h₂ => wpAny_mono h₂ (fun f s₃ h₃ => ?_) fun _ _ e => e) fun _ _ e => e
    have next : J (k + 1) s₃ ∧ (∀ o, h6.get? I = some o → s₃.heap.get? I = some o) → ∃ m, m < n + 1 - k ∧ ∃ k', k' ≤ n ∧ m = n + 1 - k' ∧ IsRangeIter s₃.heap I (k' : Nat) (n - k' : Int) 1 ∧ J k' s₃ := by
      rintro ⟨a, b⟩
      refine ⟨n + 1 - (k + 1), by omega, k + 1, hlt, rfl, ?_, a⟩
      have := b _ hri6
      show IsRangeIter s₃.heap I _ _ 1
      have e1 : ((k + 1 : Nat) : Int) = (k : Int) + 1 := by omega
      rw [e1, show ((n : Int) - ((k : Int) + 1)) = (n - k : Int) - 1 by omega]
      exact this
    cases f with
    | next => exact next h₃
    | cont => exact next h₃
    | brk => exact h₃
    | ret v => exact h₃
  · have hkn : k = n := by omega
    subst hkn
    refine wpAny_pyNext_range_end hh hri (by omega) fun h6 hs6 => ?_
    exact wpAny_execs_nil (done _ (stab _ _ _ hJ (Ext.heap (tk := s.toks) fun b o hb e => hs6 b o (by simpa using hb) e)))

/-- the frame of law before its lists stand -/
structure Pst (s : Shared) (L c1 c2 : Nat) (v1 v2 : Option Value) (s' : Shared) (m : Str → Option Value) : Prop where
  x : Ext [] [] s s'
  n : s'.heap.Ns L m
  a : s'.heap.IsCell c1 v1
  b : s'.heap.IsCell c2 v2
theorem Pst.on {s s' s'' : Shared} {L c1 c2 : Nat} {v1 v2 : Option Value} {m : Str → Option Value} (W : Pst s L c1 c2 v1 v2 s' m) (x : Ext [] [] s' s'') : Pst s L c1 c2 v1 v2 s'' m := ⟨W.x.trans x, W.n.keeps x.keep, W.a.keeps x.keep, W.b.keeps x.keep⟩
theorem Pst.onL {s s' s'' : Shared} {L c1 c2 : Nat} {v1 v2 : Option Value} {m m' : Str → Option Value} (W : Pst s L c1 c2 v1 v2 s' m) (hL : s.heap.get? L = none) (x : Ext [L] [] s' s'') (n : s''.heap.Ns L m') : Pst s L c1 c2 v1 v2 s'' m' :=
  ⟨W.x.then x (fun b hb _ => .inl (by simp at hb; rw [hb]; exact hL)) (fun _ h => nomatch h), n, IsCell.kp W.a fun o e => x.kp _ o (by simpa using cell_ne W.n W.a) e, IsCell.kp W.b fun o e => x.kp _ o (by simpa using cell_ne W.n W.b) e⟩
theorem Pst.store {s s' : Shared} {L c1 c2 : Nat} {v1 v2 : Option Value} {m : Str → Option Value} {env : Env} {x : Str} {v : Value} {Q : Unit → Shared → Prop} (W : Pst s L c1 c2 v1 v2 s' m) (hL : s.heap.get? L = none) (hloc : env.locals = L) (kx : env.kindOf x = some .local) (hk : env.scope.kind = .function)
    (h : ∀ s'', Ext [L] [] s' s'' → Pst s L c1 c2 v1 v2 s'' (fun y => if y = x then some v else m y) → Q () s'') : wpAny (model PR w) A (storeName env x v) Q E s' := by
  subst hloc
  refine wpAny_storeName_local kx W.n (fun h' hn' hs' => ?_) (by rw [hk]; rfl)
  have x' : Ext [env.locals] [] s' { s' with heap := h', toks := s'.toks + 1 } := Ext.heap fun b o hb e => hs'.extBut b o (fun q => hb (by simp [q])) e
  exact h _ x' (W.onL hL x' hn')
theorem list2 {e1 e2 : Expr} {env : Env} {pos : Pos} {Q : Value → Shared → Prop}
    (h : wpAny (model PR w) A (eval e1 env) (fun v s1 => wpAny (model PR w) A (eval e2 env) (fun u s2 => ∀ D s', Ext [] [] s2 s' → s2.heap.get? D = none → s'.heap.IsList D #[v, u] → Q (.ref D) s') E s1) E s)
    (he : starEach (e1 :: [e2]) env = (false, eval e1 env) :: starEach [e2] env := by rfl) (he2 : starEach (e2 :: []) env = (false, eval e2 env) :: starEach [] env := by rfl) : wpAny (model PR w) A (eval (.List [e1, e2] pos) env) Q E s := by
  refine wpAny_List (wpAny_items_cons (wpAny_mono h (fun v s1 h1 => wpAny_items_cons (wpAny_mono h1 (fun u s2 h2 => wpAny_items_nil ⟨big_line (Nat.le_of_ble_eq_true rfl), ?_⟩) fun _ _ e => e) he2) fun _ _ e => e) he)
  exact h2 _ _ Ext.push (none_of_size (Nat.le_refl _)) ⟨_, Heap.get?_push_size _ rfl, rfl, _, rfl⟩

theorem str_ne (x y : Str) : (x.cps.toList != y.cps.toList) = decide (x ≠ y) := by
  by_cases h : x = y
  · subst h; simp
  · rw [decide_eq_true h]
    refine bne_iff_ne.mpr fun e => h ?_
    cases x; cases y
    congr 1
    exact Array.toList_inj.mp e
theorem upd_eq {α : Type} {g h : Nat → α} {k : Nat} {u v : α} (huv : u = v) (hgh : ∀ j, j < 2 → g j = h j) : ∀ j, j < 2 → upd g k u j = upd h k v j := fun j hj => by
  unfold upd; split
  · exact huv
  · exact hgh j hj
theorem upd_eq' {α : Type} {g h : Nat → α} {k : Nat} {u : α} (hk : k < 2) (huv : u = h k) (hgh : ∀ j, j < 2 → g j = h j) : ∀ j, j < 2 → upd g k u j = h j := fun j hj => by
  unfold upd; split
  · rename_i e; rw [huv, e]
  · exact hgh j hj
theorem ints_slice {vs : List Value} {ns : List Int} (hi : IntsAre vs ns) : (∀ v ∈ (slicePick vs.toArray (some 1) (some 11) none).toList, ∃ n t, v = .int n t) ∧ (slicePick vs.toArray (some 1) (some 11) none).toList.length ≤ 10 := by
  have e := slicePick_plain vs.toArray (some ((1 : Nat) : Int)) (some ((11 : Nat) : Int))
  rw [show (((1 : Nat) : Int)) = 1 from rfl, show (((11 : Nat) : Int)) = 11 from rfl] at e
  rw [e]
  have hc1 := clipAt_nat vs.toArray.size 1
  have hc2 := clipAt_nat vs.toArray.size 11
  refine ⟨fun v hv => ?_, ?_⟩
  · have hm : v ∈ vs := by
      have := List.mem_of_mem_drop (List.mem_of_mem_take (by simpa using hv))
      simpa using this
    clear hv e hc1 hc2
    induction hi with
    | nil => cases hm
    | cons n t r ih =>
      rcases List.mem_cons.mp hm with rfl | h
      · exact ⟨n, t, rfl⟩
      · exact ih h
  · simp only [Option.elim]
    rw [show (1 : Int) = ((1 : Nat) : Int) from rfl, show (11 : Int) = ((11 : Nat) : Int) from rfl, hc1, hc2]
    simp only [List.toList_toArray, List.length_take, List.length_drop]
    refine Nat.le_trans (Nat.min_le_left _ _) ?_
    omega

theorem Ext.swap {D : List Nat} {s s' : Shared} {h' : Heap} (x : Ext D [] s s') (k : ∀ b o, b ∉ D → s.heap.get? b = some o → h'.get? b = some o) : Ext D [] s { s' with heap := h' } := by
  obtain ⟨⟨h, t, g, e⟩, _, g1, g2, g3⟩ := x
  exact ⟨⟨h', t, g, by rw [e]⟩, k, g1, g2, g3⟩
theorem Lst.up {f : Fx} {sb : Shared} {F0 : List Nat} {N : Nat} {d : LD} {s' : Shared} {m : Str → Option Value} (W : Lst w h₀ f sb F0 N d s m) (x : Ext [f.L] [] s s') (U : s.heap.UpToSlots s'.heap) : Lst w h₀ f sb F0 N d s' m := by
  have fm : d.nm ∈ foot f d := by rw [foot_mem]; simp
  exact W.chL (nm' := d.nm) (names' := d.names) f.nk x (U.ns W.n) W.mh W.mr W.mn W.nn W.nx (W.fr _ fm) (W.f0 _ fm) W.okn W.zn
theorem Lst.off2 {f : Fx} {sb : Shared} {F0 : List Nat} {N : Nat} {d : LD} {s' : Shared} {m : Str → Option Value} {D G : List Nat} (W : Lst w h₀ f sb F0 N d s m) (x : Ext D G s s') (hD : ∀ b ∈ foot f d, b ∉ D) (hs : ∀ b ∈ D, b ∈ F0 ∨ sb.heap.get? b = none) (h0 : ∀ b ∈ D, h₀.get? b = none) (hG : ∀ g ∈ G, sb.gens[g]? = none) : Lst w h₀ f sb F0 N d s' m := by
  have W' := ({ W with y := Ext.refl, fr := fun b hb => .inl hb } : Lst w h₀ f s (foot f d) N d s m)
  have k : ∀ {c : Nat}, c ∈ foot f d → ∀ o, s.heap.get? c = some o → s'.heap.get? c = some o := fun {c} hc o e => x.kp c o (hD c hc) e
  refine ⟨W.y.then x (fun b hb q => .inl ((hs b hb).resolve_left q)) (fun g hg _ => .inl (hG g hg)), W.fr, x.on W.o h0, W.f0, W.n.at' (k (by rw [foot_mem]; simp)), W.cp.imp fun _ h => IsCell.kp h (k (by rw [foot_mem]; simp)), W.cn.imp fun _ h => IsCell.kp h (k (by rw [foot_mem]; simp)),
    W.hl.at (k (by rw [foot_mem]; simp)), W.rl.at (k (by rw [foot_mem]; simp)), fun j hj => (W.st j hj).mono fun b hb o e => k (foot_fp hj hb) o e, W.ks, fun j hj => (W.rr j hj).at (k (foot_rs hj)), W.nn.at (k (by rw [foot_mem]; simp)),
    W.Lf, W.dj, W.ne, W.rn, W.nx, W.mh, W.mr, W.mn, W.okr, W.okk, W.okn, W.zr, W.zk, W.zn⟩
@[reducible] def Lst.cl {f : Fx} {sb : Shared} {F0 : List Nat} {N : Nat} {d : LD} {m : Str → Option Value} (_ : Lst w h₀ f sb F0 N d s m) (d' : LD) (s' : Shared) (m' : Str → Option Value) : Prop := Lst w h₀ f sb F0 N d' s' m'

theorem loop_rng0 {x : Str} {px : Pos} {body : List Stmt} {env : Env} {I n : Nat} (hh : A.handled = none) (J : Nat → Shared → Prop) (stab : ∀ k s s', J k s → Ext [I] [] s s' → J k s')
    (turn : ∀ k t s, k < n → J k s → ∀ E', wpAny (model PR w) A (assign (.Name x px) env (.int (k : Nat) t)) (fun _ s₂ => wpAny (model PR w) A (execs body env) (fun f s₃ => f = .next ∧ J (k + 1) s₃ ∧ (∀ o, s.heap.get? I = some o → s₃.heap.get? I = some o)) E' s₂) E' s)
    (done : ∀ s, J n s → R (.ok .next) s) (hI : IsRangeIter s.heap I (0 : Nat) ((n : Int) - (0 : Nat)) 1) (hJ : J 0 s) : codeAny (model PR w) A (.forLoop (.Name x px) (.ref I) body [] env) R s :=
  loop_rng hh J stab (fun k t s hk hJ => wpAny_mono (turn k t s hk hJ _) (fun _ s₂ h => wpAny_mono h (fun f s₃ h => by obtain ⟨rfl, h⟩ := h; exact h) fun _ _ e => e) fun _ _ e => e) done hI hJ

theorem Lst.rowN {f : Fx} {sb : Shared} {F0 : List Nat} {N : Nat} {d : LD} {m : Str → Option Value} {env : Env} {x : Str} {p1 p2 p3 : Pos} {k : Nat} {t : Tok} {Q : Value → Shared → Prop} (W : Lst w h₀ f sb F0 N d s m) (hk : env.scope.kind = .function) (hl : env.locals = f.L) (k1 : env.kindOf "rows" = some .local) (k2 : env.kindOf x = some .local)
    (hx : m x = some (.int k t)) (hk2 : k < 2) (h : Q (.ref (d.rs k)) s) (hd : (x == ("__debug__" : Str)) = false := by decide) : wpAny (model PR w) A (eval (.Subscript (.Name "rows" p1) (.Name x p2) p3) env) Q E s :=
  Subscript_ (n_local hk k1 (hl ▸ W.n) W.mr (n_local hk k2 (hl ▸ W.n) hx (tail_list W.rl (W.rowAt hk2 rfl h)) hd))
theorem Lst.setN {f : Fx} {sb : Shared} {F0 : List Nat} {N : Nat} {d : LD} {m : Str → Option Value} {env : Env} {x : Str} {p1 p2 p3 : Pos} {k : Nat} {t : Tok} {Q : Value → Shared → Prop} (W : Lst w h₀ f sb F0 N d s m) (hk : env.scope.kind = .function) (hl : env.locals = f.L) (k1 : env.kindOf "held" = some .local) (k2 : env.kindOf x = some .local)
    (hx : m x = some (.int k t)) (hk2 : k < 2) (h : Q (.ref (d.as k)) s) (hd : (x == ("__debug__" : Str)) = false := by decide) : wpAny (model PR w) A (eval (.Subscript (.Name "held" p1) (.Name x p2) p3) env) Q E s :=
  Subscript_ (n_local hk k1 (hl ▸ W.n) W.mh (n_local hk k2 (hl ▸ W.n) hx (tail_list W.hl (W.setAt hk2 rfl h)) hd))
theorem Lst.rowC {f : Fx} {sb : Shared} {F0 : List Nat} {N : Nat} {d : LD} {m : Str → Option Value} {env : Env} {p1 p2 p3 : Pos} {k c : Nat} {Q : Value → Shared → Prop} (W : Lst w h₀ f sb F0 N d s m) (hk : env.scope.kind = .function) (hl : env.locals = f.L) (k1 : env.kindOf "rows" = some .local)
    (hk2 : k < 2) (h : Q (.ref (d.rs k)) { s with toks := s.toks + 1 }) : wpAny (model PR w) A (eval (.Subscript (.Name "rows" p1) (.Constant (.int k) c p2) p3) env) Q E s :=
  Subscript_ (n_local hk k1 (hl ▸ W.n) W.mr (wpAny_Constant_int (tail_list W.rl ((W.on (Ext.tok (tk := s.toks + 1))).rowAt hk2 rfl h))))
theorem Lst.setC {f : Fx} {sb : Shared} {F0 : List Nat} {N : Nat} {d : LD} {m : Str → Option Value} {env : Env} {p1 p2 p3 : Pos} {k c : Nat} {Q : Value → Shared → Prop} (W : Lst w h₀ f sb F0 N d s m) (hk : env.scope.kind = .function) (hl : env.locals = f.L) (k1 : env.kindOf "held" = some .local)
    (hk2 : k < 2) (h : Q (.ref (d.as k)) { s with toks := s.toks + 1 }) : wpAny (model PR w) A (eval (.Subscript (.Name "held" p1) (.Constant (.int k) c p2) p3) env) Q E s :=
  Subscript_ (n_local hk k1 (hl ▸ W.n) W.mh (wpAny_Constant_int (tail_list W.hl ((W.on (Ext.tok (tk := s.toks + 1))).setAt hk2 rfl h))))

abbrev FX (L hl rl : Nat) (p : Int) (nk : Str) : Fx := ⟨L, L + 1, L + 1 + 1, hl, rl, p, nk⟩
/-- between the turns of the first loop -/
def Inv1 (w : World) (s : Shared) (f : Fx) (start : List Str) (Da I sc : Nat) (rem : List Value) (s' : Shared) : Prop :=
  ∃ ssd ssr d m, StrsAre rem ssr ∧ start = ssd ++ ssr ∧ Lst w s.heap f s [] 4 d s' m ∧ d.kz = (fun j => if j = 0 then start.foldl addL [] else []) ∧ d.nm = Da ∧ d.names = start ∧ d.ro 0 = ssd.foldl addL [] ∧ d.ro 1 = [] ∧
    m "script" = some (.ref sc) ∧ ∀ b ∈ foot f d, b ≠ I
/-- between the turns of the main loop -/
def Inv2 (w : World) (s : Shared) (f : Fx) (I2 lp : Nat) (rem : List Value) (s' : Shared) : Prop :=
  ∃ d m N, Lst w s.heap f s [] N d s' m ∧ N + rem.length ≤ 14 ∧ (∀ k, k < 2 → d.kz k = d.ro k) ∧ (∀ b ∈ foot f d, b ≠ I2 ∧ b ≠ lp) ∧ (∃ o, s'.heap.get? lp = some o) ∧ ∀ v ∈ rem, ∃ n t, v = .int n t
/-- a turn is through -/
def Trn (w : World) (h₀ : Heap) (f : Fx) (st : Shared) (d : LD) (N : Nat) (fl : Flow) (s' : Shared) : Prop :=
  fl = .next ∧ ∃ d' m', Lst w h₀ f st (foot f d) N d' s' m' ∧ ∀ k, k < 2 → d'.kz k = d'.ro k

theorem a_law {sc : Nat} {vs : List Value} {ns : List Int} (B : Bs w s.heap) (r : Rm A 540 1800) (hfr : A.frames = some []) (hsc : s.heap.IsList sc vs.toArray) (hi : IntsAre vs ns) (hz : ns.length ≤ 63)
    (ret : ∀ s', Ext [] [] s s' → R (.ok (.ret (.bool true))) s') : codeAny (model PR w) A (.call (.ref 150) ⟨[.ref sc], []⟩) R s := by
  have O : On s.heap s.heap := fun _ _ e => e
  walk_at "my enterC"
  intro L s1 x1 hn hL hc
  refine anyE fun E0 => ?_
  have hcp := hc "pick" _ rfl
  have hcn := hc "name" _ rfl
  have r1 : ∀ env, Rm (A.deeper env) 541 1803 := fun _ => r.deeper
  have O1 := x1.on O fun _ h => nomatch h
  have hsz : vs.length = ns.length := hi.length
  have hs1 := hsc.at fun o e => x1.keep _ o e
  have hL0 : s.heap.get? L = none := by rw [← hL]; exact none_of_size (Nat.le_refl _)
  -- pick
  refine wpAny_execs_cons (wpAny_Assign_Name ?_)
  refine wpAny_mono (Q := fun v s' => ∃ (p : Int) (t : Tok), v = .int p t ∧ Ext [] [] s1 s') ?_ (fun v s2 h2 => ?_) fun _ _ e => e
  · refine wpAny_IfExp ?_
    refine wpAny_isTrue_value ?_
    refine n_local rfl rfl hn rfl ?_
    refine wpAny_truthy_list hs1 (by simp; omega) ?_
    split
    · rename_i hne
      refine wpAny_Subscript_Constant_late ?_
      refine n_local rfl rfl (by exact hn) rfl ?_
      refine wpAny_Constant_int ?_
      have hpos : 0 < vs.length := by
        cases vs with
        | nil => simp at hne
        | cons _ _ => simp
      obtain ⟨n0, t0, e0⟩ : ∃ n t, vs.toArray[0]? = some (.int n t) := by
        have hl0 : 0 < ns.length := by omega
        obtain ⟨t, e⟩ := hi.get 0 ns[0] (List.getElem?_eq_getElem hl0)
        exact ⟨ns[0], t, (List.getElem?_toArray ..).trans e⟩
      refine sub_list (by exact hs1) (wpAny_getItem_list (by exact hs1) (by decide) (by decide) e0 ⟨_, _, rfl, Ext.tok⟩)
    · refine wpAny_Constant_int ?_
      exact ⟨_, _, rfl, Ext.tok⟩
  obtain ⟨p, tp, rfl, x2⟩ := h2
  have O2 := x2.on O1 fun _ h => nomatch h
  refine wpAny_storeName_cell rfl rfl rfl (hcp.keeps x2.keep) fun h3 hv3 hs3 => ?_
  have hn2 := hn.keeps x2.keep
  have hcn2 := hcn.keeps x2.keep
  have x3 : Ext [L + 1] [] s2 { s2 with heap := h3 } := Ext.heap (tk := s2.toks) fun b o hb e => hs3.extBut b o (fun q => hb (by simp [q])) e
  have kcp := kd_cell (hcp.keeps x2.keep)
  have hn3 : h3.Ns L _ := hn2.sameBut hs3 (kd_ne (kd_ns hn2) kcp (by decide))
  have hcn3 : h3.IsCell (L + 1 + 1) none := IsCell.kp hcn2 fun o e => hs3.extBut _ o (Nat.succ_ne_self _) e
  have y3 : Ext [] [] s { s2 with heap := h3 } := (x1.trans x2).then x3 (fun b hb _ => .inl (by simp at hb; rw [hb, ← hL]; exact none_of_size (Nat.le_succ _))) (fun _ h => nomatch h)
  generalize hs3e : ({ s2 with heap := h3 } : Shared) = s3 at y3
  have e3 : s3.heap = h3 := by rw [← hs3e]
  rw [← e3] at hv3 hn3 hcn3
  have O3 : On s.heap s3.heap := y3.keep
  dsimp only
  -- start
  have hm5 : ∃ n : Nat, n ≤ 10 ∧ p.fmod 5 = n ∧ n ≤ 4 := by
    have h0 := Int.fmod_nonneg_of_pos p (b := 5) (by decide)
    have h1 := Int.fmod_lt_of_pos p (b := 5) (by decide)
    exact ⟨(p.fmod 5).toNat, by omega, by omega, by omega⟩
  obtain ⟨n, hn10, hpn, hn4⟩ := hm5
  refine wpAny_execs_cons ?_
  refine comp_rng (n := n) (h₀ := s.heap) (by kernel_rfl) (by exact r.h) hn10 rfl (by decide) rfl (by decide) rfl rfl rfl O3 hn3 ?it ?el fun Da start s4 x4 hn4' hl4 hDa hok4 hlen4 => ?_
  case it =>
    refine wpAny_Call_NameR (n_builtin B (by exact O3) rfl rfl rfl rfl (by k_is) rfl (by decide) ?_)
    refine PyProof.Rows.callWith_type1 (args_cons ?_)
    refine wpAny_BinOp ?_
    refine n_cell rfl rfl rfl hv3 ?_
    refine wpAny_Constant_int ?_
    refine mod_int' (by decide) ?_
    refine args_nil ?_
    refine rng1 fun s' r t u v hr' x' => ?_
    rw [hpn] at hr'
    exact ⟨r, t, u, v, rfl, hr', (Ext.tok (D := []) (G := []) (s := s3)).trans x'⟩
  case el =>
    intro C s' mm k t E' Q hk O' ko hC hmk hQ
    refine wpAny_Call_NameR (n_global B (by exact O') rfl rfl rfl (by k_is) ?_)
    refine callWith_K B.X (kp_name w) ?_
    refine args_cons ?_
    refine wpAny_BinOp ?_
    refine n_cell rfl rfl rfl (hv3.keeps ko) ?_
    refine Subscript_ ?_
    refine wpAny_List ?_
    refine wpAny_items_cons ?_
    refine wpAny_Constant_int ?_
    refine wpAny_items_cons ?_
    refine wpAny_Constant_int ?_
    refine wpAny_items_cons ?_
    refine wpAny_Constant_int ?_
    refine wpAny_items_cons ?_
    refine wpAny_Constant_int ?_
    refine wpAny_items_nil ⟨big_line (Nat.le_of_ble_eq_true rfl), ?_⟩
    dsimp only
    refine n_local rfl rfl (hC.push _) hmk ?_
    have hk4 : k = 0 ∨ k = 1 ∨ k = 2 ∨ k = 3 := by omega
    have O'' := O'
    rcases hk4 with rfl | rfl | rfl | rfl
    all_goals
      refine tail_list ⟨_, Heap.get?_push_size _ rfl, rfl, 0, rfl⟩ (wpAny_getItem_list ⟨_, Heap.get?_push_size _ rfl, rfl, 0, rfl⟩ (by decide) (by decide) rfl ?_)
      refine floordiv_int (by decide) ?_
      refine args_nil ?_
      exact call_name B O' ((r1 _).le (by decide) (by decide)) (Ext.onh fun b o e => Heap.get?_push_of_some _ e) hQ
  have P3 : Pst s L (L + 1) (L + 1 + 1) (some (.int p tp)) none s3 _ := ⟨y3, hn3, hv3, hcn3⟩
  have P4 := P3.onL hL0 x4 hn4'
  have O4 := P4.x.on O fun _ h => nomatch h
  dsimp only
  -- held
  refine wpAny_execs_cons (wpAny_Assign_Name ?_)
  refine list2 ?_
  refine wpAny_Call_NameR (n_global B (by exact O4) rfl rfl rfl (by k_is) ?_)
  refine callWith_K B.X (kp_cls w) ?_
  refine args_cons ?_
  refine n_local rfl rfl P4.n rfl ?_
  obtain ⟨vst, hvst, hist⟩ := id hl4
  refine args_nil ⟨B.X.keeps O4, ?_⟩
  refine c_make1 B O4 ((r1 _).le (by decide) (by decide)) hist (by omega) (fun sM x dx xM nx ndx => src_list (hvst.at fun o e => xM.keep _ o e) (ne_of_alive (IsList.obj hvst).choose_spec nx) (ne_of_alive (IsList.obj hvst).choose_spec ndx)) fun s5 a0 i0 x5 S0 hk0 hf0 => ?_
  have P5 := P4.on x5
  have O5 := P5.x.on O fun _ h => nomatch h
  refine wpAny_Call_NameR (n_global B (by exact O5) rfl rfl rfl (by k_is) ?_)
  refine callWith_K0 (B.X.keeps O5) (kp_cls w) ?_
  refine c_make0 B O5 ((r1 _).le (by decide) (by decide)) fun s6 a1 i1 x6 S1 hk1 hf1 => ?_
  have P6 := P5.on x6
  intro hl s7 x7 hhl hli7
  have P7 := P6.on x7
  refine P7.store hL0 rfl rfl rfl fun s8 x8 P8 => ?_
  dsimp only
  -- rows
  refine wpAny_execs_cons (wpAny_Assign_Name ?_)
  refine list2 ?_
  refine nil_ls fun r0 s9 x9 hr0 lr0 => ?_
  refine nil_ls fun r1' s10 x10 hr1 lr1 => ?_
  intro rl s11 x11 hrl lrl11
  have P11 := P8.on (x9.trans (x10.trans x11))
  refine P11.store hL0 rfl rfl rfl fun s12 x12 P12 => ?_
  dsimp only
  -- what stands
  have z7 : Ext [L] [] s7 s12 := x8.trans ((x9.trans (x10.trans x11)).any.trans x12)
  have z6 : Ext [L] [] s6 s12 := x7.any.trans z7
  have z5 : Ext [L] [] s5 s12 := x6.any.trans z6
  have z4 : Ext [L] [] s4 s12 := x5.any.trans z5
  have z11 : Ext [L] [] s11 s12 := x12
  have z10 : Ext [L] [] s10 s12 := x11.any.trans z11
  have z9 : Ext [L] [] s9 s12 := x10.any.trans z10
  have keepL : ∀ {s' : Shared}, Ext [L] [] s' s12 → ∀ {c : Nat}, c ≠ L → ∀ o, s'.heap.get? c = some o → s12.heap.get? c = some o := fun {_} z {c} hc o e => z.kp c o (by simpa using hc) e
  have fr_of : ∀ {s' : Shared}, Ext [] [] s s' → ∀ {b : Nat}, s'.heap.get? b = none → s.heap.get? b = none := fun {s'} x {b} hb => by
    cases q : s.heap.get? b with
    | none => rfl
    | some o => have := x.keep _ _ q; rw [hb] at this; cases this
  have Lf0 : L ∉ i0.fp a0 := fun q => by obtain ⟨o, ho⟩ := Ns.obj P4.n; rw [hf0 L q] at ho; cases ho
  have Lf1 : L ∉ i1.fp a1 := fun q => by obtain ⟨o, ho⟩ := Ns.obj P5.n; rw [hf1 L q] at ho; cases ho
  have hlL : hl ≠ L := kd_ne (kd_list hli7) (kd_ns P7.n) (by decide)
  have rlL : rl ≠ L := kd_ne (kd_list lrl11) (kd_ns P11.n) (by decide)
  have r0L : r0 ≠ L := list_ne (P8.on x9).n lr0
  have r1L : r1' ≠ L := list_ne (P8.on (x9.trans x10)).n lr1
  have DaL : Da ≠ L := list_ne P4.n hl4
  have S0' : OSet w s.heap (HP s12.heap) a0 i0 := S0.mono fun b hb o e => keepL z5 (fun q => Lf0 (q ▸ hb)) o e
  have S1' : OSet w s.heap (HP s12.heap) a1 i1 := S1.mono fun b hb o e => keepL z6 (fun q => Lf1 (q ▸ hb)) o e
  obtain ⟨m12, hms12, W12⟩ : ∃ m : Str → Option Value, m "script" = some (.ref sc) ∧ Lst w s.heap (FX L hl rl p "start") s [] 4
      ⟨fun j => if j = 0 then a0 else a1, fun j => if j = 0 then i0 else i1, fun j => if j = 0 then r0 else r1', fun _ => [], fun j => if j = 0 then start.foldl addL [] else [], Da, start⟩ s12 m := by
    have e0 : ∀ {α : Type} (u v : α), (fun j : Nat => if j = 0 then u else v) 0 = u := fun _ _ => rfl
    have hfoot : ∀ b, b ∈ foot (FX L hl rl p "start") ⟨fun j => if j = 0 then a0 else a1, fun j => if j = 0 then i0 else i1, fun j => if j = 0 then r0 else r1', fun _ => [], fun j => if j = 0 then start.foldl addL [] else [], Da, start⟩ → s.heap.get? b = none := by
      intro b hb
      rw [foot_mem] at hb
      rcases hb with h | h | h | h | h | h | h | h | h | h
      · rw [h]; exact hL0
      · rw [h]; exact none_of_size (by show s.heap.objs.size ≤ L + 1; rw [hL]; exact Nat.le_succ _)
      · rw [h]; exact none_of_size (by show s.heap.objs.size ≤ L + 1 + 1; rw [hL]; exact Nat.le_succ_of_le (Nat.le_succ _))
      · rw [h]; exact fr_of P6.x hhl
      · rw [h]; exact fr_of (P8.on (x9.trans x10)).x hrl
      · rw [h]; exact fr_of P8.x hr0
      · rw [h]; exact fr_of (P8.on x9).x hr1
      · rw [h]; exact fr_of P3.x hDa
      · exact fr_of P4.x (hf0 b h)
      · exact fr_of P5.x (hf1 b h)
    have hk0' : i0.keys = start.foldl addL [] := hk0
    have hst : ∀ x ∈ start.foldl addL [], NmOK x := fun x hx => by
      rw [mem_fold] at hx
      rcases hx with hx | hx
      · cases hx
      · exact hok4 x hx
    refine ⟨_, ?hs, P12.x, fun b hb => .inr (hfoot b hb), P12.x.keep, hfoot, P12.n, ⟨tp, P12.a⟩, ⟨_, P12.b⟩, hli7.at (keepL z7 hlL), lrl11.at (keepL z11 rlL), fun k hk => ?_, fun k hk => ?_, fun k hk => ?_, hl4.at (keepL z4 DaL), fun k hk => ?_, fun b h1 h2 => ?_,
      ⟨Nat.ne_of_lt (Nat.lt_succ_self _), ?_⟩, fun k hk => ?_, ⟨?_, ?_⟩, rfl, rfl, rfl, fun k hk x hx => (by cases hx), fun k hk => ?_, hok4, fun k hk => Nat.zero_le _, fun k hk => ?_, Nat.le_trans hlen4 (by omega)⟩
    case hs => rfl
    · rcases two hk with rfl | rfl
      · exact S0'
      · exact S1'
    · rcases two hk with rfl | rfl
      · exact hk0'
      · exact hk1
    · rcases two hk with rfl | rfl
      · exact lr0.at (keepL z9 r0L)
      · exact lr1.at (keepL z10 r1L)
    · rcases two hk with rfl | rfl
      · exact Lf0
      · exact Lf1
    · obtain ⟨o, ho⟩ := S0.alive b h1
      rw [hf1 b h2] at ho; cases ho
    · intro e
      have e' : hl = rl := e
      obtain ⟨o, ho⟩ := IsList.obj (hli7.at (keepL (x8.trans (x9.trans x10).any |>.trans (x11.any.trans x12)) hlL))
      obtain ⟨o2, ho2⟩ := IsList.obj hli7
      have := (x8.trans (x9.trans x10).any).kp hl o2 (by simpa using hlL) ho2
      rw [e', hrl] at this; cases this
    · rcases two hk with rfl | rfl
      · refine ⟨fun e => ?_, fun e => ?_⟩
        · have e' : r0 = hl := e
          obtain ⟨o2, ho2⟩ := IsList.obj hli7
          have := x8.kp hl o2 (by simpa using hlL) ho2
          rw [← e', hr0] at this; cases this
        · have e' : r0 = rl := e
          obtain ⟨_, ⟨o, ho, _⟩, _⟩ := lr0
          have := x10.keep _ _ ho
          rw [e', hrl] at this; cases this
      · refine ⟨fun e => ?_, fun e => ?_⟩
        · have e' : r1' = hl := e
          obtain ⟨o2, ho2⟩ := IsList.obj hli7
          have := (x8.trans x9.any).kp hl o2 (by simpa using hlL) ho2
          rw [← e', hr1] at this; cases this
        · have e' : r1' = rl := e
          obtain ⟨_, ⟨o, ho, _⟩, _⟩ := lr1
          rw [e', hrl] at ho; cases ho
    · intro e
      have e' : Da = hl := e
      obtain ⟨_, ⟨o, ho, _⟩, _⟩ := hl4
      have := (x5.trans x6).keep _ _ ho
      rw [e', hhl] at this; cases this
    · intro e
      have e' : Da = rl := e
      obtain ⟨_, ⟨o, ho, _⟩, _⟩ := hl4
      have := (x5.trans (x6.trans x7)).any.trans (x8.trans (x9.trans x10).any) |>.kp Da o (by simpa using DaL) ho
      rw [e', hrl] at this; cases this
    · rcases two hk with rfl | rfl
      · exact hst
      · intro x hx; cases hx
    · rcases two hk with rfl | rfl
      · exact Nat.le_trans (fold_len start []) (by simp; omega)
      · exact Nat.zero_le _
  have O12 := W12.o
  -- the first row
  have hst12 : m12 "start" = some (.ref Da) := W12.mn
  refine wpAny_execs_cons (wpAny_For (n_local rfl rfl W12.n hst12 ?_))
  obtain ⟨vst2, hv12, hi12⟩ := W12.nn
  refine iter_list (h₀ := s.heap) hv12 fun s13 I It x13 hI hK => ?_
  have W13 := W12.on x13
  have Is : s.heap.get? I = none := fr_of P12.x hI
  have IF : ∀ b ∈ foot (FX L hl rl p "start") ⟨fun j => if j = 0 then a0 else a1, fun j => if j = 0 then i0 else i1, fun j => if j = 0 then r0 else r1', fun _ => [], fun j => if j = 0 then start.foldl addL [] else [], Da, start⟩, b ≠ I := W12.foot_ne hI
  show codeAny _ _ _ _ _
  refine loop_it0 (h₀ := s.heap) (K := [I, Da]) (D := [I]) (G := []) (by exact r.h) ?hd1 ?ht1 (fun b hb => by simp at hb; rw [hb]; exact Is)
    (Inv1 w s (FX L hl rl p "start") start Da I sc)
    ?_ ?_ ?_ It (x13.on O12 fun _ h => nomatch h) ⟨[], start, _, _, hi12, rfl, W13, rfl, rfl, rfl, rfl, rfl, hms12, IF⟩
  case hd1 => exact Nat.lt_trans (r1 default).d (by decide)
  case ht1 => intro _; rfl
  · rintro rem s14 s15 ⟨ssd, ssr, d, m, a1, a2, W, a4, a5, a6, a7, a8, a9, a10⟩ st
    exact ⟨ssd, ssr, d, m, a1, a2, W.off st (fun b hb q => a10 b hb (by simpa using q)) (fun b hb => by simp at hb; rw [hb]; exact Is) (fun b hb => by simp at hb; rw [hb]; exact Is) (fun _ h => nomatch h), a4, a5, a6, a7, a8, a9, a10⟩
  · rintro v' rem s14 ⟨ssd, ssr, d, m, b1, b2, W, b4, b5, b6, b7, b8, b9, b10⟩ O14 al E1
    obtain ⟨kx, tk, ssr', rfl, rfl, b1'⟩ := strs_cons_inv b1
    refine wpAny_assign_Name ?_
    refine W.cell rfl rfl rfl fun s15 x15 W15 hc15 => ?_
    refine wpAny_execs_cons (wpAny_If ?_)
    refine wpAny_isTrue_Compare1 ?_
    refine n_cell rfl rfl rfl hc15 ?_
    have W15' := W15.on (Ext.tok (tk := s15.toks + 1))
    refine W15.rowC (k := 0) rfl rfl rfl (by decide) ?_
    refine ls_notin (W15'.rr 0 (by decide)) ?_
    refine wpAny_truthy_bool ?_
    have hI14 : ∃ o, s14.heap.get? I = some o := al I (by simp)
    have Icn : I ≠ L + 1 + 1 := fun e => b10 _ (by rw [foot_mem]; simp [FX]) e.symm
    have Irl : I ≠ rl := fun e => b10 _ (by rw [foot_mem]; simp [FX]) e.symm
    have hI15 : ∃ o, s15.heap.get? I = some o := by obtain ⟨o, ho⟩ := hI14; exact ⟨o, x15.kp I o (by simpa using Icn) ho⟩
    have Dacn : Da ≠ L + 1 + 1 := by rw [← b5]; exact kd_ne (kd_ls W15.nn) (kd_cell hc15) (by decide)
    have Darl : Da ≠ rl := by rw [← b5]; exact W15.nx.2
    have g15 : Agr2 s.heap [I, Da] [] s14 s15 := Agr2.of_ext x15 O14 (fun b hb => by simp at hb; rw [hb]; exact W.f0 _ (by rw [foot_mem]; simp [FX])) (fun b hb q => by simp at hb q; rcases hb with rfl | rfl; exact Icn q; exact Dacn q) (fun _ h => nomatch h)
    have g16 : Agr2 s.heap [I, Da] [] s14 { s15 with toks := s15.toks + 1 } := g15.trans (Agr2.of_ext (Ext.tok : Ext [] [] s15 _) W15.o (fun _ h => nomatch h) (fun _ _ q => nomatch q) (fun _ _ q => nomatch q))
    by_cases hin : kx ∈ d.ro 0
    · refine (if_neg (by simp [hin])).mpr ?_
      refine wpAny_execs_nil ?_
      refine wpAny_execs_nil ⟨rfl, ⟨ssd ++ [kx], ssr', d, m, b1', by rw [b2]; simp, W15', b4, b5, b6, ?_, b8, b9, b10⟩, g16⟩
      rw [List.foldl_append, ← b7]
      show d.ro 0 = addL (d.ro 0) kx
      unfold addL; rw [if_pos hin]
    · refine (if_pos (by simp [hin])).mpr ?_
      refine wpAny_execs_cons (wpAny_Assign_Subscript ?_)
      refine wpAny_BinOp ?_
      have W16 := W15'.on (Ext.tok (tk := s15.toks + 1 + 1))
      refine W15'.rowC (k := 0) rfl rfl rfl (by decide) ?_
      refine one_ls ?_
      refine n_cell rfl rfl rfl (by exact hc15) ?_
      refine ⟨kx, tk, rfl, fun D17 s17 x17 hD17 hl17 => ?_⟩
      have W17 := W16.on x17
      have hlen0 : (d.ro 0).length ≤ 4 := W17.zr 0 (by decide)
      refine add_ls (W17.rr 0 (by decide)) hl17 (by simp; omega) fun D18 s18 x18 hD18 hl18 => ?_
      have W18 := W17.on x18
      refine n_local rfl rfl W18.n W18.mr ?_
      refine wpAny_Constant_int ?_
      have W19 := W18.on (Ext.tok (tk := s18.toks + 1))
      have hkx : NmOK kx := hok4 kx (by rw [b2]; simp)
      have hnx := W17.nx_new hD18
      have hfr := W17.fresh hD18
      have x1518 : Ext [] [] s15 s18 := Ext.trans (s' := { s15 with toks := s15.toks + 1 + 1 }) Ext.tok (x17.trans x18)
      have hfold : addL (d.ro 0) kx = d.ro 0 ++ [kx] := by unfold addL; rw [if_neg hin]
      have hss : (ssd ++ [kx]).foldl addL [] = d.ro 0 ++ [kx] := by rw [List.foldl_append, ← b7]; exact hfold
      have hlen : (d.ro 0 ++ [kx]).length ≤ 4 := by
        rw [← hss]
        have h1 := fold_len (ssd ++ [kx]) []
        have h2 : start.length = (ssd ++ kx :: ssr').length := congrArg List.length b2
        simp only [List.length_append, List.length_cons, List.length_nil] at h1 h2; omega
      refine W19.setR (k := 0) (r' := D18) (ro' := d.ro 0 ++ [kx]) (by decide) (by exact hl18) hnx hfr.1 hfr.2 (fun z hz => ?_) hlen fun s20 x20 W20 => ?_
      · rcases List.mem_append.mp hz with q | q
        · exact W19.okr 0 (by decide) z q
        · simp at q; rw [q]; exact hkx
      refine wpAny_execs_nil ?_
      refine wpAny_execs_nil ⟨rfl, ⟨ssd ++ [kx], ssr', _, m, b1', by rw [b2]; simp, W20, b4, b5, b6, ?_, ?_, b9, fun b hb => ?_⟩, ?_⟩
      · exact (upd_at (g := d.ro) (k := 0)).trans hss.symm
      · exact (upd_ne (g := d.ro) (k := 0) (j := 1) (v := d.ro 0 ++ [kx]) (by decide)).trans b8
      · rcases foot_upd_rs hb with q | q
        · intro e
          have e' : D18 = I := q.symm.trans e
          obtain ⟨o, ho⟩ := hI15
          have := (Ext.trans (s' := { s15 with toks := s15.toks + 1 + 1 }) Ext.tok x17 : Ext [] [] s15 s17).keep I o ho
          rw [← e', hD18] at this; cases this
        · exact b10 b q
      · have g18 : Agr2 s.heap [I, Da] [] s14 s18 := g15.trans (Agr2.of_ext x1518 W15.o (fun _ h => nomatch h) (fun _ _ q => nomatch q) (fun _ _ q => nomatch q))
        exact g18.trans ((Agr2.of_ext (Ext.tok : Ext [] [] s18 { s18 with toks := s18.toks + 1 }) W18.o (fun _ h => nomatch h) (fun _ _ q => nomatch q) (fun _ _ q => nomatch q)).trans
          (Agr2.of_ext x20 W19.o (fun b hb => by simp at hb; rw [hb]; exact W19.f0 _ (by rw [foot_mem]; simp [FX])) (fun b hb q => by simp at hb q; rcases hb with rfl | rfl; exact Irl q; exact Darl q) (fun _ h => nomatch h)))
  · rintro s14 ⟨ssd, ssr, d, m, b1, b2, W, b4, b5, b6, b7, b8, b9, b10⟩ O14
    cases b1
    rw [List.append_nil] at b2
    subst b2
    dsimp only
    -- names
    refine wpAny_execs_cons (wpAny_Assign_Name ?_)
    refine wpAny_BinOp ?_
    refine n_global B (by exact O14) rfl rfl rfl (by k_is) ?_
    have hst14 : m "start" = some (.ref d.nm) := W.mn
    refine n_local rfl rfl W.n hst14 ?_
    obtain ⟨nv, hnv, hni⟩ := names_at (s := s14) B O14
    refine add_ls ⟨nv, hnv, hni⟩ W.nn (by have := W.zn; show 4 + _ ≤ _; omega) fun D15 s15 x15 hD15 hl15 => ?_
    have W15 := W.on x15
    refine wpAny_storeName_local rfl W15.n (fun h16 hn16 hs16 => ?_) rfl
    change h16.Ns L _ at hn16
    change Heap.SameBut L s15.heap h16 at hs16
    have x16 : Ext [L] [] s15 { s15 with heap := h16, toks := s15.toks + 1 } := Ext.heap fun b o hb e => hs16.extBut b o (fun q => hb (by simp [q])) e
    have fr15 := W.fresh hD15
    have W16 : Lst w s.heap (FX L hl rl p "names") s [] 4 { d with nm := D15, names := base4 ++ d.names } { s15 with heap := h16, toks := s15.toks + 1 } (fun y => if y = "names" then some (.ref D15) else m y) := W15.chL (nm' := D15) (names' := base4 ++ d.names) (m' := fun y => if y = "names" then some (.ref D15) else m y) "names" x16 hn16 (by rw [if_neg (by decide)]; exact W15.mh) (by rw [if_neg (by decide)]; exact W15.mr) (by rw [if_pos rfl]) hl15 (W.nx_new hD15) fr15.1 fr15.2 (fun x hx => by
      rcases List.mem_append.mp hx with q | q
      · exact base4_ok x q
      · exact W15.okn x q) (by
      have h1 : d.names.length ≤ 4 := by rw [b6]; omega
      rw [List.length_append]; show 4 + _ ≤ _; omega)
    have hms16 : (fun y => if y = Str.ofString "names" then some (Value.ref D15) else m y) "script" = some (.ref sc) := by
      show (if Str.ofString "script" = Str.ofString "names" then _ else _) = _
      rw [if_neg (by decide)]; exact b9
    generalize hS16 : ({ s15 with heap := h16, toks := s15.toks + 1 } : Shared) = s16 at W16
    generalize hM16 : (fun y => if y = Str.ofString "names" then some (Value.ref D15) else m y) = m16 at W16 hms16
    have hkz : ∀ k, k < 2 → d.kz k = d.ro k := fun k hk => by
      rcases two hk with rfl | rfl
      · rw [b4, b7]; rfl
      · rw [b4, b8]; rfl
    clear b10 b7 b8 x16 hs16 hn16 x15 hD15 hl15 W15
    dsimp only
    -- the script
    refine wpAny_execs_cons (wpAny_For ?_)
    refine Subscript_ ?_
    refine n_local rfl rfl W16.n hms16 ?_
    refine wpAny_Slice ?_
    refine wpAny_evalPart_some ?_
    refine wpAny_Constant_int ?_
    refine wpAny_evalPart_some ?_
    refine wpAny_Constant_int ?_
    rw [evalPart_none]
    have hsc16 : s16.heap.IsList sc vs.toArray := hsc.at fun o e => W16.y.kp sc o (fun h => nomatch h) e
    refine wpAny_pure (tail_list (by exact hsc16.push _) (wpAny_getItem_list_slice (by exact hsc16.push _) (Heap.IsSliceOf.new ..) (.int 1 _) (.int 11 _) .none (by simp) ?_ (big_line (by simp; omega))))
    obtain ⟨hints, hlen10⟩ := ints_slice hi
    generalize hits : slicePick vs.toArray (some 1) (some 11) none = its at hints hlen10 ⊢
    have x17 : Ext [] [] s16 { s16 with heap := (s16.heap.push { cls := .type "slice", data := .fields #[.int 1 s16.toks, .int 11 (s16.toks + 1), .none] }).push { cls := .type "list", data := .seq its }, toks := s16.toks + 1 + 1 } := Ext.onh fun b o e => Heap.get?_push_of_some _ (Heap.get?_push_of_some _ e)
    have hlst := Heap.get?_push_size (s16.heap.push { cls := .type "slice", data := .fields #[.int 1 s16.toks, .int 11 (s16.toks + 1), .none] }) (o := { cls := .type "list", data := .seq its }) rfl
    have hfresh17 : s16.heap.get? (s16.heap.objs.size + 1) = none := none_of_size (Nat.le_succ _)
    rw [Heap.size_push] at hlst ⊢
    generalize hlp : s16.heap.objs.size + 1 = lp at hlst hfresh17 ⊢
    dsimp only at hlst x17 ⊢
    generalize hS17 : ({ s16 with heap := (s16.heap.push { cls := .type "slice", data := .fields #[.int 1 s16.toks, .int 11 (s16.toks + 1), .none] }).push { cls := .type "list", data := .seq its }, toks := s16.toks + 1 + 1 } : Shared) = s17 at x17 ⊢
    have hlst17 : s17.heap.IsList lp its.toList.toArray := ⟨_, by rw [← hS17]; exact hlst, rfl, 0, by simp⟩
    have W17 := W16.on x17
    refine iter_list (h₀ := s.heap) hlst17 fun s18 I2 It2 x18 hI2 hK2 => ?_
    have W18 := W17.on x18
    have hI2s : s.heap.get? I2 = none := fr_of W17.y hI2
    show codeAny _ _ _ _ _
    refine loop_it0 (h₀ := s.heap) (K := [I2, lp]) (D := [I2]) (G := []) (by exact r.h) ?hd2 ?ht2 (fun b hb => by simp at hb; rw [hb]; exact hI2s)
      (Inv2 w s (FX L hl rl p "names") I2 lp)
      ?_ ?_ ?_ It2 W18.o ⟨_, _, 4, W18, by omega, hkz, fun b hb => ⟨W17.foot_ne hI2 b hb, W16.foot_ne hfresh17 b hb⟩, IsList.obj (hlst17.at fun o e => x18.keep _ o e), hints⟩
    case hd2 => exact Nat.lt_trans (r1 default).d (by decide)
    case ht2 => intro _; rfl
    · rintro rem s19 s20 ⟨d, m, N, W, a1, a2, a3, a4, a5⟩ st
      refine ⟨d, m, N, W.off st (fun b hb q => (a3 b hb).1 (by simpa using q)) (fun b hb => by simp at hb; rw [hb]; exact hI2s) (fun b hb => by simp at hb; rw [hb]; exact hI2s) (fun _ h => nomatch h), a1, a2, a3, ?_, a5⟩
      obtain ⟨o, ho⟩ := a4
      exact ⟨o, st.kp lp o (fun q => by simp at q; obtain ⟨o2, ho2⟩ := IsList.obj hlst17; rw [q, hI2] at ho2; cases ho2) ho⟩
    · rintro v rem st ⟨d, m, N, W, a1, a2, a3, a4, a5⟩ Ot al E1
      obtain ⟨n0, t0, rfl⟩ := a5 v (.head _)
      have hN : N ≤ 13 := by simp at a1; omega
      refine wpAny_mono (Q := fun _ s' => ∃ m', Lst w s.heap (FX L hl rl p "names") st (foot (FX L hl rl p "names") d) N d s' m' ∧ m' "number" = some (.int n0 t0)) ?_ (fun _ s19 h19 => ?_) fun _ _ e => e
      · refine wpAny_assign_Name ?_
        exact W.rebase.store rfl rfl rfl (by decide) (by decide) (by show (Str.ofString "names") ≠ _; decide) fun s' _ W' => ⟨_, W', if_pos rfl⟩
      obtain ⟨m19, W19, hnum⟩ := h19
      refine wpAny_mono (Q := Trn w s.heap (FX L hl rl p "names") st d (N + 1)) ?_ (fun fl s3 h3 => ?_) fun _ _ e => e
      · refine wpAny_execs_cons (wpAny_Assign_Name ?_)
        refine wpAny_BinOp ?_
        refine n_local rfl rfl W19.n hnum ?_
        refine wpAny_Constant_int ?_
        refine mod_int' (by decide) ?_
        have d0 := Int.fmod_nonneg_of_pos n0 (b := 8) (by decide)
        have d8 := Int.fmod_lt_of_pos n0 (b := 8) (by decide)
        generalize hdd : n0.fmod 8 = dd at d0 d8 ⊢
        refine (W19.on (Ext.tok (tk := s19.toks + 1 + 1))).store rfl rfl rfl (by decide) (by decide) (by show (Str.ofString "names") ≠ _; decide) fun s20 x20 W20 => ?_
        dsimp only
        refine wpAny_execs_cons (wpAny_Assign_Name ?_)
        refine wpAny_BinOp ?_
        refine wpAny_BinOp ?_
        refine n_local rfl rfl W20.n (by rw [if_neg (by decide)]; exact hnum) ?_
        refine wpAny_Constant_int ?_
        refine floordiv_int (by decide) ?_
        refine wpAny_Constant_int ?_
        refine mod_int' (by decide) ?_
        have k0 := Int.fmod_nonneg_of_pos (n0.fdiv 8) (b := 2) (by decide)
        have k2 := Int.fmod_lt_of_pos (n0.fdiv 8) (b := 2) (by decide)
        obtain ⟨kk, hkk⟩ : ∃ k : Nat, (n0.fdiv 8).fmod 2 = (k : Int) := ⟨_, (Int.toNat_of_nonneg k0).symm⟩
        rw [hkk] at k2 ⊢
        have hk2 : kk < 2 := by omega
        refine (W20.on (Ext.tok (tk := s20.toks + 1 + 1 + 1 + 1))).store rfl rfl rfl (by decide) (by decide) (by show (Str.ofString "names") ≠ _; decide) fun s21 x21 W21 => ?_
        dsimp only
        refine wpAny_execs_cons (wpAny_Assign_Name ?_)
        have O21 := W21.o
        refine wpAny_Call_NameR (n_global B (by exact O21) rfl rfl rfl (by k_is) ?_)
        refine callWith_K B.X (kp_name w) ?_
        refine args_cons ?_
        refine wpAny_BinOp ?_
        refine n_local rfl rfl W21.n (by rw [if_neg (by decide), if_neg (by decide)]; exact hnum) ?_
        refine wpAny_Constant_int ?_
        refine floordiv_int (by decide) ?_
        refine args_nil ?_
        refine call_name B O21 ((r1 _).le (by decide) (by decide)) Ext.tok fun s22 nm tn x22 hnm => ?_
        refine (W21.on x22).cell rfl rfl rfl fun s23 x23 W23 hc23 => ?_
        dsimp only
        refine wpAny_execs_cons (wpAny_Assign_Name ?_)
        refine wpAny_BinOp ?_
        refine n_local (x := Str.ofString "names") rfl rfl W23.n (by exact W23.mn) ?_
        refine one_ls ?_
        refine n_cell rfl rfl rfl hc23 ?_
        refine ⟨nm, tn, rfl, fun D24 s24 x24 hD24 hl24 => ?_⟩
        have W24 := W23.on x24
        have hzn := W24.zn
        refine add_ls W24.nn hl24 (by simp; omega) fun D25 s25 x25 hD25 hl25 => ?_
        have W25 := W24.on x25
        refine wpAny_storeName_local rfl W25.n (fun h26 hn26 hs26 => ?_) rfl
        change h26.Ns L _ at hn26
        change Heap.SameBut L s25.heap h26 at hs26
        have x26 : Ext [L] [] s25 { s25 with heap := h26, toks := s25.toks + 1 } := Ext.heap fun b o hb e => hs26.extBut b o (fun q => hb (by simp [q])) e
        have fr25 := W24.fresh hD25
        have W26 := (W25.N_le (Nat.le_succ N)).chL (nm' := D25) (names' := d.names ++ [nm]) "names" x26 hn26 (by rw [if_neg (by decide)]; exact W25.mh) (by rw [if_neg (by decide)]; exact W25.mr) (by rw [if_pos rfl]) hl25 (W24.nx_new hD25) fr25.1 fr25.2 (fun x hx => by
          rcases List.mem_append.mp hx with q | q
          · exact W25.okn x q
          · simp at q; rw [q]; exact hnm) (by rw [List.length_append]; simp; omega)
        dsimp only at W26
        have hc26 := IsCell.kp (IsCell.kp (IsCell.kp hc23 (fun o e => x24.keep _ o e)) (fun o e => x25.keep _ o e)) (fun o e => hs26.extBut _ o (kd_ne (kd_cell ((hc23.keeps x24.keep).keeps x25.keep)) (kd_ns W25.n) (by decide)) e)
        generalize hS26 : ({ s25 with heap := h26, toks := s25.toks + 1 } : Shared) = s26 at W26
        have hc26' : s26.heap.IsCell (L + 1 + 1) (some (.str nm tn)) := by rw [← hS26]; exact hc26
        clear hc26 hs26 hn26 x26 hc23 hl25 hl24 W25 W24 W23 W21 W20
        obtain ⟨m26, W26, ⟨td, hdeed⟩, tkk, hkv⟩ : ∃ m : Str → Option Value, Lst w s.heap (FX L hl rl p "names") st (foot (FX L hl rl p "names") d) (N + 1) { d with nm := D25, names := d.names ++ [nm] } s26 m ∧
            (∃ t, m "deed" = some (.int dd t)) ∧ ∃ t, m "k" = some (.int (kk : Nat) t) := ⟨_, W26, ⟨_, by rw [if_neg (by decide), if_neg (by decide), if_pos rfl]⟩, ⟨_, by rw [if_neg (by decide), if_pos rfl]⟩⟩
        dsimp only
        refine wpAny_execs_cons ?_
        refine wpAny_mono (Q := Trn w s.heap (FX L hl rl p "names") st d (N + 1)) ?_ (fun fl s3 h3 => ?_) fun _ _ e => e
        · have hkz1 : ∀ k, k < 2 → ({ d with nm := D25, names := d.names ++ [nm] } : LD).kz k = ({ d with nm := D25, names := d.names ++ [nm] } : LD).ro k := a2
          have hzr1 : ∀ k, k < 2 → (({ d with nm := D25, names := d.names ++ [nm] } : LD).ro k).length ≤ N := W.zr
          generalize hd1 : ({ d with nm := D25, names := d.names ++ [nm] } : LD) = d1 at W26 hkz1 hzr1
          have hro := hkz1 kk hk2
          have hzk := hzr1 kk hk2
          have hlk : (d1.is kk).l.length ≤ 900 := by
            have h1 := congrArg List.length (W26.ks kk hk2)
            unfold SetI.keys at h1
            rw [List.length_map, hro] at h1
            omega
          refine wpAny_If ?_
          refine wpAny_isTrue_Compare1 ?_
          refine n_local rfl rfl W26.n hdeed ?_
          refine wpAny_Constant_int ?_
          refine lt_int ?_
          refine wpAny_truthy_bool ?_
          have W27 := W26.on (Ext.tok (tk := s26.toks + 1))
          have hc27 : ({ s26 with toks := s26.toks + 1 } : Shared).heap.IsCell (L + 1 + 1) (some (.str nm tn)) := hc26'
          generalize hS27 : ({ s26 with toks := s26.toks + 1 } : Shared) = s27 at W27 hc27 ⊢
          split
          · -- add
            refine wpAny_execs_cons ?_
            refine wpAny_Expr_any (MethodCall_ (pl := _) ?_)
            refine W27.setN rfl rfl rfl rfl hkv hk2 ?_
            have Sk := W27.st kk hk2
            refine method_fn (B.X.keeps W27.o) (inst_set Sk.ox Sk.od) (os_ga w) (os_gat w) (os_add w) (fn_add w) rfl ?_
            refine callWith_K B.X (kp_add w) ?_
            refine args_cons ?_
            refine n_cell rfl rfl rfl hc27 ?_
            refine args_nil ⟨B.X.keeps W27.o, wpAny_call (a_add B W27.o ((r1 _).le (by decide) (by decide)) Sk hlk fun s28 i' x28 S28 hk28 hsub => ?_)⟩
            have hk28' : i'.keys = addL (d1.ro kk) nm := by rw [hk28, W27.ks kk hk2, hro]
            have hadd : (addL (d1.ro kk) nm).length ≤ N + 1 := by
              unfold addL; split
              · omega
              · simp; omega
            have W28 := W27.chS (k := kk) hk2 x28 S28 hk28' hsub (fun z hz => by
              unfold addL at hz
              split at hz
              · exact W27.okr kk hk2 z hz
              · rcases List.mem_append.mp hz with q | q
                · exact W27.okr kk hk2 z q
                · simp at q; rw [q]; exact hnm) hadd
            have hc28 : s28.heap.IsCell (L + 1 + 1) (some (.str nm tn)) := IsCell.kp hc27 fun o e => x28.kp _ o (kd_fp_ne Sk (kd_cell hc27) (by decide) (by decide)) e
            dsimp only
            refine wpAny_execs_cons (wpAny_If ?_)
            refine wpAny_isTrue_Compare1 ?_
            refine n_cell rfl rfl rfl hc28 ?_
            refine W28.rowN rfl rfl rfl rfl hkv hk2 ?_
            refine ls_notin (W28.rr kk hk2) ?_
            refine wpAny_truthy_bool ?_
            by_cases hin : nm ∈ d1.ro kk
            · refine (if_neg (by simp [hin])).mpr ?_
              refine wpAny_execs_nil (wpAny_execs_nil ⟨rfl, _, _, W28, ?_⟩)
              exact upd_eq' hk2 (by unfold addL; rw [if_pos hin]) hkz1
            · refine (if_pos (by simp [hin])).mpr ?_
              refine wpAny_execs_cons (wpAny_Assign_Subscript ?_)
              refine wpAny_BinOp ?_
              refine W28.rowN rfl rfl rfl rfl hkv hk2 ?_
              refine one_ls ?_
              refine n_cell rfl rfl rfl hc28 ?_
              refine ⟨nm, tn, rfl, fun D29 s29 x29 hD29 hl29 => ?_⟩
              have W29 := W28.on x29
              refine add_ls (W29.rr kk hk2) hl29 (by show (d1.ro kk).length + 1 ≤ _; omega) fun D30 s30 x30 hD30 hl30 => ?_
              have W30 := W29.on x30
              have fr30 := W29.fresh hD30
              refine n_local rfl rfl W30.n W30.mr ?_
              refine n_local rfl rfl W30.n hkv ?_
              refine W30.setR (k := kk) (r' := D30) (ro' := d1.ro kk ++ [nm]) hk2 hl30 (W29.nx_new hD30) fr30.1 fr30.2 (fun z hz => ?_) (by simp; omega) fun s31 x31 W31 => ?_
              · rcases List.mem_append.mp hz with q | q
                · exact W30.okr kk hk2 z q
                · simp at q; rw [q]; exact hnm
              refine wpAny_execs_nil (wpAny_execs_nil ⟨rfl, _, _, W31, ?_⟩)
              exact upd_eq (by unfold addL; rw [if_neg hin]) hkz1
          · refine wpAny_execs_cons (wpAny_If ?_)
            refine wpAny_isTrue_Compare1 ?_
            refine n_local rfl rfl W27.n hdeed ?_
            refine wpAny_Constant_int ?_
            refine eq_int ?_
            refine wpAny_truthy_bool ?_
            have W28 := W27.on (Ext.tok (tk := s27.toks + 1))
            have hc28 : ({ s27 with toks := s27.toks + 1 } : Shared).heap.IsCell (L + 1 + 1) (some (.str nm tn)) := hc27
            generalize hS28 : ({ s27 with toks := s27.toks + 1 } : Shared) = s28 at W28 hc28 ⊢
            clear W27 hc27 hS28 hS27
            split
            · -- discard
              refine wpAny_execs_cons ?_
              refine wpAny_Expr_any (MethodCall_ (pl := _) ?_)
              refine W28.setN rfl rfl rfl rfl hkv hk2 ?_
              have Sk := W28.st kk hk2
              refine method_fn (B.X.keeps W28.o) (inst_set Sk.ox Sk.od) (os_ga w) (os_gat w) (os_discard w) (fn_disc w) rfl ?_
              refine callWith_K B.X (kp_disc w) ?_
              refine args_cons ?_
              refine n_cell rfl rfl rfl hc28 ?_
              refine args_nil ⟨B.X.keeps W28.o, wpAny_call (a_disc B W28.o ((r1 _).le (by decide) (by decide)) Sk hlk fun s29 i' x29 S29 hk29 hsub => ?_)⟩
              have hk29' : i'.keys = disL (d1.ro kk) nm := by rw [hk29, W28.ks kk hk2, hro]
              have hdisl : (disL (d1.ro kk) nm).length ≤ N + 1 := Nat.le_trans (List.length_filter_le ..) (by omega)
              have hdisk : ∀ z ∈ disL (d1.ro kk) nm, NmOK z := fun z hz => W28.okr kk hk2 z (List.mem_filter.mp hz).1
              have W29 := W28.chS (k := kk) hk2 x29 S29 hk29' (fun b hb => .inl (hsub b hb)) hdisk hdisl
              have hc29 : s29.heap.IsCell (L + 1 + 1) (some (.str nm tn)) := IsCell.kp hc28 fun o e => x29.kp _ o (kd_fp_ne Sk (kd_cell hc28) (by decide) (by decide)) e
              dsimp only
              refine wpAny_execs_cons (wpAny_Assign_Subscript ?_)
              have hrk := W29.rr kk hk2
              obtain ⟨rv, hrv, hri⟩ := hrk
              refine filt (h₀ := s.heap) (v := d1.rs kk) (vs := rv) (ss := d1.ro kk) (fun x => decide (x ≠ nm)) (r1 _).h (Nat.lt_trans (r1 default).d (by decide)) rfl (by decide) rfl (by decide) rfl W29.o (srcAt_list hrv) hri (by omega) ?it3 (fun C s' m y t E' Q hy O' k hC hm hQ => ?ht3) fun D30 u30 s30 x30 hD30 hl30 hi30 => ?_
              case it3 =>
                refine W29.rowN rfl rfl rfl rfl hkv hk2 ?_
                exact ⟨rfl, rfl, Ext.refl⟩
              case ht3 =>
                refine wpAny_tests_one ?_
                refine wpAny_isTrue_Compare1 ?_
                refine n_local rfl rfl hC hm ?_
                refine n_cell rfl rfl rfl (hc29.keeps k) ?_
                refine ne_str ?_
                have e : (y != nm) = decide (y ≠ nm) := by by_cases h : y = nm <;> simp [h]
                rw [e]
                exact wpAny_truthy_bool (hQ _ Ext.refl)
              have W30 := W29.on x30
              have fr30 := W29.fresh hD30
              refine n_local rfl rfl W30.n W30.mr ?_
              refine n_local rfl rfl W30.n hkv ?_
              refine W30.setR (k := kk) (r' := D30) (ro' := disL (d1.ro kk) nm) hk2 ⟨_, hl30, hi30⟩ (W29.nx_new hD30) fr30.1 fr30.2 hdisk hdisl fun s31 x31 W31 => ?_
              refine wpAny_execs_nil (wpAny_execs_nil ⟨rfl, _, _, W31, ?_⟩)
              exact upd_eq rfl hkz1
            · refine wpAny_execs_cons (wpAny_If ?_)
              refine wpAny_isTrue_Compare1 ?_
              refine n_local rfl rfl W28.n hdeed ?_
              refine wpAny_Constant_int ?_
              refine lt_int ?_
              refine wpAny_truthy_bool ?_
              have W29 := W28.on (Ext.tok (tk := s28.toks + 1))
              generalize hS29 : ({ s28 with toks := s28.toks + 1 } : Shared) = s29 at W29 ⊢
              clear W28 hc28 hS29
              split
              · -- pop
                obtain ⟨last, hlast⟩ : ∃ b : Bool, (dd == 4) = b := ⟨_, rfl⟩
                refine wpAny_execs_cons (wpAny_Assign_Name ?_)
                refine wpAny_mono (Q := fun v s' => ∃ D, v = .ref D ∧ Ext [] [] s29 s' ∧ s29.heap.get? D = none ∧ LS s'.heap D (if last = true then (d1.ro kk).drop ((d1.ro kk).length - 1) else (d1.ro kk).take 1)) ?_ (fun v s30 h30 => ?_) fun _ _ e => e
                · refine wpAny_IfExp ?_
                  refine wpAny_isTrue_Compare1 ?_
                  refine n_local rfl rfl W29.n hdeed ?_
                  refine wpAny_Constant_int ?_
                  refine eq_int ?_
                  refine wpAny_truthy_bool ?_
                  rw [hlast]
                  have W29' := W29.on (Ext.tok (tk := s29.toks + 1))
                  cases last
                  · refine (if_neg Bool.false_ne_true).mpr ?_
                    refine slice_any ?_
                    refine W29'.rowN rfl rfl rfl rfl hkv hk2 ?_
                    refine wpAny_evalPart_none ?_
                    refine wpAny_evalPart_some ?_
                    refine wpAny_Constant_int ?_
                    exact ⟨_, _, _, _, _, rfl, W29'.rr kk hk2, by omega, .none, .int 1 _, pick_upto 1, fun D s' x hD l => ⟨D, rfl, Ext.tok.trans x, hD, l⟩⟩
                  · refine (if_pos rfl).mpr ?_
                    refine slice_any ?_
                    refine W29'.rowN rfl rfl rfl rfl hkv hk2 ?_
                    refine wpAny_evalPart_some ?_
                    refine wpAny_UnaryOp ?_
                    refine wpAny_Constant_int ?_
                    refine neg_int ?_
                    refine wpAny_evalPart_none ?_
                    exact ⟨_, _, _, _, _, rfl, W29'.rr kk hk2, by omega, .int (-1) _, .none, pick_last1, fun D s' x hD l => ⟨D, rfl, Ext.tok.trans x, hD, l⟩⟩
                obtain ⟨Dd, rfl, x30, hDd, hdue⟩ := h30
                have W30 := W29.on x30
                have hdueL := kd_ne (kd_ls hdue) (kd_ns W30.n) (by decide)
                have hdueX := W29.nx_new hDd
                have hdueF := W29.foot_ne hDd
                refine W30.store rfl rfl rfl (by decide) (by decide) (by show (Str.ofString "names") ≠ _; decide) fun s31 x31 W31 => ?_
                have hdue31 := hdue.at (fun o e => x31.kp _ o (by simpa using hdueL) e)
                dsimp only
                clear W30 x30 hdue x31
                obtain ⟨m31, W31, hdm31, hkv31, hdeed31⟩ : ∃ m : Str → Option Value, W29.cl d1 s31 m ∧ m "due" = some (.ref Dd) ∧ m "k" = some (.int (kk : Nat) tkk) ∧ m "deed" = some (.int dd td) := ⟨_, W31, if_pos rfl, (if_neg (by decide)).trans hkv, (if_neg (by decide)).trans hdeed⟩
                refine wpAny_execs_cons (wpAny_Assign_Subscript ?_)
                refine wpAny_mono (Q := fun v s' => ∃ D, v = .ref D ∧ Ext [] [] s31 s' ∧ s31.heap.get? D = none ∧ LS s'.heap D (if last = true then (d1.ro kk).take ((d1.ro kk).length - 1) else (d1.ro kk).drop 1)) ?_ (fun v s32 h32 => ?_) fun _ _ e => e
                · refine wpAny_IfExp ?_
                  refine wpAny_isTrue_Compare1 ?_
                  refine n_local rfl rfl W31.n hdeed31 ?_
                  refine wpAny_Constant_int ?_
                  refine eq_int ?_
                  refine wpAny_truthy_bool ?_
                  rw [hlast]
                  have W31' := W31.on (Ext.tok (tk := s31.toks + 1))
                  cases last
                  · refine (if_neg Bool.false_ne_true).mpr ?_
                    refine slice_any ?_
                    refine W31'.rowN rfl rfl rfl rfl hkv31 hk2 ?_
                    refine wpAny_evalPart_some ?_
                    refine wpAny_Constant_int ?_
                    refine wpAny_evalPart_none ?_
                    exact ⟨_, _, _, _, _, rfl, W31'.rr kk hk2, by omega, .int 1 _, .none, pick_from 1, fun D s' x hD l => ⟨D, rfl, (Ext.tok.trans Ext.tok).trans x, hD, l⟩⟩
                  · refine (if_pos rfl).mpr ?_
                    refine slice_any ?_
                    refine W31'.rowN rfl rfl rfl rfl hkv31 hk2 ?_
                    refine wpAny_evalPart_none ?_
                    refine wpAny_evalPart_some ?_
                    refine wpAny_UnaryOp ?_
                    refine wpAny_Constant_int ?_
                    refine neg_int ?_
                    exact ⟨_, _, _, _, _, rfl, W31'.rr kk hk2, by omega, .none, .int (-1) _, pick_but1, fun D s' x hD l => ⟨D, rfl, Ext.tok.trans x, hD, l⟩⟩
                obtain ⟨Dr, rfl, x32, hDr, hrow⟩ := h32
                have W32 := W31.on x32
                have fr32 := W31.fresh hDr
                refine n_local rfl rfl W32.n W32.mr ?_
                refine n_local rfl rfl W32.n hkv31 ?_
                refine W32.setR (k := kk) (r' := Dr) hk2 hrow (W31.nx_new hDr) fr32.1 fr32.2 (fun z hz => W31.okr kk hk2 z ?oks) ?lens fun s33 x33 W33 => ?_
                case oks =>
                  cases last
                  · exact List.mem_of_mem_drop hz
                  · exact List.mem_of_mem_take hz
                case lens =>
                  refine Nat.le_trans ?_ (Nat.le_trans hzk (Nat.le_succ N))
                  cases last
                  · show ((d1.ro kk).drop 1).length ≤ _; rw [List.length_drop]; omega
                  · show ((d1.ro kk).take _).length ≤ _; rw [List.length_take]; omega
                have hdue33 := (hdue31.on x32.keep).at (fun o e => x33.kp _ o (by simpa using hdueX.2) e)
                clear W32 W31 x32 x33 hdue31 hrow
                refine wpAny_execs_cons ?_
                refine wpAny_mono (Q := fun fl s' => fl = .next ∧ ∃ m' D d', m' "told" = some (.ref D) ∧ m' "due" = some (.ref Dd) ∧ LS s'.heap D (if last = true then (d1.ro kk).drop ((d1.ro kk).length - 1) else (d1.ro kk).take 1) ∧ LS s'.heap Dd (if last = true then (d1.ro kk).drop ((d1.ro kk).length - 1) else (d1.ro kk).take 1) ∧ W29.cl d' s' m' ∧ ∀ k, k < 2 → d'.kz k = d'.ro k) ?_ (fun fl s34 h34 => ?_) fun _ _ e => e
                · refine wpAny_Try_except ?_
                  refine wpAny_execs_cons (wpAny_Assign_Name ?_)
                  refine wpAny_mono (Q := fun v s' => ∃ D d', v = .ref D ∧ LS s'.heap D (if last = true then (d1.ro kk).drop ((d1.ro kk).length - 1) else (d1.ro kk).take 1) ∧ LS s'.heap Dd (if last = true then (d1.ro kk).drop ((d1.ro kk).length - 1) else (d1.ro kk).take 1) ∧ W29.cl d' s' m31 ∧ ∀ k, k < 2 → d'.kz k = d'.ro k) ?_ (fun v s34 h34 => ?_) fun _ _ e => e
                  · refine wpAny_IfExp ?_
                    refine wpAny_isTrue_Compare1 ?_
                    refine n_local rfl rfl W33.n hdeed31 ?_
                    refine wpAny_Constant_int ?_
                    refine eq_int ?_
                    refine wpAny_truthy_bool ?_
                    rw [hlast]
                    have W34 := W33.on (Ext.tok (tk := s33.toks + 1))
                    have hdue34 : LS ({ s33 with toks := s33.toks + 1 } : Shared).heap Dd _ := hdue33
                    generalize hS34 : ({ s33 with toks := s33.toks + 1 } : Shared) = s34 at W34 hdue34 ⊢
                    have Sk := W34.st kk hk2
                    have hk34 : (d1.is kk).keys = d1.ro kk := by rw [W29.ks kk hk2, hro]
                    cases last
                    · refine (if_neg Bool.false_ne_true).mpr ?_
                      refine one_ls ?_
                      refine MethodCall_ (pl := _) ?_
                      refine W34.setN rfl rfl rfl rfl hkv31 hk2 ?_
                      refine method_fn (B.X.keeps W34.o) (inst_set Sk.ox Sk.od) (os_ga w) (os_gat w) (os_pop w) (fn_pop w) rfl ?_
                      refine callWith_K B.X (kp_pop w) ?_
                      refine args_cons ?_
                      refine wpAny_Constant_bool ?_
                      refine args_nil ⟨B.X.keeps W34.o, wpAny_call (a_pop false _ rfl B W34.o ((r1 _).le (by decide) (by decide)) Sk hlk (Around.frames_deeper hfr) rfl rfl W34.n (fun s' e t hnil x hF hU => ?er) (fun s' i' z ks t x S' hk' hks hsub => ?rt))⟩
                      case rt =>
                        have hks' : d1.ro kk = z :: ks := hk34.symm.trans hks
                        have W35 := W34.chS (k := kk) hk2 x S' hk' (fun b hb => .inl (hsub b hb)) (fun y hy => W29.okr kk hk2 y (by rw [hks']; simp [hy])) (by have := congrArg List.length hks'; simp at this; omega)
                        refine ⟨z, t, rfl, fun D s35 x35 hD l => ⟨D, _, rfl, ?_, ?_, W35.on x35, ?_⟩⟩
                        · show LS _ D ((d1.ro kk).take 1)
                          have e : ((d1.ro kk).take 1) = [z] := by rw [hks']; simp
                          rw [e]; exact l
                        · exact (hdue34.at (fun o e => x.kp _ o (fun q => hdueF _ (foot_fp hk2 q) rfl) e)).on x35.keep
                        · refine upd_eq ?_ hkz1
                          show ks = ((d1.ro kk).drop 1)
                          rw [hks']; simp
                      case er =>
                        have hrnil : d1.ro kk = [] := by rw [← hk34]; unfold SetI.keys; rw [hnil]; rfl
                        have hUL : ∀ {h' : Heap}, (hideAll s34.heap [L]).StaysIn h' → ∀ b o, b ∉ [L] → s34.heap.get? b = some o → h'.get? b = some o := fun k b o hb e => k b o (hideAll_get _ e hb)
                        refine wpAny_looks_onW (Around.frames_deeper hfr) rfl hF fun h4 hheld hu4 => ?_
                        refine wpAny_landsW hheld fun h5 hf5 hu5 => ?_
                        obtain ⟨ob, hob, hobc⟩ := hf5.there
                        have x5 : Ext [L] [] s34 { s' with heap := h5 } := Ext.swap x (hUL hf5.1)
                        have W35 := W34.up x5 (hU.trans (hu4.trans hu5))
                        refine wpAny_handleBy_builtin (X := "KeyError") (T := "KeyError") (b := true) (by kernel_rfl) (by kernel_rfl) (by kernel_rfl) (n_builtin B (by exact W35.o) rfl rfl rfl rfl (by k_is) rfl (by decide) ⟨rfl, ⟨ob, hob, hobc⟩, ?_⟩)
                        refine lands_againW hf5 fun h6 hf6 hu6 => ?_
                        have x6 : Ext [L] [] s34 { s' with heap := h6 } := Ext.swap x (hUL hf6.1)
                        have W36 := W34.up x6 (hU.trans ((hu4.trans hu5).trans hu6))
                        have hdue36 := hdue34.at (fun o e => x6.kp _ o (by simpa using hdueL) e)
                        refine wpAny_execs_cons (wpAny_Assign_Name ?_)
                        refine nil_ls fun D s37 x37 hD l => ?_
                        have W37 := W36.on x37
                        have ne1 := kd_ne (kd_ls l) (kd_ns W37.n) (by decide)
                        refine W37.store rfl rfl rfl (by decide) (by decide) (by show (Str.ofString "names") ≠ _; decide) fun s38 x38 W38 => ?_
                        refine wpAny_execs_nil ⟨rfl, _, D, _, if_pos rfl, (if_neg (by decide)).trans hdm31, ?_, (hdue36.on x37.keep).at (fun o e => x38.kp _ o (by simpa using hdueL) e), W38, fun j hj => ?_⟩
                        · have := l.at (fun o e => x38.kp _ o (by simpa using ne1) e)
                          show LS _ D ((d1.ro kk).take 1)
                          rw [hrnil]; exact this
                        · show d1.kz j = upd d1.ro kk _ j
                          unfold upd; split
                          · rename_i ej; rw [ej, hro, hrnil]; rfl
                          · exact hkz1 j hj
                    · refine (if_pos rfl).mpr ?_
                      refine one_ls ?_
                      refine MethodCall_ (pl := _) ?_
                      refine W34.setN rfl rfl rfl rfl hkv31 hk2 ?_
                      refine method_fn (B.X.keeps W34.o) (inst_set Sk.ox Sk.od) (os_ga w) (os_gat w) (os_pop w) (fn_pop w) rfl ?_
                      refine callWith_K0 (B.X.keeps W34.o) (kp_pop w) ?_
                      refine wpAny_call (a_pop true _ rfl B W34.o ((r1 _).le (by decide) (by decide)) Sk hlk (Around.frames_deeper hfr) rfl rfl W34.n (fun s' e t hnil x hF hU => ?er) (fun s' i' z ks t x S' hk' hks hsub => ?rt))
                      case rt =>
                        have hks' : d1.ro kk = ks ++ [z] := hk34.symm.trans hks
                        have W35 := W34.chS (k := kk) hk2 x S' hk' (fun b hb => .inl (hsub b hb)) (fun y hy => W29.okr kk hk2 y (by rw [hks']; simp [hy])) (by have := congrArg List.length hks'; simp at this; omega)
                        refine ⟨z, t, rfl, fun D s35 x35 hD l => ⟨D, _, rfl, ?_, ?_, W35.on x35, ?_⟩⟩
                        · show LS _ D ((d1.ro kk).drop ((d1.ro kk).length - 1))
                          have e : ((d1.ro kk).drop ((d1.ro kk).length - 1)) = [z] := by rw [hks']; simp
                          rw [e]; exact l
                        · exact (hdue34.at (fun o e => x.kp _ o (fun q => hdueF _ (foot_fp hk2 q) rfl) e)).on x35.keep
                        · refine upd_eq ?_ hkz1
                          show ks = ((d1.ro kk).take ((d1.ro kk).length - 1))
                          rw [hks']; simp
                      case er =>
                        have hrnil : d1.ro kk = [] := by rw [← hk34]; unfold SetI.keys; rw [hnil]; rfl
                        have hUL : ∀ {h' : Heap}, (hideAll s34.heap [L]).StaysIn h' → ∀ b o, b ∉ [L] → s34.heap.get? b = some o → h'.get? b = some o := fun k b o hb e => k b o (hideAll_get _ e hb)
                        refine wpAny_looks_onW (Around.frames_deeper hfr) rfl hF fun h4 hheld hu4 => ?_
                        refine wpAny_landsW hheld fun h5 hf5 hu5 => ?_
                        obtain ⟨ob, hob, hobc⟩ := hf5.there
                        have x5 : Ext [L] [] s34 { s' with heap := h5 } := Ext.swap x (hUL hf5.1)
                        have W35 := W34.up x5 (hU.trans (hu4.trans hu5))
                        refine wpAny_handleBy_builtin (X := "KeyError") (T := "KeyError") (b := true) (by kernel_rfl) (by kernel_rfl) (by kernel_rfl) (n_builtin B (by exact W35.o) rfl rfl rfl rfl (by k_is) rfl (by decide) ⟨rfl, ⟨ob, hob, hobc⟩, ?_⟩)
                        refine lands_againW hf5 fun h6 hf6 hu6 => ?_
                        have x6 : Ext [L] [] s34 { s' with heap := h6 } := Ext.swap x (hUL hf6.1)
                        have W36 := W34.up x6 (hU.trans ((hu4.trans hu5).trans hu6))
                        have hdue36 := hdue34.at (fun o e => x6.kp _ o (by simpa using hdueL) e)
                        refine wpAny_execs_cons (wpAny_Assign_Name ?_)
                        refine nil_ls fun D s37 x37 hD l => ?_
                        have W37 := W36.on x37
                        have ne1 := kd_ne (kd_ls l) (kd_ns W37.n) (by decide)
                        refine W37.store rfl rfl rfl (by decide) (by decide) (by show (Str.ofString "names") ≠ _; decide) fun s38 x38 W38 => ?_
                        refine wpAny_execs_nil ⟨rfl, _, D, _, if_pos rfl, (if_neg (by decide)).trans hdm31, ?_, (hdue36.on x37.keep).at (fun o e => x38.kp _ o (by simpa using hdueL) e), W38, fun j hj => ?_⟩
                        · have := l.at (fun o e => x38.kp _ o (by simpa using ne1) e)
                          show LS _ D ((d1.ro kk).drop ((d1.ro kk).length - 1))
                          rw [hrnil]; exact this
                        · show d1.kz j = upd d1.ro kk _ j
                          unfold upd; split
                          · rename_i ej; rw [ej, hro, hrnil]; rfl
                          · exact hkz1 j hj
                  · obtain ⟨D, d', rfl, hD, hDdue, W34, hkz34⟩ := h34
                    have ne1 := kd_ne (kd_ls hD) (kd_ns W34.n) (by decide)
                    have ne2 := kd_ne (kd_ls hDdue) (kd_ns W34.n) (by decide)
                    refine W34.store rfl rfl rfl (by decide) (by decide) (by show (Str.ofString "names") ≠ _; decide) fun s35 x35 W35 => ?_
                    refine wpAny_execs_nil (wpAny_execs_nil ⟨rfl, _, D, d', if_pos rfl, (if_neg (by decide)).trans hdm31, hD.at (fun o e => x35.kp _ o (by simpa using ne1) e), hDdue.at (fun o e => x35.kp _ o (by simpa using ne2) e), W35, hkz34⟩)
                · obtain ⟨rfl, m35, D, d', ht35, hd35, hD, hDdue, W35, hkz35⟩ := h34
                  dsimp only
                  refine wpAny_execs_cons (wpAny_If ?_)
                  refine wpAny_isTrue_Compare1 ?_
                  refine n_local rfl rfl W35.n ht35 ?_
                  refine n_local rfl rfl W35.n hd35 ?_
                  have hoks : OkS (if last = true then (d1.ro kk).drop ((d1.ro kk).length - 1) else (d1.ro kk).take 1) := fun z hz => by
                    refine (W29.okr kk hk2 z ?_).ok
                    cases last
                    · exact List.mem_of_mem_take hz
                    · exact List.mem_of_mem_drop hz
                  refine ls_ne hD hDdue hoks hoks ((r1 _).le (by decide) (by decide)) ?_
                  refine wpAny_truthy_bool ?_
                  refine (if_neg (by simp)).mpr ?_
                  exact wpAny_execs_nil (wpAny_execs_nil (wpAny_execs_nil (wpAny_execs_nil ⟨rfl, _, _, W35, hkz35⟩)))
              · refine wpAny_execs_cons (wpAny_If ?_)
                refine wpAny_isTrue_Compare1 ?_
                refine n_local rfl rfl W29.n hdeed ?_
                refine wpAny_Constant_int ?_
                refine eq_int ?_
                refine wpAny_truthy_bool ?_
                have W30 := W29.on (Ext.tok (tk := s29.toks + 1))
                generalize hS30 : ({ s29 with toks := s29.toks + 1 } : Shared) = s30 at W30 ⊢
                clear W29 hS30
                split
                · -- anew
                  have hko2 : 1 - kk < 2 := by omega
                  have hcast : (1 : Int) - (kk : Int) = ((1 - kk : Nat) : Int) := by omega
                  have W31 := W30.on (Ext.tok (tk := s30.toks + 1 + 1))
                  refine wpAny_execs_cons (wpAny_Assign_Subscript ?_)
                  refine wpAny_Call_NameR (n_global B (by exact W30.o) rfl rfl rfl (by k_is) ?_)
                  refine callWith_K B.X (kp_cls w) ?_
                  refine args_cons ?_
                  refine Subscript_ ?_
                  refine n_local rfl rfl W30.n W30.mh ?_
                  refine wpAny_BinOp ?_
                  refine wpAny_Constant_int ?_
                  refine n_local rfl rfl (by exact W30.n) hkv ?_
                  refine sub_int ?_
                  refine tail_list (by exact W30.hl) ?_
                  refine W31.setAt hko2 hcast ?_
                  generalize hS31 : ({ s30 with toks := s30.toks + 1 + 1 } : Shared) = s31 at W31 ⊢
                  have So := W31.st (1 - kk) hko2
                  have hzo := hzr1 (1 - kk) hko2
                  have hlo : (d1.is (1 - kk)).l.length ≤ 800 := by
                    have h1 := congrArg List.length (W30.ks (1 - kk) hko2)
                    unfold SetI.keys at h1
                    rw [List.length_map, hkz1 (1 - kk) hko2] at h1
                    omega
                  refine args_nil ⟨B.X.keeps W31.o, ?_⟩
                  refine c_make1 B W31.o ((r1 _).le (by decide) (by decide)) (strs_vals _) (by rw [List.length_map]; exact hlo) (fun sM x dx xM nx ndx => src_set B (So.on xM.keep) (fun q => W31.foot_ne nx _ (foot_fp hko2 q) rfl) (fun q => W31.foot_ne ndx _ (foot_fp hko2 q) rfl)) fun s32 a' i' x32 S32 hk32 hf32 => ?_
                  have hk32' : i'.keys = d1.ro (1 - kk) := by
                    rw [hk32, fold_nodup _ [] (keys_nodup So)]
                    exact (W30.ks (1 - kk) hko2).trans (hkz1 (1 - kk) hko2)
                  have W32 := W31.on x32
                  refine n_local rfl rfl W32.n W32.mh ?_
                  refine n_local rfl rfl W32.n hkv ?_
                  refine W32.setH (k := kk) hk2 S32 hk32' (fun b hb => (W31.fresh (hf32 b hb)).1) (fun q => W31.foot_ne (hf32 _ q) _ (by rw [foot_mem]; exact .inl rfl) rfl) (fun j hj b hb q => W31.foot_ne (hf32 b hb) b (foot_fp hj q) rfl) (W31.okr (1 - kk) hko2) (by omega) fun s33 x33 W33 => ?_
                  refine wpAny_execs_cons (wpAny_Assign_Subscript ?_)
                  have W34 := W33.on (Ext.tok (tk := s33.toks + 1 + 1))
                  refine Subscript_ ?_
                  refine n_local rfl rfl W33.n W33.mr ?_
                  refine wpAny_BinOp ?_
                  refine wpAny_Constant_int ?_
                  refine n_local rfl rfl (by exact W33.n) hkv ?_
                  refine sub_int ?_
                  refine tail_list (by exact W33.rl) ?_
                  refine W34.rowAt hko2 hcast ?_
                  refine n_local rfl rfl W34.n W34.mr ?_
                  refine n_local rfl rfl W34.n hkv ?_
                  refine W34.setR (k := kk) hk2 (W34.rr (1 - kk) hko2) (W34.rn (1 - kk) hko2) (W34.fr _ (foot_rs hko2)) (W34.f0 _ (foot_rs hko2)) (W34.okr (1 - kk) hko2) (W34.zr (1 - kk) hko2) fun s35 x35 W35 => ?_
                  exact wpAny_execs_nil (wpAny_execs_nil (wpAny_execs_nil (wpAny_execs_nil ⟨rfl, _, _, W35, upd_eq rfl hkz1⟩)))
                · refine wpAny_execs_cons (wpAny_Assign_Name ?_)
                  refine nil_ls fun D0 s31 x31 hD0 l0 => ?_
                  have W31 := W30.on x31
                  have ne0 := kd_ne (kd_ls l0) (kd_ns W31.n) (by decide)
                  refine W31.store rfl rfl rfl (by decide) (by decide) (by show (Str.ofString "names") ≠ _; decide) fun s32 x32 W32 => ?_
                  have l32 := l0.at (fun o e => x32.kp _ o (by simpa using ne0) e)
                  dsimp only
                  obtain ⟨m32, W32, ht32, hkv32⟩ : ∃ m : Str → Option Value, W30.cl d1 s32 m ∧ m "told" = some (.ref D0) ∧ m "k" = some (.int (kk : Nat) tkk) := ⟨_, W32, if_pos rfl, (if_neg (by decide)).trans hkv⟩
                  clear W31 x31 x32 l0
                  refine wpAny_execs_cons ?_
                  refine wpAny_mono (Q := fun fl s' => fl = .next ∧ ∃ m' D, m' "told" = some (.ref D) ∧ LS s'.heap D ((d1.ro kk).take 1) ∧ W30.cl d1 s' m' ∧ m' "k" = some (.int (kk : Nat) tkk)) ?_ (fun fl s34 h34 => ?_) fun _ _ e => e
                  · refine wpAny_For ?_
                    refine W32.setN rfl rfl rfl rfl hkv32 hk2 ?_
                    have Sk := W32.st kk hk2
                    have hkk : (d1.is kk).l.map (·.key) = d1.ro kk := (W32.ks kk hk2).trans hro
                    refine iter_set B W32.o (Nat.lt_trans (r1 default).d (by decide)) Sk fun s33 G2 L2 g2 It2 x33 hL2 hG2 hg2 hKo hgo => ?_
                    have W33 := W32.on x33
                    have nl0 : D0 ≠ L2 := fun q => by
                      obtain ⟨_, hl, _⟩ := l32
                      obtain ⟨o, ho⟩ := IsList.obj hl
                      rw [q, hL2] at ho; cases ho
                    show codeAny _ _ _ _ _
                    refine loop_it (h₀ := s.heap) (D := [L2]) (G := [g2]) (by exact r.h) ?hd3 ?ht3 (fun b hb => by simp at hb; rw [hb]; exact (W32.fresh hL2).2)
                      (fun rem s' => rem = vals (d1.is kk).l ∧ W30.cl d1 s' m32 ∧ LS s'.heap D0 []) ?_ ?_ ?_ It2 W33.o ⟨rfl, W33, l32.on x33.keep⟩
                    case hd3 => exact Nat.lt_trans (r1 default).d (by decide)
                    case ht3 => intro _; rfl
                    · rintro rem s34 s35 ⟨e1, W, l⟩ st'
                      refine ⟨e1, W.off2 st' (fun b hb q => W32.foot_ne hL2 b hb (by simpa using q)) (fun b hb => by simp at hb; rw [hb]; exact (W32.fresh hL2).1) (fun b hb => by simp at hb; rw [hb]; exact (W32.fresh hL2).2) (fun g hg => by simp at hg; rw [hg]; exact Array.getElem?_eq_none (Nat.le_trans W32.y.gz (Array.getElem?_eq_none_iff.mp hg2))), l.at (fun o e => st'.kp _ o (fun q => nl0 (by simpa using q)) e)⟩
                    · rintro v rem s34 ⟨e1, W, l⟩ O' al
                      generalize hq : (d1.is kk).l = q at e1 hkk
                      cases q with
                      | nil => cases e1
                      | cons n1 r1' =>
                        injection e1 with e2 e3
                        subst e2
                        refine wpAny_assign_Name ?_
                        refine W.store rfl rfl rfl (by decide) (by decide) (by show (Str.ofString "names") ≠ _; decide) fun s35 x35 W35 => ?_
                        refine wpAny_execs_cons (wpAny_Assign_Name ?_)
                        refine one_ls ?_
                        refine n_local rfl rfl W35.n (if_pos rfl) ?_
                        refine ⟨n1.key, _, rfl, fun D s36 x36 hD l36 => ?_⟩
                        have W36 := W35.on x36
                        have ne1 := kd_ne (kd_ls l36) (kd_ns W36.n) (by decide)
                        refine W36.store rfl rfl rfl (by decide) (by decide) (by show (Str.ofString "names") ≠ _; decide) fun s37 x37 W37 => ?_
                        dsimp only
                        refine wpAny_execs_cons (wpAny_Break ?_)
                        refine ⟨rfl, _, D, if_pos rfl, ?_, W37, (if_neg (by decide)).trans ((if_neg (by decide)).trans hkv32)⟩
                        rw [← hkk]
                        exact l36.at (fun o e => x37.kp _ o (by simpa using ne1) e)
                    · rintro s34 ⟨e1, W, l⟩ O'
                      refine ⟨rfl, m32, D0, ht32, ?_, W, hkv32⟩
                      have e2 : d1.ro kk = [] := by
                        rw [← hkk]
                        cases q : (d1.is kk).l with
                        | nil => rfl
                        | cons n1 r1' => rw [q] at e1; cases e1
                      rw [e2]; exact l
                  · obtain ⟨rfl, m34, D, ht34, hD, W34, hkv34⟩ := h34
                    dsimp only
                    refine wpAny_execs_cons (wpAny_If ?_)
                    refine wpAny_isTrue_Compare1 ?_
                    refine n_local rfl rfl W34.n ht34 ?_
                    refine slice_any ?_
                    refine W34.rowN rfl rfl rfl rfl hkv34 hk2 ?_
                    refine wpAny_evalPart_none ?_
                    refine wpAny_evalPart_some ?_
                    refine wpAny_Constant_int ?_
                    refine ⟨_, _, _, _, _, rfl, W34.rr kk hk2, by omega, .none, .int 1 _, pick_upto 1, fun D2 s35 x35 hD2 l2 => ?_⟩
                    have hoks : OkS ((d1.ro kk).take 1) := fun z hz => (W34.okr kk hk2 z (List.mem_of_mem_take hz)).ok
                    have x35' : Ext [] [] s34 s35 := Ext.tok.trans x35
                    refine ls_ne (hD.on x35'.keep) l2 hoks hoks ((r1 _).le (by decide) (by decide)) ?_
                    refine wpAny_truthy_bool ?_
                    refine (if_neg (by simp)).mpr ?_
                    exact wpAny_execs_nil (wpAny_execs_nil (wpAny_execs_nil (wpAny_execs_nil (wpAny_execs_nil ⟨rfl, _, _, W34.on x35', hkz1⟩))))
        · obtain ⟨rfl, d', m', W', hkz'⟩ := h3
          dsimp only
          refine wpAny_execs_cons ?_
          refine wpAny_mono (Q := fun fl s' => fl = .next ∧ ∃ m'', W'.cl d' s' m'') ?_ (fun fl s4 h4 => ?_) fun _ _ e => e
          · refine wpAny_For ?_
            refine wpAny_Call_NameR (n_builtin B (by exact W'.o) rfl rfl rfl rfl (by k_is) rfl (by decide) ?_)
            refine PyProof.Rows.callWith_type1 (args_cons ?_)
            refine wpAny_Constant_int ?_
            refine args_nil ?_
            refine rng1 fun s4 rr tr ur vr hr x4 => ?_
            have W4 := W'.on ((Ext.tok (tk := _)).trans x4)
            refine iter_rng (n := 2) hr (by decide) fun s5 I3 hI3 x5 hnI3 => ?_
            have W5 := W4.on x5
            show codeAny _ _ _ _ _
            refine loop_rng0 (I := I3) (n := 2) (by exact r.h) (fun k s' => ∃ m'', W'.cl d' s' m'') ?_ ?_ ?_ hI3 ⟨_, W5⟩
            · rintro k s6 s7 ⟨m6, W6⟩ x7
              exact ⟨m6, W6.off2 x7 (fun b hb q => W4.foot_ne hnI3 b hb (by simpa using q)) (fun b hb => by simp at hb; rw [hb]; exact (W4.fresh hnI3).1) (fun b hb => by simp at hb; rw [hb]; exact (W4.fresh hnI3).2) (fun _ h => nomatch h)⟩
            · rintro k t s6 hk ⟨m6, W6⟩ E1
              refine wpAny_assign_Name ?_
              refine W6.store rfl rfl rfl (by decide) (by decide) (by show (Str.ofString "names") ≠ _; decide) fun s7 x7 W7 => ?_
              obtain ⟨m7, W7, hj7⟩ : ∃ m : Str → Option Value, W'.cl d' s7 m ∧ m "j" = some (.int (k : Nat) t) := ⟨_, W7, if_pos rfl⟩
              have Sk := W7.st k hk
              have hkk : (d'.is k).l.map (·.key) = d'.ro k := (W7.ks k hk).trans (hkz' k hk)
              have hlen : (d'.is k).l.length = (d'.ro k).length := by rw [← hkk, List.length_map]
              have hzr := W7.zr k hk
              have hoks : OkS (d'.ro k) := fun z hz => (W7.okr k hk z hz).ok
              refine wpAny_execs_cons (wpAny_If ?_)
              refine wpAny_isTrue_BoolOp ?_
              refine wpAny_allTrue_Or_cons ?_
              refine wpAny_isTrue_Compare1 ?_
              refine filt (h₀ := s.heap) (v := d'.as k) (vs := vals (d'.is k).l) (ss := d'.ro k) (fun _ => true) (r1 _).h (Nat.lt_trans (r1 default).d (by decide)) rfl (by decide) rfl (by decide) rfl W7.o (srcAt_set B Sk) (by rw [← hkk]; exact strs_vals _) (by omega) ?it5 (fun C s' m y t E' Q hy O' k hC hm hQ => wpAny_tests_nil (hQ _ Ext.refl)) fun D8 u8 s8 x8 hD8 hl8 hi8 => ?_
              case it5 =>
                refine W7.setN rfl rfl rfl rfl hj7 hk ?_
                exact ⟨rfl, rfl, Ext.refl⟩
              have hl8' : LS s8.heap D8 (d'.ro k) := ⟨_, hl8, by rw [List.filter_eq_self.mpr (fun _ _ => rfl)] at hi8; exact hi8⟩
              have W8 := W7.on x8
              refine W8.rowN rfl rfl rfl rfl hj7 hk ?_
              refine ls_ne hl8' (W8.rr k hk) hoks hoks ((r1 _).le (by decide) (by decide)) ?_
              refine wpAny_truthy_bool ?_
              refine (if_neg (by simp)).mpr ?_
              refine wpAny_allTrue_Or_cons ?_
              refine wpAny_isTrue_Compare1 ?_
              refine wpAny_Call_NameR (n_builtin B (by exact W8.o) rfl rfl rfl rfl (by k_is) rfl (by decide) ?_)
              refine callWith_builtin1 (args_cons ?_)
              refine W8.setN rfl rfl rfl rfl hj7 hk ?_
              refine args_nil ?_
              refine c_len B W8.o ((r1 _).le (by decide) (by decide)) (W8.st k hk) (by omega) fun s9 t9 x9 => ?_
              have W9 := W8.on x9
              refine wpAny_Call_NameR (n_builtin B (by exact W9.o) rfl rfl rfl rfl (by k_is) rfl (by decide) ?_)
              refine callWith_builtin1 (args_cons ?_)
              refine W9.rowN rfl rfl rfl rfl hj7 hk ?_
              refine args_nil ?_
              refine ls_len (W9.rr k hk) (by omega) fun s10 t10 x10 => ?_
              have W10 := W9.on x10
              refine ne_int ?_
              refine wpAny_truthy_bool ?_
              refine (if_neg (by rw [hlen]; simp)).mpr ?_
              refine wpAny_allTrue_Or_cons ?_
              refine wpAny_isTrue_Compare1 ?_
              refine wpAny_UnaryOp ?_
              refine W10.setN rfl rfl rfl rfl hj7 hk ?_
              refine not_value ?_
              refine t_set B W10.o ((r1 _).le (by decide) (by decide)) (W10.st k hk) (by omega) fun s11 x11 => ?_
              have W11 := W10.on x11
              refine wpAny_Compare1 ?_
              refine W11.rowN rfl rfl rfl rfl hj7 hk ?_
              refine nil_ls fun D12 s12 x12 hD12 l12 => ?_
              have W12 := W11.on x12
              refine ls_eq (W12.rr k hk) l12 hoks (fun _ h => nomatch h) ((r1 _).le (by decide) (by decide)) ?_
              refine ne_bool ?_
              refine wpAny_truthy_bool ?_
              refine (if_neg (by
                rw [hlen]
                cases d'.ro k <;> simp)).mpr ?_
              refine wpAny_allTrue_Or_nil ?_
              refine (if_neg (by decide)).mpr ?_
              have x712 : Ext [] [] s7 s12 := x8.trans (x9.trans (x10.trans (x11.trans x12)))
              refine wpAny_execs_nil (wpAny_execs_nil ⟨rfl, ⟨_, W12⟩, fun o e => ?_⟩)
              exact x712.keep _ o (x7.kp _ o (fun q => W4.foot_ne hnI3 _ (by rw [foot_mem]; exact .inl rfl) (by simp at q; exact q.symm)) e)
            · rintro s6 ⟨m6, W6⟩
              exact ⟨rfl, m6, W6⟩
          · obtain ⟨rfl, m4, W4⟩ := h4
            dsimp only
            exact wpAny_execs_nil ⟨rfl, _, _, W4, hkz'⟩
      · obtain ⟨rfl, d', m', W', hkz'⟩ := h3
        have hlp : ∃ o, st.heap.get? I2 = some o := al I2 (by simp)
        refine ⟨rfl, ⟨d', m', N + 1, W.back W', by simp at a1; omega, hkz', fun b hb => ?_, ?_, fun v hv => a5 v (.tail _ hv)⟩, ?_⟩
        · rcases W'.fr b hb with q | q
          · exact a3 b q
          · exact ⟨fun e => (by obtain ⟨o, ho⟩ := hlp; rw [← e, q] at ho; cases ho), fun e => (by obtain ⟨o, ho⟩ := a4; rw [← e, q] at ho; cases ho)⟩
        · obtain ⟨o, ho⟩ := a4
          exact ⟨o, W'.y.kp lp o (fun q => (a3 lp q).2 rfl) ho⟩
        · exact Agr2.of_ext W'.y Ot (fun b hb => W.f0 b hb) (fun b hb q => by
            simp at hb
            rcases hb with rfl | rfl
            · exact (a3 _ q).1 rfl
            · exact (a3 _ q).2 rfl) (fun _ h => nomatch h)
    · rintro s19 ⟨d, m, N, W, a1, a2, a3, a4, a5⟩ Ot
      dsimp only
      have hN : N ≤ 14 := by omega
      refine wpAny_execs_cons (wpAny_If ?_)
      refine wpAny_isTrue_BoolOp ?_
      refine wpAny_allTrue_Or_cons ?_
      refine wpAny_isTrue_Not ?_
      refine wpAny_isTrue_value ?_
      refine wpAny_Call_NameR (n_global B (by exact W.o) rfl rfl rfl (by k_is) ?_)
      refine callWith_K B.X (kp_whole w) ?_
      refine args_cons ?_
      have whole : ∀ {sx : Shared} {k : Nat} {E' : Value → Shared → Prop} {Q' : Value → Shared → Prop} {env' : Env} {a0 l0 n0 : Nat} {tq : Tok}, k < 2 → (Wx : W.cl d sx m) → a0 = d.as k → l0 = d.rs k → n0 = d.nm →
          (∀ s', W.cl d s' m → Q' (.bool true) s') → wpAny (model PR w) (A.deeper env') (call (.ref 145) [.ref a0, .ref l0, .ref n0, .int p tq]) Q' E' sx := by
        rintro sx k E' Q' env' _ _ _ tq hk Wx rfl rfl rfl hQ
        have hzr := Wx.zr k hk
        have hzn := Wx.zn
        exact wpAny_call (a_whole B Wx.o ((r1 _).le (by decide) (by decide)) (Wx.st k hk) (Wx.rr k hk) Wx.nn ((Wx.ks k hk).trans (a2 k hk)) (Wx.okr k hk) Wx.okn (by omega) (by omega) fun s' x => hQ s' (Wx.on x))
      have hnm : m "names" = some (.ref d.nm) := W.mn
      obtain ⟨tq, hcq⟩ := W.cp
      -- the first
      have W1 := W.on (Ext.tok (tk := s19.toks + 1))
      refine W.setC (k := 0) rfl rfl rfl (by decide) ?_
      refine args_cons ?_
      have W2 := W.on (Ext.tok (tk := s19.toks + 1 + 1))
      refine W1.rowC (k := 0) rfl rfl rfl (by decide) ?_
      refine args_cons ?_
      refine n_local rfl rfl W2.n hnm ?_
      refine args_cons ?_
      refine n_cell rfl rfl rfl (by exact hcq) ?_
      refine args_nil ⟨B.X.keeps W2.o, ?_⟩
      refine whole (k := 0) (by decide) W2 rfl rfl rfl fun s20 W20 => ?_
      refine wpAny_truthy_bool ?_
      refine (if_neg (by decide)).mpr ?_
      -- the second
      refine wpAny_allTrue_Or_cons ?_
      refine wpAny_isTrue_Not ?_
      refine wpAny_isTrue_value ?_
      refine wpAny_Call_NameR (n_global B (by exact W20.o) rfl rfl rfl (by k_is) ?_)
      refine callWith_K B.X (kp_whole w) ?_
      refine args_cons ?_
      obtain ⟨tr, hcr⟩ := W20.cp
      have W21 := W20.on (Ext.tok (tk := s20.toks + 1))
      refine W20.setC (k := 1) rfl rfl rfl (by decide) ?_
      refine args_cons ?_
      have W22 := W20.on (Ext.tok (tk := s20.toks + 1 + 1))
      refine W21.rowC (k := 1) rfl rfl rfl (by decide) ?_
      refine args_cons ?_
      refine n_local rfl rfl W22.n hnm ?_
      refine args_cons ?_
      refine n_cell rfl rfl rfl (by exact hcr) ?_
      refine args_nil ⟨B.X.keeps W22.o, ?_⟩
      refine whole (k := 1) (by decide) W22 rfl rfl rfl fun s23 W23 => ?_
      refine wpAny_truthy_bool ?_
      refine (if_neg (by decide)).mpr ?_
      refine wpAny_allTrue_Or_nil ?_
      refine (if_neg (by decide)).mpr (wpAny_execs_nil ?_)
      dsimp only
      -- the last line
      have ek : ∀ k, k < 2 → (d.is k).keys = d.ro k := fun k hk => (W.ks k hk).trans (a2 k hk)
      have ok : ∀ k, k < 2 → OkS (d.ro k) := fun k hk z hz => (W.okr k hk z hz).ok
      have okk : ∀ k, k < 2 → OkS (d.is k).keys := fun k hk => by rw [ek k hk]; exact ok k hk
      have hlz : ∀ k, k < 2 → (d.is k).l.length ≤ 900 := fun k hk => by
        have h1 := ek k hk
        have h2 : (d.is k).keys.length = (d.is k).l.length := by unfold SetI.keys; rw [List.length_map]
        rw [h1] at h2
        have := W.zr k hk
        omega
      refine wpAny_execs_cons (wpAny_Return_some ?_)
      refine wpAny_And2 ?_
      refine wpAny_Compare1 ?_
      refine wpAny_Compare1 ?_
      have W24 := W23.on (Ext.tok (tk := s23.toks + 1))
      refine W23.setC (k := 0) rfl rfl rfl (by decide) ?_
      have W25 := W23.on (Ext.tok (tk := s23.toks + 1 + 1))
      refine W24.setC (k := 1) rfl rfl rfl (by decide) ?_
      refine cmp_set B W25.o ((r1 _).le (by decide) (by decide)) (W25.st 0 (by decide)) (hlz 0 (by decide)) (W25.st 1 (by decide)) (hlz 1 (by decide)) (okk 0 (by decide)) (okk 1 (by decide)) fun s26 x26 => ?_
      have W26 := W25.on x26
      refine wpAny_Compare1 ?_
      have W27 := W26.on (Ext.tok (tk := s26.toks + 1))
      refine W26.rowC (k := 0) rfl rfl rfl (by decide) ?_
      have W28 := W26.on (Ext.tok (tk := s26.toks + 1 + 1))
      refine W27.rowC (k := 1) rfl rfl rfl (by decide) ?_
      refine ls_eq (W28.rr 0 (by decide)) (W28.rr 1 (by decide)) (ok 0 (by decide)) (ok 1 (by decide)) ((r1 _).le (by decide) (by decide)) ?_
      refine eq_bool ?_
      rw [ek 0 (by decide), ek 1 (by decide), beq_self_eq_true]
      refine wpAny_truthy_bool ?_
      refine (if_pos rfl).mpr ?_
      refine wpAny_Compare1 ?_
      refine wpAny_Compare1 ?_
      have W29 := W26.on (Ext.tok (tk := s26.toks + 1 + 1 + 1))
      refine W28.setC (k := 1) rfl rfl rfl (by decide) ?_
      have W30 := W26.on (Ext.tok (tk := s26.toks + 1 + 1 + 1 + 1))
      refine W29.setC (k := 0) rfl rfl rfl (by decide) ?_
      refine cmp_set B W30.o ((r1 _).le (by decide) (by decide)) (W30.st 1 (by decide)) (hlz 1 (by decide)) (W30.st 0 (by decide)) (hlz 0 (by decide)) (okk 1 (by decide)) (okk 0 (by decide)) fun s31 x31 => ?_
      have W31 := W30.on x31
      refine wpAny_Compare1 ?_
      have W32 := W31.on (Ext.tok (tk := s31.toks + 1))
      refine W31.rowC (k := 0) rfl rfl rfl (by decide) ?_
      have W33 := W31.on (Ext.tok (tk := s31.toks + 1 + 1))
      refine W32.rowC (k := 1) rfl rfl rfl (by decide) ?_
      refine ls_eq (W33.rr 0 (by decide)) (W33.rr 1 (by decide)) (ok 0 (by decide)) (ok 1 (by decide)) ((r1 _).le (by decide) (by decide)) ?_
      refine eq_bool ?_
      rw [ek 0 (by decide), ek 1 (by decide)]
      have e01 : (decide (d.ro 1 = d.ro 0) == decide (d.ro 0 = d.ro 1)) = true := by
        by_cases q : d.ro 0 = d.ro 1
        · rw [decide_eq_true q, decide_eq_true q.symm]; rfl
        · rw [decide_eq_false q, decide_eq_false (fun e => q e.symm)]; rfl
      rw [e01]
      exact ret _ W33.y
end
end Mine
set_option Elab.async false
set_option maxRecDepth 100000
set_option maxHeartbeats 8000000
namespace Mine
open PySem PySem.W PyProof.Rows PySem.Calls PySem.W.X PySem.Builtin
theorem filled31 : PySem.Challenge.rw_ay0038_01 = PySem.Challenge.rw_ay0038_01 ∧ hd.heap_39 = hd.heap_39 := by
  k_fill
  exact ⟨rfl, rfl⟩
theorem law_name (w : World) : nsIn (hd.heap_39 w.params) mainGlobals "law" = some (some (.ref 150)) := by k_is
end Mine
open PySem PySem.W PyProof.Rows PySem.Calls PySem.W.X PySem.Builtin
theorem PySem.Challenge.cw_ay0038_01_holds : PySem.Challenge.rw_ay0038_01.Holds := by
  refine Mine.hd ?_
  k_fill
  intro w s₀ s₁ mg mb G Y fa o pm cd doc dV kV ho hd' hcd hD hmg hg args vals as hpre hlay hrd hwl hlo
  have KX := kIn_of Y
  clear Y ho hd' hcd hD
  refine Ground.open G ?_
  intro T B D TE TW
  clear G B D TE TW
  have hfa := hmg.symm.trans (mg_of KX T.g (Mine.law_name w))
  clear hmg
  injection hfa with hfa
  injection hfa with hfa
  subst hfa
  wrow_args hpre hlay hrd hwl hlo
  refine enter_call ?_
  have hgb : AllBare s₁.gens := .of_eq hg
  rename_i ns _ _ _ _ _ _ sc vs _ hL _ _ _ hI _ hz _
  refine Mine.a_law ⟨KX, _, _, _, _, T⟩ ⟨rfl, by decide, by decide⟩ rfl hL hI (by omega) fun s' x => ?_
  refine ⟨.inl ⟨.bool true, .bool true, _, rfl, raisesW_false ?hn, ReadsW.bool _, ?hp, fun _ => ⟨.nil, fun _ h => nomatch h⟩⟩, .of_keep x.keep, by obtain ⟨_, _, _, e⟩ := x.ex; rw [e], x.gb hgb⟩
  case hn => wrow_none_raised
  case hp => wrow_post
