import PyProof.Rows.All
import Wide.All
import OpenK.AllK
import Wide.FinOn
import PySem.Challenge.RW_pg0171_01
open PySem PySem.W PyProof.Rows
set_option Elab.async false
set_option maxRecDepth 100000
set_option maxHeartbeats 8000000
set_option linter.unusedVariables false
set_option linter.unusedSimpArgs false
namespace Mine
open_top hd for PySem.Challenge.rw_pg0171_01
end Mine
open PySem PySem.W PyProof.Rows PySem.Calls PySem.Spec
namespace Mine
local macro_rules | `(tactic| walk_at $s:str) => `(tactic| k_extra $s)
section
noncomputable abbrev nA : Str := Str.ofString "a"
noncomputable abbrev nX : Str := Str.ofString "x"
noncomputable abbrev nLo : Str := Str.ofString "lo"
noncomputable abbrev nHi : Str := Str.ofString "hi"
noncomputable abbrev nKey : Str := Str.ofString "key"
theorem binds4 {K : Frag} {s : Shared} {fd : FuncData} {T D : Addr} {o : Obj} {n : Nat} {v1 v2 v3 v4 d1 d2 : Value}
    (X : K.In s.heap) (hd : fd.defaults = .ref T) (ho : K.lookup T = some o) (hs : o.data = .seq #[d1, d2] n) (hk : fd.kwdefaults = .ref D) (e : nsIn K D nKey = some (some .none))
    (h1 : fd.params.posonlyargs = []) (h2 : fd.params.args.map (·.arg) = [nA, nX, nLo, nHi]) (h3 : fd.params.kwonlyargs.map (·.arg) = [nKey]) (h4 : fd.params.vararg = none) (h5 : fd.params.kwarg = none) :
    BindsTo s fd ⟨[v1, v2, v3, v4], []⟩ [(nA, v1), (nX, v2), (nLo, v3), (nHi, v4), (nKey, .none)] := by
  intro M A E Q hq
  unfold bindArgs
  simp only [h1, h2, h3, h4, h5, hd, hk]
  refine wpAny_bind (wpAny_pure ?_)
  refine wpAny_bind (wpAny_seqItems (X _ _ ho) hs ?_)
  refine wpAny_bind (wpAny_pure ?_)
  refine wpAny_bind ?_
  refine wpAny_bind (wpAny_bind ?_)
  refine (looks_nsIn X e).here ?_
  exact wpAny_pure (wpAny_pure (wpAny_pure hq))
theorem binds2 {K : Frag} {s : Shared} {fd : FuncData} {T D : Addr} {o : Obj} {n : Nat} {v1 v2 d1 d2 : Value}
    (X : K.In s.heap) (hd : fd.defaults = .ref T) (ho : K.lookup T = some o) (hs : o.data = .seq #[d1, d2] n) (hk : fd.kwdefaults = .ref D) (e : nsIn K D nKey = some (some .none))
    (h1 : fd.params.posonlyargs = []) (h2 : fd.params.args.map (·.arg) = [nA, nX, nLo, nHi]) (h3 : fd.params.kwonlyargs.map (·.arg) = [nKey]) (h4 : fd.params.vararg = none) (h5 : fd.params.kwarg = none) :
    BindsTo s fd ⟨[v1, v2], []⟩ [(nA, v1), (nX, v2), (nLo, d1), (nHi, d2), (nKey, .none)] := by
  intro M A E Q hq
  unfold bindArgs
  simp only [h1, h2, h3, h4, h5, hd, hk]
  refine wpAny_bind (wpAny_pure ?_)
  refine wpAny_bind (wpAny_seqItems (X _ _ ho) hs ?_)
  refine wpAny_bind (wpAny_pure ?_)
  refine wpAny_bind ?_
  refine wpAny_bind (wpAny_bind ?_)
  refine (looks_nsIn X e).here ?_
  exact wpAny_pure (wpAny_pure (wpAny_pure hq))

noncomputable abbrev Spec (w : World) (mean : ExcName → Option Value) (mg mb : Str → Option Value) (f : Addr) (dN uN : Nat) (news : List (Addr × Obj)) (vs : List Value) (R : Heap → Addr → (Str → Option Value) → Shared → (Value → Shared → Prop) → Prop) : Prop :=
  ∀ (dp un : Nat) (gd : Option (List Code)) (cn : Str) (cs : Scope) (a : Addr) (ccd : Value) (cl : List (Str × Addr)) (outer : List Env) (A₀ : Around) (base h₀ : Heap) (L : Addr) (m : Str → Option Value) (s : Shared) (Q E : Value → Shared → Prop),
    Below A₀ base outer h₀ → Fr h₀ L s.heap m → (hd.heap_39 w.params).In h₀ → News h₀ L s.heap news → Top hd.view_39 (looseW hd.view_39 [Str.ofString "insort_right", Str.ofString "bisect_right"]) mean mg mb h₀ → cs.kind = .function →
    dp + dN < recursionLimit → un + uN < cLine → R h₀ L m s Q → wpAny (model PySem.Challenge.rw_pg0171_01.row.prog w) (ktrTop dp un gd cn cs L a ccd cl outer) (call (.ref f) vs) Q E s
noncomputable abbrev RetV (news : List (Addr × Obj)) (v : Tok → Value) : Heap → Addr → (Str → Option Value) → Shared → (Value → Shared → Prop) → Prop :=
  fun h₀ L m s Q => ∀ (t : Tok) (h' : Heap) (tk' : Nat), Fr h₀ L h' m → News h₀ L h' news → Q (v t) { s with heap := h', toks := tk' }
theorem retV {h₀ h' : Heap} {L : Addr} {m : Str → Option Value} {news : List (Addr × Obj)} {s : Shared} {Q : Value → Shared → Prop} {v : Tok → Value} {t : Tok} {tk' : Nat} {x : Value}
    (hret : RetV news v h₀ L m s Q) (F : Fr h₀ L h' m) (N : News h₀ L h' news) (e : x = v t) : Q x { s with heap := h', toks := tk' } := by
  subst e
  exact hret t h' tk' F N
theorem retI {h₀ h' : Heap} {L : Addr} {m : Str → Option Value} {news : List (Addr × Obj)} {s : Shared} {Q : Value → Shared → Prop} {i j : Int} {t : Tok} {tk' : Nat}
    (hret : RetV news (fun t => .int i t) h₀ L m s Q) (F : Fr h₀ L h' m) (N : News h₀ L h' news) (e : j = i) : Q (.int j t) { s with heap := h', toks := tk' } := by
  subst e
  exact hret t h' tk' F N
theorem len_mem {prog : Program} {w : World} {A : Around} {E : Value → Shared → Prop} {s : Shared} {h₀ : Heap} {L l : Addr} {news : List (Addr × Obj)} {vs : List Value} {xs : List Int} {n : Nat} {Q : Value → Shared → Prop}
    (N : News h₀ L s.heap news) (hm : (l, listOf vs.toArray n) ∈ news) (hi : IntsAre vs xs) (hlen : xs.length ≤ 100)
    (h : Q (.int xs.length (s.toks + 1)) { s with toks := s.toks + 1 + 1 }) : wpAny (model prog w) A (call (.builtin "len") [.ref l]) Q E s := by
  have e : vs.toArray.size = xs.length := by simp [hi.length]
  exact len_list (News.isList N hm) (by rw [e]; omega) (by rw [e]; exact h)
theorem updMem {d : Addr} {o o' : Obj} {l l' : List (Addr × Obj)} (U : Upd d o o' l l') : (d, o) ∈ l := by
  obtain ⟨pre, post, rfl, _, _, _⟩ := U.split
  exact List.mem_append_right _ (.head _)
end
section
theorem fdiv2 (a : Int) : a.fdiv 2 = a / 2 := Int.fdiv_eq_ediv_of_nonneg a (by decide)
noncomputable def BisR (xs : List Int) (x r : Int) : Prop := 0 ≤ r ∧ r ≤ xs.length ∧ (∀ i : Int, 0 ≤ i → i < r → xs.getD i.toNat 0 ≤ x) ∧ (∀ i : Int, r ≤ i → i < xs.length → x < xs.getD i.toNat 0)
theorem bis_hi {x r lo hi : Int} {xs : List Int} (hr : BisR xs x r) (f : x < xs.getD ((lo+hi).fdiv 2).toNat 0) (a: 0 ≤ lo) (b: lo ≤ r) (c : r ≤ hi) (d : hi ≤ xs.length) (e : lo < hi) :
    0 ≤ lo ∧ lo ≤ r ∧ r ≤ (lo+hi).fdiv 2 ∧ (lo+hi).fdiv 2 ≤ xs.length := by
  rw [fdiv2] at *
  obtain ⟨h0, h1, h2, h3⟩ := hr
  refine ⟨a, b, ?_, by omega⟩
  refine Int.not_lt.mp fun h => ?_
  have := h2 _ (by omega) h
  omega
theorem bis_lo {x r lo hi : Int} {xs : List Int} (hr : BisR xs x r) (f : ¬ x < xs.getD ((lo+hi).fdiv 2).toNat 0) (a: 0 ≤ lo) (b: lo ≤ r) (c : r ≤ hi) (d : hi ≤ xs.length) (e : lo < hi) :
    0 ≤ (lo+hi).fdiv 2 + 1 ∧ (lo+hi).fdiv 2 + 1 ≤ r ∧ r ≤ hi ∧ hi ≤ xs.length := by
  rw [fdiv2] at *
  obtain ⟨h0, h1, h2, h3⟩ := hr
  refine ⟨by omega, ?_, c, d⟩
  refine Int.not_lt.mp fun h => ?_
  have := h3 ((lo+hi)/2) (by omega) (by omega)
  omega
theorem bis_m1 {lo hi : Int} (e : lo < hi) : ((lo+hi).fdiv 2 - lo).toNat < (hi - lo).toNat := by rw [fdiv2]; omega
theorem bis_m2 {lo hi : Int} (e : lo < hi) : (hi - ((lo+hi).fdiv 2 + 1)).toNat < (hi - lo).toNat := by rw [fdiv2]; omega

local macro_rules | `(tactic| is_list) => `(tactic| exact News.isList (by k_asm) (by assumption))
theorem words_1 : True := by
  k_with_none
  k_with "call builtin:len" => (k_here; (with_reducible show wpAny _ _ (call (Value.builtin _) [Value.ref _]) _ _ _); refine len_mem (by k_asm) (by assumption) (by assumption) (by assumption) ?_)
  trivial
theorem bis_spec (w : World) (mean : ExcName → Option Value) (mg mb : Str → Option Value) (x : Int) (xs : List Int) (vs : List Value) (n : Nat) (l : Addr) (t1 t2 : Tok) (news : List (Addr × Obj)) 
    (hi : IntsAre vs xs) (hm : (l, listOf vs.toArray n) ∈ news) (hlen : xs.length ≤ 100) (r : Int) (hr : BisR xs x r) :
    Spec w mean mg mb 32 1 8 news [.ref l, .int x t1, .int 0 t2, .none] (RetV news (fun t => .int r t)) := by
  dsimp only [Spec]
  w_top off
  k_fill
  intros; rename_i hret
  refine wpAny_call ?_
  (refine' code_def ?k1 ?k2 ?k3 ?k4 ?k5 ?kA ?kF ?kK ?k6 ?k7 ?k8 ?k9 ?kB ?_ ?c2 ?c3 ?c4 ?c5; (case kA => exact rfl); (case kF => exact rfl); (case kK => assumption); (case k1 => k_asm); (case k2 => k_asm); (case k3 => k_asm); (case k4 => k_asm); (case k5 => k_asm); (case k6 => k_is); (case k7 => k_is); (case k8 => ktr_room); (case k9 => exact binds4 (D := 25) (by k_in) rfl (by k_is) rfl rfl (by k_is) rfl rfl rfl rfl rfl); (case c5 => decide); (case kB => exact locs rfl); (case c2 => exact rfl); (case c3 => exact rfl); (case c4 => exact rfl); k_whole; intro g' L' h' FG' F' N' B' X' T'; (try dsimp only); (try k_lift B'); (try k_fold))
  have hr0 := hr.1
  have hr1 := hr.2.1
  k_with "state" => first | exact bis_hi hr (by assumption) (by assumption) (by assumption) (by assumption) (by assumption) (by assumption) | exact bis_lo hr (by assumption) (by assumption) (by assumption) (by assumption) (by assumption) (by assumption) | exact ⟨by omega, hr0, hr1, by omega⟩
  k_with "measure" => first | exact bis_m1 (by assumption) | exact bis_m2 (by assumption)
  k_with "exec While Compare cons nil" => k_while (fun (xs : List Int) (lo hi : Int) => 0 ≤ lo ∧ lo ≤ r ∧ r ≤ hi ∧ hi ≤ xs.length) (fun (xs : List Int) (lo hi : Int) => (hi - lo).toNat) "lo" "hi"
  k_steps
  all_goals (refine retI hret (by k_asm) (by k_asm) ?_; omega)
theorem bis_spec2 (w : World) (mean : ExcName → Option Value) (mg mb : Str → Option Value) (x : Int) (xs : List Int) (vs : List Value) (n : Nat) (l : Addr) (t1 : Tok) (news : List (Addr × Obj)) 
    (hi : IntsAre vs xs) (hm : (l, listOf vs.toArray n) ∈ news) (hlen : xs.length ≤ 100) (r : Int) (hr : BisR xs x r) :
    Spec w mean mg mb 32 1 8 news [.ref l, .int x t1] (RetV news (fun t => .int r t)) := by
  dsimp only [Spec]
  w_top off
  k_fill
  intros; rename_i hret
  refine wpAny_call ?_
  (refine' code_def ?k1 ?k2 ?k3 ?k4 ?k5 ?kA ?kF ?kK ?k6 ?k7 ?k8 ?k9 ?kB ?_ ?c2 ?c3 ?c4 ?c5; (case kA => exact rfl); (case kF => exact rfl); (case kK => assumption); (case k1 => k_asm); (case k2 => k_asm); (case k3 => k_asm); (case k4 => k_asm); (case k5 => k_asm); (case k6 => k_is); (case k7 => k_is); (case k8 => ktr_room); (case k9 => exact binds2 (D := 25) (by k_in) rfl (by k_is) rfl rfl (by k_is) rfl rfl rfl rfl rfl); (case c5 => decide); (case kB => exact locs rfl); (case c2 => exact rfl); (case c3 => exact rfl); (case c4 => exact rfl); k_whole; intro g' L' h' FG' F' N' B' X' T'; (try dsimp only); (try k_lift B'); (try k_fold))
  have hr0 := hr.1
  have hr1 := hr.2.1
  k_with "state" => first | exact bis_hi hr (by assumption) (by assumption) (by assumption) (by assumption) (by assumption) (by assumption) | exact bis_lo hr (by assumption) (by assumption) (by assumption) (by assumption) (by assumption) (by assumption) | exact ⟨by omega, hr0, hr1, by omega⟩
  k_with "measure" => first | exact bis_m1 (by assumption) | exact bis_m2 (by assumption)
  k_with "exec While Compare cons nil" => k_while (fun (xs : List Int) (lo hi : Int) => 0 ≤ lo ∧ lo ≤ r ∧ r ≤ hi ∧ hi ≤ xs.length) (fun (xs : List Int) (lo hi : Int) => (hi - lo).toNat) "lo" "hi"
  k_steps
  all_goals (refine retI hret (by k_asm) (by k_asm) ?_; omega)
end
section
theorem words_2 : True := by
  k_with_none
  k_with "call ref" => (k_here; k_dflt (refine' bis_spec _ _ _ _ _ _ _ _ _ _ _ _ ‹IntsAre _ _› ?q2hW ‹_ ≤ 100› _ ‹BisR _ _ _› _ _ _ _ _ _ _ _ _ _ _ _ _ _ _ _ _ ?k1hW ?k2hW ?k3hW ?k4hW ?k5hW ?kKhW ?kdhW ?kuhW ?_; (case k1hW => k_asm); (case k2hW => k_asm); (case k3hW => k_asm); (case k4hW => k_asm); (case k5hW => k_asm); (case kKhW => first | exact rfl | assumption); (case kdhW => ktr_room); (case kuhW => ktr_units); (case q2hW => assumption); intro t9W h9W tk9W F9W N9W; (try dsimp only); (try k_fold)))
  trivial
theorem fits_of {r : Int} (h0 : 0 ≤ r) (h1 : r ≤ 1000) : Builtin.List.listFitsIndex r = true := by
  unfold Builtin.List.listFitsIndex; simp; omega
theorem words_3 : True := by
  k_with_none
  k_with "call ref" => (k_here; k_dflt (refine' bis_spec _ _ _ _ _ _ _ _ _ _ _ _ ‹IntsAre _ _› ?q2hW ‹_ ≤ 100› _ ‹BisR _ _ _› _ _ _ _ _ _ _ _ _ _ _ _ _ _ _ _ _ ?k1hW ?k2hW ?k3hW ?k4hW ?k5hW ?kKhW ?kdhW ?kuhW ?_; (case k1hW => k_asm); (case k2hW => k_asm); (case k3hW => k_asm); (case k4hW => k_asm); (case k5hW => k_asm); (case kKhW => first | exact rfl | assumption); (case kdhW => ktr_room); (case kuhW => ktr_units); (case q2hW => assumption); intro t9W h9W tk9W F9W N9W; (try dsimp only); (try k_fold)))
  k_with "call builtin:list.insert" => (k_here; (with_reducible show wpAny _ _ (call (Value.builtin _) [Value.ref _, Value.int _ _, _]) _ _ _); k_dflt (refine' kl_insert ?FhW ?NhW ?fhW rfl ‹Upd _ _ _ _ _› ?zhW ?_; (case FhW => k_asm); (case NhW => k_asm); (case fhW => exact fits_of (by omega) (by omega)); (case zhW => simp only [sizeLine_eq]; omega)); intro hxW FxW NxW; (try k_sweep))
  trivial
theorem insort_spec (w : World) (mean : ExcName → Option Value) (mg mb : Str → Option Value) (x : Int) (xs : List Int) (vs : List Value) (n : Nat) (l : Addr) (t1 : Tok) (news news' : List (Addr × Obj)) 
    (hi : IntsAre vs xs) (hlen : xs.length ≤ 100) (r : Int) (hr : BisR xs x r) (U : Upd l (listOf vs.toArray n) (listOf (kl_ins vs r (.int x t1)).toArray (n + 1)) news news') :
    Spec w mean mg mb 23 2 16 news [.ref l, .int x t1] (fun h₀ L m s Q => ∀ (h' : Heap) (tk' : Nat), Fr h₀ L h' m → News h₀ L h' news' → Q .none { s with heap := h', toks := tk' }) := by
  dsimp only [Spec]
  w_top off
  k_fill
  intros; rename_i hret
  have hm := updMem U
  have hr0 := hr.1
  have hr1 := hr.2.1
  have hl0 := hi.length
  refine wpAny_call ?_
  (refine' code_def ?k1 ?k2 ?k3 ?k4 ?k5 ?kA ?kF ?kK ?k6 ?k7 ?k8 ?k9 ?kB ?_ ?c2 ?c3 ?c4 ?c5; (case kA => exact rfl); (case kF => exact rfl); (case kK => assumption); (case k1 => k_asm); (case k2 => k_asm); (case k3 => k_asm); (case k4 => k_asm); (case k5 => k_asm); (case k6 => k_is); (case k7 => k_is); (case k8 => ktr_room); (case k9 => exact binds2 (D := 16) (by k_in) rfl (by k_is) rfl rfl (by k_is) rfl rfl rfl rfl rfl); (case c5 => decide); (case kB => exact locs rfl); (case c2 => exact rfl); (case c3 => exact rfl); (case c4 => exact rfl); k_whole; intro g' L' h' FG' F' N' B' X' T'; (try dsimp only); (try k_lift B'); (try k_fold))
  k_steps
  all_goals exact hret _ _ (by k_asm) (by k_asm)
end
section
theorem words_4 : True := by
  k_with_none
  trivial
example (w : World) (h : Heap) (X : (hd.heap_39 w.params).In h) : (hd.heap_39 w.params).In h ∧ PySem.Challenge.rw_pg0171_01.row.prog = PySem.Challenge.rw_pg0171_01.row.prog := by
  w_top off
  k_fill
  exact ⟨X, rfl⟩
theorem nf_len (w : World) : nsIn (hd.heap_39 w.params) mainGlobals (Str.ofString "len") = some none := by k_is
theorem nb_len : bootBuiltins (Str.ofString "len") = some (.builtin "len") := by boot_by_name
theorem nf_range (w : World) : nsIn (hd.heap_39 w.params) mainGlobals (Str.ofString "range") = some none := by k_is
theorem nb_range : bootBuiltins (Str.ofString "range") = some (.type "range") := by boot_by_name
theorem nf_list (w : World) : nsIn (hd.heap_39 w.params) mainGlobals (Str.ofString "list") = some none := by k_is
theorem nb_list : bootBuiltins (Str.ofString "list") = some (.type "list") := by boot_by_name
theorem nf_min (w : World) : nsIn (hd.heap_39 w.params) mainGlobals (Str.ofString "min") = some none := by k_is
theorem nb_min : bootBuiltins (Str.ofString "min") = some (.builtin "min") := by boot_by_name
theorem nf_max (w : World) : nsIn (hd.heap_39 w.params) mainGlobals (Str.ofString "max") = some none := by k_is
theorem nb_max : bootBuiltins (Str.ofString "max") = some (.builtin "max") := by boot_by_name
theorem nf_round (w : World) : nsIn (hd.heap_39 w.params) mainGlobals (Str.ofString "round") = some none := by k_is
theorem nb_round : bootBuiltins (Str.ofString "round") = some (.builtin "round") := by boot_by_name
theorem nf_abs (w : World) : nsIn (hd.heap_39 w.params) mainGlobals (Str.ofString "abs") = some none := by k_is
theorem nb_abs : bootBuiltins (Str.ofString "abs") = some (.builtin "abs") := by boot_by_name
theorem nf_sum (w : World) : nsIn (hd.heap_39 w.params) mainGlobals (Str.ofString "sum") = some none := by k_is
theorem nb_sum : bootBuiltins (Str.ofString "sum") = some (.builtin "sum") := by boot_by_name
theorem nf_MOVECOST (w : World) : nsIn (hd.heap_39 w.params) mainGlobals (Str.ofString "_MOVE_COST") = some (some (.int 2 259)) := by k_is
theorem nf_MAXSTRINGSIZE (w : World) : nsIn (hd.heap_39 w.params) mainGlobals (Str.ofString "_MAX_STRING_SIZE") = some (some (.int 40 257)) := by k_is
theorem nf_CASECOST (w : World) : nsIn (hd.heap_39 w.params) mainGlobals (Str.ofString "_CASE_COST") = some (some (.int 1 261)) := by k_is
theorem nf_substitutioncost (w : World) : nsIn (hd.heap_39 w.params) mainGlobals (Str.ofString "_substitution_cost") = some (some (.ref 53)) := by k_is
theorem nf_levenshteindistance (w : World) : nsIn (hd.heap_39 w.params) mainGlobals (Str.ofString "_levenshtein_distance") = some (some (.ref 60)) := by k_is
theorem nf_lawtold (w : World) : nsIn (hd.heap_39 w.params) mainGlobals (Str.ofString "_law_told") = some (some (.ref 65)) := by k_is
theorem nf_lawleast (w : World) : nsIn (hd.heap_39 w.params) mainGlobals (Str.ofString "_law_least") = some (some (.ref 70)) := by k_is
theorem nf_rgbtohls (w : World) : nsIn (hd.heap_39 w.params) mainGlobals (Str.ofString "rgb_to_hls") = some (some (.ref 39)) := by k_is
theorem nf_rgbtohsv (w : World) : nsIn (hd.heap_39 w.params) mainGlobals (Str.ofString "rgb_to_hsv") = some (some (.ref 46)) := by k_is
theorem nf_insortright (w : World) : nsIn (hd.heap_39 w.params) mainGlobals (Str.ofString "insort_right") = some (some (.ref 23)) := by k_is
theorem nf_bisectright (w : World) : nsIn (hd.heap_39 w.params) mainGlobals (Str.ofString "bisect_right") = some (some (.ref 32)) := by k_is
theorem ite_posI {c : Prop} {d : Decidable c} {a b : Prop} (hc : c) (h : a) : @ite Prop c d a b := by rw [if_pos hc]; exact h
theorem ite_negI {c : Prop} {d : Decidable c} {a b : Prop} (hc : ¬ c) (h : b) : @ite Prop c d a b := by rw [if_neg hc]; exact h
section
variable {M : Model} {A : Around} {E : Value → Shared → Prop} {s : Shared} {w : World} {h₀ : Heap} {L a : Addr} {m mg mb : Str → Option Value} {cn : Str} {cs : Scope} {ccd : Value} {cl : List (Str × Addr)} {p : Program} {loose : List Str} {pos : Pos} {Q : Value → Shared → Prop}
theorem nmX_len (F : Fr h₀ L s.heap m) (X : (hd.heap_39 w.params).In h₀) (T : TopRead p loose mg mb h₀) (hx : (cs.names.lookup (Str.ofString "len") == some NameKind.globalImplicit) = true) (hk : cs.kind = .function) (h : Q (.builtin "len") s) : wpAny M A (eval (.Name (Str.ofString "len") pos) (envX cn cs L a ccd cl)) Q E s :=
  nameX_B F X T (nf_len w) nb_len (by decide) h hk (beq_iff_eq.mp hx) (by decide)
theorem nmX_range (F : Fr h₀ L s.heap m) (X : (hd.heap_39 w.params).In h₀) (T : TopRead p loose mg mb h₀) (hx : (cs.names.lookup (Str.ofString "range") == some NameKind.globalImplicit) = true) (hk : cs.kind = .function) (h : Q (.type "range") s) : wpAny M A (eval (.Name (Str.ofString "range") pos) (envX cn cs L a ccd cl)) Q E s :=
  nameX_B F X T (nf_range w) nb_range (by decide) h hk (beq_iff_eq.mp hx) (by decide)
theorem nmO_min (F : Fr h₀ L s.heap m) (X : (hd.heap_39 w.params).In h₀) (T : TopRead p loose mg mb h₀) (hx : (cs.names.lookup (Str.ofString "min") == some NameKind.globalImplicit) = true) (hk : cs.kind = .function) (h : Q (.builtin "min") s) : wpAny M A (eval (.Name (Str.ofString "min") pos) (envOf cn cs L a ccd)) Q E s :=
  name_B F X T (nf_min w) nb_min (by decide) h hk (beq_iff_eq.mp hx) (by decide)
theorem nmX_min (F : Fr h₀ L s.heap m) (X : (hd.heap_39 w.params).In h₀) (T : TopRead p loose mg mb h₀) (hx : (cs.names.lookup (Str.ofString "min") == some NameKind.globalImplicit) = true) (hk : cs.kind = .function) (h : Q (.builtin "min") s) : wpAny M A (eval (.Name (Str.ofString "min") pos) (envX cn cs L a ccd cl)) Q E s :=
  nameX_B F X T (nf_min w) nb_min (by decide) h hk (beq_iff_eq.mp hx) (by decide)
theorem nmX_round (F : Fr h₀ L s.heap m) (X : (hd.heap_39 w.params).In h₀) (T : TopRead p loose mg mb h₀) (hx : (cs.names.lookup (Str.ofString "round") == some NameKind.globalImplicit) = true) (hk : cs.kind = .function) (h : Q (.builtin "round") s) : wpAny M A (eval (.Name (Str.ofString "round") pos) (envX cn cs L a ccd cl)) Q E s :=
  nameX_B F X T (nf_round w) nb_round (by decide) h hk (beq_iff_eq.mp hx) (by decide)
theorem nmX_sum (F : Fr h₀ L s.heap m) (X : (hd.heap_39 w.params).In h₀) (T : TopRead p loose mg mb h₀) (hx : (cs.names.lookup (Str.ofString "sum") == some NameKind.globalImplicit) = true) (hk : cs.kind = .function) (h : Q (.builtin "sum") s) : wpAny M A (eval (.Name (Str.ofString "sum") pos) (envX cn cs L a ccd cl)) Q E s :=
  nameX_B F X T (nf_sum w) nb_sum (by decide) h hk (beq_iff_eq.mp hx) (by decide)
theorem nmO_MOVECOST (F : Fr h₀ L s.heap m) (X : (hd.heap_39 w.params).In h₀) (T : TopRead p loose mg mb h₀) (hx : (cs.names.lookup (Str.ofString "_MOVE_COST") == some NameKind.globalImplicit) = true) (hk : cs.kind = .function) (h : Q (.int 2 259) s) : wpAny M A (eval (.Name (Str.ofString "_MOVE_COST") pos) (envOf cn cs L a ccd)) Q E s :=
  name_K F X T (nf_MOVECOST w) h hk (beq_iff_eq.mp hx) (by decide)
theorem nmO_substitutioncost (F : Fr h₀ L s.heap m) (X : (hd.heap_39 w.params).In h₀) (T : TopRead p loose mg mb h₀) (hx : (cs.names.lookup (Str.ofString "_substitution_cost") == some NameKind.globalImplicit) = true) (hk : cs.kind = .function) (h : Q (.ref 53) s) : wpAny M A (eval (.Name (Str.ofString "_substitution_cost") pos) (envOf cn cs L a ccd)) Q E s :=
  name_K F X T (nf_substitutioncost w) h hk (beq_iff_eq.mp hx) (by decide)
theorem nmX_lawleast (F : Fr h₀ L s.heap m) (X : (hd.heap_39 w.params).In h₀) (T : TopRead p loose mg mb h₀) (hx : (cs.names.lookup (Str.ofString "_law_least") == some NameKind.globalImplicit) = true) (hk : cs.kind = .function) (h : Q (.ref 70) s) : wpAny M A (eval (.Name (Str.ofString "_law_least") pos) (envX cn cs L a ccd cl)) Q E s :=
  nameX_K F X T (nf_lawleast w) h hk (beq_iff_eq.mp hx) (by decide)
theorem nmX_rgbtohls (F : Fr h₀ L s.heap m) (X : (hd.heap_39 w.params).In h₀) (T : TopRead p loose mg mb h₀) (hx : (cs.names.lookup (Str.ofString "rgb_to_hls") == some NameKind.globalImplicit) = true) (hk : cs.kind = .function) (h : Q (.ref 39) s) : wpAny M A (eval (.Name (Str.ofString "rgb_to_hls") pos) (envX cn cs L a ccd cl)) Q E s :=
  nameX_K F X T (nf_rgbtohls w) h hk (beq_iff_eq.mp hx) (by decide)
theorem nmX_rgbtohsv (F : Fr h₀ L s.heap m) (X : (hd.heap_39 w.params).In h₀) (T : TopRead p loose mg mb h₀) (hx : (cs.names.lookup (Str.ofString "rgb_to_hsv") == some NameKind.globalImplicit) = true) (hk : cs.kind = .function) (h : Q (.ref 46) s) : wpAny M A (eval (.Name (Str.ofString "rgb_to_hsv") pos) (envX cn cs L a ccd cl)) Q E s :=
  nameX_K F X T (nf_rgbtohsv w) h hk (beq_iff_eq.mp hx) (by decide)
theorem nmX_insortright (F : Fr h₀ L s.heap m) (X : (hd.heap_39 w.params).In h₀) (T : TopRead p loose mg mb h₀) (hx : (cs.names.lookup (Str.ofString "insort_right") == some NameKind.globalImplicit) = true) (hk : cs.kind = .function) (h : Q (.ref 23) s) : wpAny M A (eval (.Name (Str.ofString "insort_right") pos) (envX cn cs L a ccd cl)) Q E s :=
  nameX_K F X T (nf_insortright w) h hk (beq_iff_eq.mp hx) (by decide)
theorem nmX_bisectright (F : Fr h₀ L s.heap m) (X : (hd.heap_39 w.params).In h₀) (T : TopRead p loose mg mb h₀) (hx : (cs.names.lookup (Str.ofString "bisect_right") == some NameKind.globalImplicit) = true) (hk : cs.kind = .function) (h : Q (.ref 32) s) : wpAny M A (eval (.Name (Str.ofString "bisect_right") pos) (envX cn cs L a ccd cl)) Q E s :=
  nameX_K F X T (nf_bisectright w) h hk (beq_iff_eq.mp hx) (by decide)
end
end
section
section
variable {M : Model} {A : Around} {E : Value → Shared → Prop} {s : Shared} {name : Str} {scope : Scope} {L a : Addr} {cd : Value} {h₀ : Heap} {m : Str → Option Value} {news : List (Addr × Obj)}
theorem genT {α : Type} {t : Sem α} {Q : α → Shared → Prop} {h : Heap} {g : Array GenState} {d : Drawn} {X : Nat} {os : _} (H : ∀ tk, wpAny M A t Q E ⟨h, g, d, tk, os⟩) : wpAny M A t Q E ⟨h, g, d, X, os⟩ := H X
theorem stG {x : Str} {v : Value} {Q : Unit → Shared → Prop} (F : Fr h₀ L s.heap m) (N : News h₀ L s.heap news)
    (h : ∀ h' tk, Fr h₀ L h' (fun y => if y = x then some v else m y) → News h₀ L h' news → Q () { s with heap := h', toks := tk })
    (hk : scope.kind = .function) (hl : (envOf name scope L a cd).kindOf x = some .local) :
    wpAny M A (storeName (envOf name scope L a cd) x v) Q E s := stN F N (fun h' a b => h h' _ a b) hk hl
end
section
variable {prog : Program} {w : World} {A : Around} {E : Value → Shared → Prop} {s : Shared} {Q : Value → Shared → Prop} {i j k : Int} {t u : Tok}
theorem r_add (e : i + j = k) (h : Q (.int k s.toks) { s with toks := s.toks + 1 }) : wpAny (model prog w) A (binaryOp .Add (.int i t) (.int j u)) Q E s := by subst e; exact add_int h
theorem r_sub (e : i - j = k) (h : Q (.int k s.toks) { s with toks := s.toks + 1 }) : wpAny (model prog w) A (binaryOp .Sub (.int i t) (.int j u)) Q E s := by subst e; exact sub_int h
theorem r_mul (e : i * j = k) (hm : IntMulOk i j) (h : Q (.int k s.toks) { s with toks := s.toks + 1 }) : wpAny (model prog w) A (binaryOp .Mult (.int i t) (.int j u)) Q E s := by subst e; exact mul_int h hm
theorem r_iadd (e : i + j = k) (h : Q (.int k s.toks) { s with toks := s.toks + 1 }) : wpAny (model prog w) A (inplaceOp .Add (.int i t) (.int j u)) Q E s := by subst e; exact iadd_int h
theorem r_isub (e : i - j = k) (h : Q (.int k s.toks) { s with toks := s.toks + 1 }) : wpAny (model prog w) A (inplaceOp .Sub (.int i t) (.int j u)) Q E s := by subst e; exact isub_int h
end
theorem allLt_ne {D : Addr} : ∀ {news : List (Addr × Obj)}, AllLt D news → ∀ p ∈ news, p.1 ≠ D
  | [], _ => fun _ h => nomatch h
  | q :: r, h => fun p hp => by
    rcases List.mem_cons.mp hp with rfl | hp
    · exact Nat.ne_of_lt h.1
    · exact allLt_ne h.2 p hp
section
variable {prog : Program} {w : World} {A A₀ : Around} {s : Shared} {K : Frag} {L : Addr} {h₀ base : Heap} {m mg mb : Str → Option Value} {news : List (Addr × Obj)} {p : Program} {loose : List Str} {mean : ExcName → Option Value}
theorem code_defP {env : Env} {outer : List Env} {R : Result → Shared → Prop} {name qual : Str} {params : Arguments} {body : List Stmt} {scope : Scope} {dV kV doc pm cdv ct oc : Value} {an od : Option Addr} {osl : Array (Option Value)} {f : Addr} {args : Args} {binds : List (Str × Value)}
    (B : Below A₀ base outer h₀) (F : Fr h₀ L s.heap m) (X₀ : K.In h₀) (N : News h₀ L s.heap news) (T : Top p loose mean mg mb h₀) (hA : A.frames = some (env :: outer)) (hf : env.frame = some L) (hke : env.scope.kind = .function)
    (ho : K.lookup f = some ⟨oc, od, .func (fnOf name qual params body scope dV kV doc pm an cdv ct), osl⟩) (hcd : codeIn K cdv qual = true) (hroom : A.depth < recursionLimit)
    (hbind : BindsTo s (fnOf name qual params body scope dV kV doc pm an cdv ct) args binds) (hloc : ∀ y ∈ binds, scope.names.lookup y.1 = some .local)
    (h : ∀ g L' h₁, Fr h₀ L g m → (∀ q ∈ news, g.get? q.1 = some q.2) → (∀ q ∈ news, q.1 < L') → Fr g L' h₁ (fun y => binds.reverse.lookup y) → News g L' h₁ [] → Below A base (env :: outer) g → K.In g → Top p loose mean mg mb g →
      wpAny (model prog w) (A.deeper (envOf qual scope L' f cdv)) (execs body (envOf qual scope L' f cdv))
        (fun fl s' => LeaveK h₀ L m g R (match fl with | .ret v => v | _ => .none) s')
        (fun e s' => wpAny (model prog w) (A.deeper (envOf qual scope L' f cdv)) (leaving (envOf qual scope L' f cdv) e) (fun _ s'' => R (.error e) s'') (fun e' s'' => R (.error e') s'') s')
        { s with heap := h₁, toks := s.toks + binds.length })
    (hco : scope.isCoroutine = false) (hgen : scope.isGenerator = false) (hk : scope.kind = .function)
    (hcell : ∀ x ∈ scope.names, x.2 ≠ .cell) : codeAny (model prog w) A (.call (.ref f) args) R s := by
  have N0 : News h₀ L s.heap [] := News.nil
  obtain ⟨FG, BG, st, lv⟩ := groundX (R := R) B F N0 hA hf hke
  refine codeAny_call_def (fd := fnOf name qual params body scope dV kV doc pm an cdv ct) (body := body) (binds := binds) hroom ((X₀.keeps F.keep) _ _ ho) rfl (T.nolimit.keeps F.keep) (codeRec_of (X₀.keeps F.keep) hcd) rfl hbind hcell hloc (fun h₁ hns hk₁ => ?_) hco hgen hk
  refine wpAny_mono (h s.heap s.heap.objs.size h₁ FG (fun q hq => (N q hq).1) (fun q hq => Heap.lt_size (N q hq).1) ⟨hns, hk₁, Nat.le_refl _⟩ News.nil BG (X₀.keeps F.keep) (T.keeps F.keep)) (fun fl s' hl => lv _ _ hl) fun _ _ y => y
theorem code_defPC {env : Env} {outer : List Env} {R : Result → Shared → Prop} {name qual : Str} {params : Arguments} {body : List Stmt} {scope : Scope} {dV kV doc pm cdv ct oc : Value} {an od : Option Addr} {osl : Array (Option Value)} {f : Addr} {args : Args} {binds : List (Str × Value)}
    (B : Below A₀ base outer h₀) (F : Fr h₀ L s.heap m) (X₀ : K.In h₀) (N : News h₀ L s.heap news) (T : Top p loose mean mg mb h₀) (hA : A.frames = some (env :: outer)) (hf : env.frame = some L) (hke : env.scope.kind = .function)
    (ho : K.lookup f = some ⟨oc, od, .func (fnOf name qual params body scope dV kV doc pm an cdv ct), osl⟩) (hcd : codeIn K cdv qual = true) (hroom : A.depth < recursionLimit)
    (hbind : BindsTo s (fnOf name qual params body scope dV kV doc pm an cdv ct) args binds) (hkind : (binds.all fun y => scope.names.lookup y.1 == some .local || scope.names.lookup y.1 == some .cell) = true)
    (hnd : ((cellsFrom 0 scope.names []).map (·.1)).Nodup)
    (h : ∀ g L' h₁ tk cells, Fr h₀ L g m → (∀ q ∈ news, g.get? q.1 = some q.2) → (∀ q ∈ news, q.1 < L') → Fr g L' h₁ (bindL (envOfC qual scope L' f cdv).kindOf binds fun _ => none) → News g L' h₁ cells →
      CellsAre (bindC (envOfC qual scope L' f cdv).kindOf binds fun _ => none) (cellsFrom (L' + 1) scope.names []) cells → Below A base (env :: outer) g → K.In g → Top p loose mean mg mb g →
      wpAny (model prog w) (A.deeper (envOfC qual scope L' f cdv)) (execs body (envOfC qual scope L' f cdv))
        (fun fl s' => LeaveK h₀ L m g R (match fl with | .ret v => v | _ => .none) s')
        (fun e s' => wpAny (model prog w) (A.deeper (envOfC qual scope L' f cdv)) (leaving (envOfC qual scope L' f cdv) e) (fun _ s'' => R (.error e) s'') (fun e' s'' => R (.error e') s'') s')
        { s with heap := h₁, toks := tk })
    (hco : scope.isCoroutine = false) (hgen : scope.isGenerator = false) (hk : scope.kind = .function) : codeAny (model prog w) A (.call (.ref f) args) R s := by
  have N0 : News h₀ L s.heap [] := News.nil
  obtain ⟨FG, BG, st, lv⟩ := groundX (R := R) B F N0 hA hf hke
  refine codeAny_call_function hroom ((X₀.keeps F.keep) _ _ ho) rfl hco hgen rfl (codeRec_of (X₀.keeps F.keep) hcd) (hbind _ _ _ _ ?_)
  refine wpAny_newFunctionEnv_cells hk (kindsX hkind _) fun env' he s' x => ?_
  subst he
  refine ⟨((T.nolimit.keeps F.keep).keeps x.toInCall.keep), codeAny_func ?_⟩
  obtain ⟨h₁, tk, rfl, _⟩ := x.done
  have hk₁ := x.toInCall.keep
  obtain ⟨cells, NC, Y⟩ := Cl.news (h₀ := s.heap) (Nat.le_refl _) fun n c hm => ⟨x.cell n c (lookup_of_mem_nodup (cellsFrom_names scope.names 0 (s.heap.objs.size + 1) [] [] rfl ▸ hnd) hm), x.above n c hm⟩
  exact wpAny_mono (h s.heap s.heap.objs.size h₁ tk cells FG (fun q hq => (N q hq).1) (fun q hq => Heap.lt_size (N q hq).1) ⟨x.toInCall.ns, hk₁, Nat.le_refl _⟩ NC Y BG (X₀.keeps F.keep) (T.keeps F.keep)) (fun fl s' hl => lv _ _ hl) fun _ _ y => y
theorem keepNews {g h' : Heap} {L' : Addr} {m' : Str → Option Value} (F' : Fr g L' h' m') (hg : ∀ q ∈ news, g.get? q.1 = some q.2) (hn : ∀ q ∈ news, q.1 ≠ L ∧ h₀.get? q.1 = none) : News h₀ L h' news :=
  fun q hq => ⟨F'.keep _ _ (hg q hq), hn q hq⟩
end
end
section
section
variable {prog : Program} {w : World} {A : Around} {E : Value → Shared → Prop} {s : Shared}
theorem max3_num {a b c : Value} {Q : Value → Shared → Prop} (hh : A.handled = none) (ha : Flt.NumV a) (hb : Flt.NumV b) (hc : Flt.NumV c)
    (h : ∀ h' tk, (∀ d o, s.heap.get? d = some o → h'.get? d = some o) → Q (if Flt.ltV a b then (if Flt.ltV b c then c else b) else (if Flt.ltV a c then c else a)) { s with heap := h', toks := tk }) :
    wpAny (model prog w) A (call (.builtin "max") [a, b, c]) Q E s := by
  have hT : (s.heap.push { cls := .type "tuple", data := .seq #[a, b, c] }).IsTuple s.heap.objs.size #[a, b, c] := ⟨_, Heap.get?_push_size _ rfl, rfl, 0, rfl⟩
  refine call_max_three (wpAny_pyIter_tuple hT ?_)
  have hsz : (s.heap.push { cls := .type "tuple", data := .seq #[a, b, c] }).objs.size = s.heap.objs.size + 1 := Heap.size_push ..
  refine ⟨_, [_, s.heap.objs.size], [_], _, _, _, _, rfl, Walks.tuple (A := A.in1) hh _ s.heap.objs.size (by rw [hsz]; exact Nat.ne_of_lt (Nat.lt_succ_self _)) #[a, b, c],
    ⟨⟨_, Heap.get?_push_size _ rfl, rfl, rfl⟩, hT.push _⟩, fun d hd => ?_, by simp, Flt.cmpOf_gt #[a, b, c] (by simp [ha, hb, hc]), fun v h' tk hP hk => ?_⟩
  · show d < ((s.heap.push _).push _).objs.size
    rw [Heap.size_push, hsz]
    rcases List.mem_cons.mp hd with rfl | hd
    · rw [hsz]; exact Nat.lt_succ_self _
    · rcases List.mem_cons.mp hd with rfl | hd
      · exact Nat.lt_succ_of_lt (Nat.lt_succ_self _)
      · cases hd
  · have hold : ∀ d o, s.heap.get? d = some o → h'.get? d = some o := fun d o e => by
      refine hk d o (fun hm => ?_) (Heap.get?_push_of_some _ (Heap.get?_push_of_some _ e))
      rcases List.mem_cons.mp hm with e1 | hm
      · have := Heap.lt_size e; rw [e1, hsz] at this; exact Nat.lt_irrefl _ (Nat.lt_of_succ_lt this)
      · cases hm
    have := h h' tk hold
    have hv : v = if Flt.ltV a b then (if Flt.ltV b c then c else b) else (if Flt.ltV a c then c else a) := by
      have hP' : (#[a, b, c] : Array Value)[argBest (fun i j => Flt.ltV (#[a, b, c].getD j .none) (#[a, b, c].getD i .none)) 2]? = some v := hP
      cases q1 : Flt.ltV a b <;> cases q2 : Flt.ltV b c <;> cases q3 : Flt.ltV a c <;> simp [argBest, q1, q2, q3] at hP' <;> simp [hP', q1, q2, q3]
    rw [hv]; exact this
theorem min3_num {a b c : Value} {Q : Value → Shared → Prop} (hh : A.handled = none) (ha : Flt.NumV a) (hb : Flt.NumV b) (hc : Flt.NumV c)
    (h : ∀ h' tk, (∀ d o, s.heap.get? d = some o → h'.get? d = some o) → Q (if Flt.ltV b a then (if Flt.ltV c b then c else b) else (if Flt.ltV c a then c else a)) { s with heap := h', toks := tk }) :
    wpAny (model prog w) A (call (.builtin "min") [a, b, c]) Q E s := by
  have hT : (s.heap.push { cls := .type "tuple", data := .seq #[a, b, c] }).IsTuple s.heap.objs.size #[a, b, c] := ⟨_, Heap.get?_push_size _ rfl, rfl, 0, rfl⟩
  refine call_min_three (wpAny_pyIter_tuple hT ?_)
  have hsz : (s.heap.push { cls := .type "tuple", data := .seq #[a, b, c] }).objs.size = s.heap.objs.size + 1 := Heap.size_push ..
  refine ⟨_, [_, s.heap.objs.size], [_], _, _, _, _, rfl, Walks.tuple (A := A.in1) hh _ s.heap.objs.size (by rw [hsz]; exact Nat.ne_of_lt (Nat.lt_succ_self _)) #[a, b, c],
    ⟨⟨_, Heap.get?_push_size _ rfl, rfl, rfl⟩, hT.push _⟩, fun d hd => ?_, by simp, Flt.cmpOf_lt #[a, b, c] (by simp [ha, hb, hc]), fun v h' tk hP hk => ?_⟩
  · show d < ((s.heap.push _).push _).objs.size
    rw [Heap.size_push, hsz]
    rcases List.mem_cons.mp hd with rfl | hd
    · rw [hsz]; exact Nat.lt_succ_self _
    · rcases List.mem_cons.mp hd with rfl | hd
      · exact Nat.lt_succ_of_lt (Nat.lt_succ_self _)
      · cases hd
  · have hold : ∀ d o, s.heap.get? d = some o → h'.get? d = some o := fun d o e => by
      refine hk d o (fun hm => ?_) (Heap.get?_push_of_some _ (Heap.get?_push_of_some _ e))
      rcases List.mem_cons.mp hm with e1 | hm
      · have := Heap.lt_size e; rw [e1, hsz] at this; exact Nat.lt_irrefl _ (Nat.lt_of_succ_lt this)
      · cases hm
    have := h h' tk hold
    have hv : v = if Flt.ltV b a then (if Flt.ltV c b then c else b) else (if Flt.ltV c a then c else a) := by
      have hP' : (#[a, b, c] : Array Value)[argBest (fun i j => Flt.ltV (#[a, b, c].getD i .none) (#[a, b, c].getD j .none)) 2]? = some v := hP
      cases q1 : Flt.ltV b a <;> cases q2 : Flt.ltV c b <;> cases q3 : Flt.ltV c a <;> simp [argBest, q1, q2, q3] at hP' <;> simp [hP', q1, q2, q3]
    rw [hv]; exact this
end
end
section
theorem vlen_s {l : List Value} {n : Nat} (h : l.length = n + 1) : ∃ a t, l = a :: t ∧ t.length = n := by
  cases l with
  | nil => cases h
  | cons a t => exact ⟨a, t, rfl, Nat.succ.inj h⟩
theorem vlen_0 {l : List Value} (h : l.length = 0) : l = [] := List.length_eq_zero_iff.mp h
theorem beq_list (x y : Str) : (x == y) = (x.cps.toList == y.cps.toList) := (toList_beq x y).symm
theorem ne1 {a b : Nat} (h : a ≠ b) : (Str.mk #[a] == Str.mk #[b]) = false := by rw [beq_list]; simp [h]
theorem ne3a {a b c a' b' c' : Nat} (h : a ≠ a') : (Str.mk #[a, b, c] == Str.mk #[a', b', c']) = false := by rw [beq_list]; simp [h]
theorem ne3b {a b c a' b' c' : Nat} (h : b ≠ b') : (Str.mk #[a, b, c] == Str.mk #[a', b', c']) = false := by rw [beq_list]; simp [h]
theorem ne3c {a b c a' b' c' : Nat} (h : c ≠ c') : (Str.mk #[a, b, c] == Str.mk #[a', b', c']) = false := by rw [beq_list]; simp [h]
section
variable {prog : Program} {w : World} {A : Around} {E : Value → Shared → Prop} {s : Shared} {x y z : Str} {t u : Tok} {h₀ : Heap} {L : Addr} {m : Str → Option Value} {news : List (Addr × Obj)} {Q : Value → Shared → Prop} {n n2 : Str} {p p2 : Pos}
theorem r_eq {b : Bool} (e : (x == y) = b) (h : Q (.bool b) s) : wpAny (model prog w) A (compareOp .Eq (.str x t) (.str y u)) Q E s := eq_str (by rw [e]; exact h)
theorem r_sn {i : Int} {ui : Tok} {lo : Expr} (e : Txt.slice x (some i) none = z) (hl : x.length ≤ 16) (hF : Fr h₀ L s.heap m) (hN : News h₀ L s.heap news) (h : ∀ h' t' k, Fr h₀ L h' m → News h₀ L h' news → Q (.str z t') { s with heap := h', toks := k }) :
    wpAny (model prog w) A (subscriptTail (.Name n p) (.Slice (some lo) none none p2) (.str x t) (.ref s.heap.objs.size)) Q E { s with heap := s.heap.push { cls := .type "slice", data := .fields #[.int i ui, .none, .none] } } := by
  subst e
  exact slice_strN_sn hF hN h (hsz := by simp only [sizeLine_eq]; omega)
theorem r_ns {j : Int} {uj : Tok} {hi : Expr} (e : Txt.slice x none (some j) = z) (hl : x.length ≤ 16) (hF : Fr h₀ L s.heap m) (hN : News h₀ L s.heap news) (h : ∀ h' t' k, Fr h₀ L h' m → News h₀ L h' news → Q (.str z t') { s with heap := h', toks := k }) :
    wpAny (model prog w) A (subscriptTail (.Name n p) (.Slice none (some hi) none p2) (.str x t) (.ref s.heap.objs.size)) Q E { s with heap := s.heap.push { cls := .type "slice", data := .fields #[.none, .int j uj, .none] } } := by
  subst e
  exact slice_strN_ns hF hN h (hsz := by simp only [sizeLine_eq]; omega)
theorem r_nn {hi : Expr} (e : Txt.slice x none none = z) (hl : x.length ≤ 16) (hF : Fr h₀ L s.heap m) (hN : News h₀ L s.heap news) (h : ∀ h' t' k, Fr h₀ L h' m → News h₀ L h' news → Q (.str z t') { s with heap := h', toks := k }) :
    wpAny (model prog w) A (subscriptTail (.Name n p) (.Slice none (some hi) none p2) (.str x t) (.ref s.heap.objs.size)) Q E { s with heap := s.heap.push { cls := .type "slice", data := .fields #[.none, .none, .none] } } := by
  subst e
  exact slice_strN_nn hF hN h (hsz := by simp only [sizeLine_eq]; omega)
theorem r_itemN {i : Int} (e : Txt.item x i = z) (hr : fitsSsize i = true) (h1 : -(x.length : Int) ≤ i) (h2 : i < x.length)
    (h : Q (.str z s.toks) { s with toks := s.toks + 1 }) :
    wpAny (model prog w) A (subscriptTail (.Name n p) (.Name n2 p2) (.str x t) (.int i u)) Q E s := by
  subst e
  exact item_str hr h1 h2 (fun _ => h)
theorem r_itemB {i : Int} {l r : Expr} {o : Operator} (e : Txt.item x i = z) (hr : fitsSsize i = true) (h1 : -(x.length : Int) ≤ i) (h2 : i < x.length)
    (h : Q (.str z s.toks) { s with toks := s.toks + 1 }) :
    wpAny (model prog w) A (subscriptTail (.Name n p) (.BinOp l o r p2) (.str x t) (.int i u)) Q E s := by
  subst e
  exact item_str hr h1 h2 (fun _ => h)
theorem r_truthy {b : Bool} {Q : Bool → Shared → Prop} (e : ((x.length : Int) != 0) = b) (hl : x.length ≤ 16) (h : ∀ k, Q b { s with toks := k }) : wpAny (model prog w) A (PySem.truthy (.str x t)) Q E s :=
  KXt.truthy e (by omega) h
end
theorem sln0 : Txt.slice (Str.mk #[]) none none = Str.mk #[] := by with_unfolding_all rfl
theorem len0 : (Str.mk #[]).length = 0 := rfl
theorem lnz0 : (((Str.mk #[]).length : Int) != 0) = false := rfl
theorem sln1 (a : Nat) : Txt.slice (Str.mk #[a]) none none = Str.mk #[a] := by with_unfolding_all rfl
theorem len1 (a : Nat) : (Str.mk #[a]).length = 1 := rfl
theorem lnz1 (a : Nat) : (((Str.mk #[a]).length : Int) != 0) = true := rfl
theorem slf1_0 (a : Nat) : Txt.slice (Str.mk #[a]) (some 0) none = Str.mk #[a] := by with_unfolding_all rfl
theorem slf1_1 (a : Nat) : Txt.slice (Str.mk #[a]) (some 1) none = Str.mk #[] := by with_unfolding_all rfl
theorem slt1_1 (a : Nat) : Txt.slice (Str.mk #[a]) none (some (-1)) = Str.mk #[] := by with_unfolding_all rfl
theorem sli1_m1 (a : Nat) : Txt.item (Str.mk #[a]) (-1) = Str.mk #[a] := by with_unfolding_all rfl
theorem sli1_0 (a : Nat) : Txt.item (Str.mk #[a]) (0) = Str.mk #[a] := by with_unfolding_all rfl
theorem sln2 (a b : Nat) : Txt.slice (Str.mk #[a, b]) none none = Str.mk #[a, b] := by with_unfolding_all rfl
theorem len2 (a b : Nat) : (Str.mk #[a, b]).length = 2 := rfl
theorem lnz2 (a b : Nat) : (((Str.mk #[a, b]).length : Int) != 0) = true := rfl
theorem slf2_0 (a b : Nat) : Txt.slice (Str.mk #[a, b]) (some 0) none = Str.mk #[a, b] := by with_unfolding_all rfl
theorem slf2_1 (a b : Nat) : Txt.slice (Str.mk #[a, b]) (some 1) none = Str.mk #[b] := by with_unfolding_all rfl
theorem slf2_2 (a b : Nat) : Txt.slice (Str.mk #[a, b]) (some 2) none = Str.mk #[] := by with_unfolding_all rfl
theorem slt2_1 (a b : Nat) : Txt.slice (Str.mk #[a, b]) none (some (-1)) = Str.mk #[a] := by with_unfolding_all rfl
theorem slt2_2 (a b : Nat) : Txt.slice (Str.mk #[a, b]) none (some (-2)) = Str.mk #[] := by with_unfolding_all rfl
theorem sli2_m2 (a b : Nat) : Txt.item (Str.mk #[a, b]) (-2) = Str.mk #[a] := by with_unfolding_all rfl
theorem sli2_m1 (a b : Nat) : Txt.item (Str.mk #[a, b]) (-1) = Str.mk #[b] := by with_unfolding_all rfl
theorem sli2_0 (a b : Nat) : Txt.item (Str.mk #[a, b]) (0) = Str.mk #[a] := by with_unfolding_all rfl
theorem sli2_1 (a b : Nat) : Txt.item (Str.mk #[a, b]) (1) = Str.mk #[b] := by with_unfolding_all rfl
theorem sln3 (a b c : Nat) : Txt.slice (Str.mk #[a, b, c]) none none = Str.mk #[a, b, c] := by with_unfolding_all rfl
theorem len3 (a b c : Nat) : (Str.mk #[a, b, c]).length = 3 := rfl
theorem lnz3 (a b c : Nat) : (((Str.mk #[a, b, c]).length : Int) != 0) = true := rfl
theorem slf3_0 (a b c : Nat) : Txt.slice (Str.mk #[a, b, c]) (some 0) none = Str.mk #[a, b, c] := by with_unfolding_all rfl
theorem slf3_1 (a b c : Nat) : Txt.slice (Str.mk #[a, b, c]) (some 1) none = Str.mk #[b, c] := by with_unfolding_all rfl
theorem slf3_2 (a b c : Nat) : Txt.slice (Str.mk #[a, b, c]) (some 2) none = Str.mk #[c] := by with_unfolding_all rfl
theorem slf3_3 (a b c : Nat) : Txt.slice (Str.mk #[a, b, c]) (some 3) none = Str.mk #[] := by with_unfolding_all rfl
theorem slt3_1 (a b c : Nat) : Txt.slice (Str.mk #[a, b, c]) none (some (-1)) = Str.mk #[a, b] := by with_unfolding_all rfl
theorem slt3_2 (a b c : Nat) : Txt.slice (Str.mk #[a, b, c]) none (some (-2)) = Str.mk #[a] := by with_unfolding_all rfl
theorem slt3_3 (a b c : Nat) : Txt.slice (Str.mk #[a, b, c]) none (some (-3)) = Str.mk #[] := by with_unfolding_all rfl
theorem sli3_m3 (a b c : Nat) : Txt.item (Str.mk #[a, b, c]) (-3) = Str.mk #[a] := by with_unfolding_all rfl
theorem sli3_m2 (a b c : Nat) : Txt.item (Str.mk #[a, b, c]) (-2) = Str.mk #[b] := by with_unfolding_all rfl
theorem sli3_m1 (a b c : Nat) : Txt.item (Str.mk #[a, b, c]) (-1) = Str.mk #[c] := by with_unfolding_all rfl
theorem sli3_0 (a b c : Nat) : Txt.item (Str.mk #[a, b, c]) (0) = Str.mk #[a] := by with_unfolding_all rfl
theorem sli3_1 (a b c : Nat) : Txt.item (Str.mk #[a, b, c]) (1) = Str.mk #[b] := by with_unfolding_all rfl
theorem sli3_2 (a b c : Nat) : Txt.item (Str.mk #[a, b, c]) (2) = Str.mk #[c] := by with_unfolding_all rfl
theorem lei0 : ((Str.mk #[]).length : Int) = 0 := rfl
theorem lei1 (a : Nat) : ((Str.mk #[a]).length : Int) = 1 := rfl
theorem lei2 (a b : Nat) : ((Str.mk #[a, b]).length : Int) = 2 := rfl
theorem lei3 (a b c : Nat) : ((Str.mk #[a, b, c]).length : Int) = 3 := rfl
section
variable {prog : Program} {w : World} {A : Around} {E : Value → Shared → Prop} {s : Shared} {x : Str} {t u v : Tok} {h₀ : Heap} {L : Addr} {m : Str → Option Value} {news : List (Addr × Obj)} {Q : Value → Shared → Prop}
theorem r_len {k : Int} (e : (x.length : Int) = k) (hl : x.length ≤ 16) (h : Q (.int k (s.toks + 1)) { s with toks := s.toks + 1 + 1 }) : wpAny (model prog w) A (call (.builtin "len") [.str x t]) Q E s := by
  subst e
  exact len_str (by omega) h
theorem r_min {i j k : Int} (hh : A.handled = none) (F : Fr h₀ L s.heap m) (N : News h₀ L s.heap news) (e : (if j < i then j else i) = k)
    (h : ∀ t h' tk, Fr h₀ L h' m → News h₀ L h' news → Q (.int k t) { s with heap := h', toks := tk }) :
    wpAny (model prog w) A (call (.builtin "min") [.int i t, .int j u]) Q E s := by
  subst e
  exact min_two_N hh F N fun h' tk F' N' => h _ h' tk F' N'
theorem r_row {D : Addr} {a : Int} {vs : List Value} {c : Nat} {y : Value} {n n2 : Str} {p p2 : Pos} (N : News h₀ L s.heap news) (hm : (D, listOf vs.toArray c) ∈ news) (h0 : 0 ≤ a) (h1 : a < 8) (e : vs[a.toNat]? = some y) (h : Q y s) :
    wpAny (model prog w) A (subscriptTail (.Name n p) (.Name n2 p2) (.ref D) (.int a u)) Q E s :=
  item_listL ⟨_, (N _ hm).1, rfl, c, rfl⟩ h0 (by omega) e h
theorem r_lr {r : Addr} {b : Int} {n : Nat} (hh : A.handled = none) (F : Fr h₀ L s.heap m) (N : News h₀ L s.heap news) (hr : IsRange s.heap r 2 b 2 t u v) (hs : Builtin.Range.small 2 b 2 = true) (hn : Builtin.Range.rangeSize 2 b 2 = (n : Int)) (hz : n ≤ 16)
    (h : ∀ D (us : List Value) c h' tk, Fr h₀ L h' m → News h₀ L h' ((D, listOf us.toArray c) :: news) → AllLt D news → us.length = n → (∀ (j : Nat) (v : Value), us[j]? = some v → ∃ t, v = Value.int (2 + (j : Int) * 2) t) → Q (.ref D) { s with heap := h', toks := tk }) :
    wpAny (model prog w) A (call (.type "list") [.ref r]) Q E s := by
  refine call_list_range hh hr hs hn (by omega) fun h' tk acc c hk hD hI => ?_
  have hD' : h'.get? s.heap.objs.size = some (listOf (List.toArray acc.toList) c) := by
    rw [Array.toArray_toList]
    exact hD
  exact h _ acc.toList c h' tk (F.keeps hk) (news_pushed F N hk hD' rfl) (allLt_of fun p hp => Heap.lt_size (N p hp).1) (by rw [Array.length_toList]; exact hI.1) (fun j v hj => hI.2 j v (by rw [← hj, Array.getElem?_toList]))
theorem r_lr1 {r : Addr} {b : Int} (hh : A.handled = none) (F : Fr h₀ L s.heap m) (N : News h₀ L s.heap news) (hr : IsRange s.heap r 2 b 2 t u v) (hb : b = 4)
    (h : ∀ D t0 c h' tk, Fr h₀ L h' m → News h₀ L h' ((D, listOf #[.int 2 t0] c) :: news) → AllLt D news → Q (.ref D) { s with heap := h', toks := tk }) :
    wpAny (model prog w) A (call (.type "list") [.ref r]) Q E s := by
  subst hb
  refine r_lr (n := 1) hh F N hr (by decide) (by decide) (by decide) fun D us c h' tk F' N' hl h1 h2 => ?_
  obtain ⟨a, u1, rfl, h3⟩ := vlen_s h1
  cases vlen_0 h3
  obtain ⟨t0, rfl⟩ := h2 0 a rfl
  exact h D t0 c h' tk F' N' hl
theorem r_lr2 {r : Addr} {b : Int} (hh : A.handled = none) (F : Fr h₀ L s.heap m) (N : News h₀ L s.heap news) (hr : IsRange s.heap r 2 b 2 t u v) (hb : b = 6)
    (h : ∀ D t0 t1 c h' tk, Fr h₀ L h' m → News h₀ L h' ((D, listOf #[.int 2 t0, .int 4 t1] c) :: news) → AllLt D news → Q (.ref D) { s with heap := h', toks := tk }) :
    wpAny (model prog w) A (call (.type "list") [.ref r]) Q E s := by
  subst hb
  refine r_lr (n := 2) hh F N hr (by decide) (by decide) (by decide) fun D us c h' tk F' N' hl h1 h2 => ?_
  obtain ⟨a, u1, rfl, h3⟩ := vlen_s h1
  obtain ⟨b, u2, rfl, h4⟩ := vlen_s h3
  cases vlen_0 h4
  obtain ⟨t0, rfl⟩ := h2 0 a rfl
  obtain ⟨t1, rfl⟩ := h2 1 b rfl
  exact h D t0 t1 c h' tk F' N' hl
theorem r_lr3 {r : Addr} {b : Int} (hh : A.handled = none) (F : Fr h₀ L s.heap m) (N : News h₀ L s.heap news) (hr : IsRange s.heap r 2 b 2 t u v) (hb : b = 8)
    (h : ∀ D t0 t1 t2 c h' tk, Fr h₀ L h' m → News h₀ L h' ((D, listOf #[.int 2 t0, .int 4 t1, .int 6 t2] c) :: news) → AllLt D news → Q (.ref D) { s with heap := h', toks := tk }) :
    wpAny (model prog w) A (call (.type "list") [.ref r]) Q E s := by
  subst hb
  refine r_lr (n := 3) hh F N hr (by decide) (by decide) (by decide) fun D us c h' tk F' N' hl h1 h2 => ?_
  obtain ⟨a, u1, rfl, h3⟩ := vlen_s h1
  obtain ⟨b, u2, rfl, h4⟩ := vlen_s h3
  obtain ⟨d, u3, rfl, h5⟩ := vlen_s h4
  cases vlen_0 h5
  obtain ⟨t0, rfl⟩ := h2 0 a rfl
  obtain ⟨t1, rfl⟩ := h2 1 b rfl
  obtain ⟨t2, rfl⟩ := h2 2 d rfl
  exact h D t0 t1 t2 c h' tk F' N' hl
end
theorem z00 : (0 : Int) + ((0 : Nat) : Int) = 0 := rfl
theorem z01 : (0 : Int) + ((0 + 1 : Nat) : Int) = 1 := rfl
theorem z02 : (0 : Int) + ((0 + 1 + 1 : Nat) : Int) = 2 := rfl

noncomputable def subF (a b : Str) : Int := if a = b then 0 else if Txt.lower a = Txt.lower b then 1 else 2
theorem sub_spec (w : World) (mean : ExcName → Option Value) (mg mb : Str → Option Value) (a b : Str) (t1 t2 : Tok) (news : List (Addr × Obj)) (ha : a.length ≤ 1000) (hb : b.length ≤ 1000) (r : Int) (hr : subF a b = r) :
    Spec w mean mg mb 53 1 8 news [.str a t1, .str b t2] (RetV news (fun t => .int r t)) := by
  subst hr
  dsimp only [Spec]
  w_top off
  k_fill
  intros; rename_i hret
  refine wpAny_call ?_
  (refine' code_def ?k1 ?k2 ?k3 ?k4 ?k5 ?kA ?kF ?kK ?k6 ?k7 ?k8 ?k9 ?kB ?_ ?c2 ?c3 ?c4 ?c5; (case kA => exact rfl); (case kF => exact rfl); (case kK => assumption); (case k1 => k_asm); (case k2 => k_asm); (case k3 => k_asm); (case k4 => k_asm); (case k5 => k_asm); (case k6 => k_is); (case k7 => k_is); (case k8 => ktr_room); (case k9 => exact BindsTo.of_eq rfl); (case c5 => decide); (case kB => exact locs rfl); (case c2 => exact rfl); (case c3 => exact rfl); (case c4 => exact rfl); k_whole; intro g' L' h' FG' F' N' B' X' T'; (try dsimp only); (try k_lift B'); (try k_fold))
  k_steps
  all_goals (refine retI hret (by k_asm) (by k_asm) ?_; simp_all [subF])
end
section
section
variable {prog : Program} {w : World} {A : Around} {E : Value → Shared → Prop} {s : Shared} {x y z : UInt64} {t u v : Tok} {h₀ : Heap} {L : Addr} {m : Str → Option Value} {news : List (Addr × Obj)} {Q : Value → Shared → Prop}
noncomputable def max3F (x y z : UInt64) : UInt64 := if Float64.cmp x y == some .lt then (if Float64.cmp y z == some .lt then z else y) else (if Float64.cmp x z == some .lt then z else x)
noncomputable def min3F (x y z : UInt64) : UInt64 := if Float64.cmp y x == some .lt then (if Float64.cmp z y == some .lt then z else y) else (if Float64.cmp z x == some .lt then z else x)
theorem max3_val (x y z : UInt64) (t u v : Tok) : ∃ t', (if Flt.ltV (.float x t) (.float y u) then (if Flt.ltV (.float y u) (.float z v) then Value.float z v else .float y u) else (if Flt.ltV (.float x t) (.float z v) then .float z v else .float x t)) = Value.float (max3F x y z) t' := by
  rw [show Flt.ltV (.float x t) (.float y u) = (Float64.cmp x y == some .lt) from rfl, show Flt.ltV (.float y u) (.float z v) = (Float64.cmp y z == some .lt) from rfl, show Flt.ltV (.float x t) (.float z v) = (Float64.cmp x z == some .lt) from rfl]
  unfold max3F
  (repeat' split) <;> exact ⟨_, rfl⟩
theorem min3_val (x y z : UInt64) (t u v : Tok) : ∃ t', (if Flt.ltV (.float y u) (.float x t) then (if Flt.ltV (.float z v) (.float y u) then Value.float z v else .float y u) else (if Flt.ltV (.float z v) (.float x t) then .float z v else .float x t)) = Value.float (min3F x y z) t' := by
  rw [show Flt.ltV (.float y u) (.float x t) = (Float64.cmp y x == some .lt) from rfl, show Flt.ltV (.float z v) (.float y u) = (Float64.cmp z y == some .lt) from rfl, show Flt.ltV (.float z v) (.float x t) = (Float64.cmp z x == some .lt) from rfl]
  unfold min3F
  (repeat' split) <;> exact ⟨_, rfl⟩
theorem r_max3 (hh : A.handled = none) (F : Fr h₀ L s.heap m) (N : News h₀ L s.heap news) {k : UInt64} (e : max3F x y z = k) (h : ∀ t' h' tk, Fr h₀ L h' m → News h₀ L h' news → Q (.float k t') { s with heap := h', toks := tk }) :
    wpAny (model prog w) A (call (.builtin "max") [.float x t, .float y u, .float z v]) Q E s := by
  subst e
  refine max3_num hh (.float ..) (.float ..) (.float ..) fun h' tk hk => ?_
  obtain ⟨t', e⟩ := max3_val x y z t u v
  rw [e]
  exact h t' h' tk (F.keeps hk) (fun p hp => ⟨hk _ _ (N p hp).1, (N p hp).2⟩)
theorem r_min3 (hh : A.handled = none) (F : Fr h₀ L s.heap m) (N : News h₀ L s.heap news) {k : UInt64} (e : min3F x y z = k) (h : ∀ t' h' tk, Fr h₀ L h' m → News h₀ L h' news → Q (.float k t') { s with heap := h', toks := tk }) :
    wpAny (model prog w) A (call (.builtin "min") [.float x t, .float y u, .float z v]) Q E s := by
  subst e
  refine min3_num hh (.float ..) (.float ..) (.float ..) fun h' tk hk => ?_
  obtain ⟨t', e⟩ := min3_val x y z t u v
  rw [e]
  exact h t' h' tk (F.keeps hk) (fun p hp => ⟨hk _ _ (N p hp).1, (N p hp).2⟩)
theorem r_fdiv (hh : A.handled = none) (hz : Float64.isZero y = false) (h : Q (.float (Float64.div x y) s.toks) { s with toks := s.toks + 1 }) : wpAny (model prog w) A (binaryOp .Div (.float x t) (.float y u)) Q E s :=
  truediv_float_or hh (fun h0 => by rw [hz] at h0; cases h0) (fun _ => h)
theorem r_fmod (hh : A.handled = none) (hz : Float64.isZero y = false) (h : Q (.float (Float64.divmod x y).2 s.toks) { s with toks := s.toks + 1 }) : wpAny (model prog w) A (binaryOp .Mod (.float x t) (.float y u)) Q E s :=
  Flt.mod_ff hh (fun h0 => by rw [hz] at h0; cases h0) (fun _ => h)
theorem r_feq {b : Bool} (e : (Float64.cmp x y == some .eq) = b) (h : Q (.bool b) s) : wpAny (model prog w) A (compareOp .Eq (.float x t) (.float y u)) Q E s := AutoFloatOps.eq_0 (by rw [e]; exact h)
theorem r_tuple {vs : List Value} (F : Fr h₀ L s.heap m) (N : News h₀ L s.heap news) (hz : vs.length ≤ 8)
    (h : ∀ D h', Fr h₀ L h' m → News h₀ L h' ((D, ({ cls := .type "tuple", data := .seq vs.toArray } : Obj)) :: news) → AllLt D news → L < D → Q (.ref D) { s with heap := h' }) :
    wpAny (model prog w) A (newTuple vs) Q E s :=
  newTuple_N F N (fun h' F' N' => h _ h' F' N' (allLt_of fun p hp => Heap.lt_size (N p hp).1) F.ns.lt) (by simp only [sizeLine_eq]; omega)
end
theorem news_cons {h₀ h' : Heap} {L D : Addr} {o : Obj} {l news : List (Addr × Obj)} (N : News h₀ L h' l) (hm : (D, o) ∈ l) (K : News h₀ L h' news) : News h₀ L h' ((D, o) :: news) := fun p hp => by
  rcases List.mem_cons.mp hp with rfl | hp
  · exact N _ hm
  · exact K p hp
theorem allLt_trans {L D : Addr} {news : List (Addr × Obj)} (h : ∀ q ∈ news, q.1 < L) (hl : L < D) : AllLt D news := allLt_of fun p hp => Nat.lt_trans (h p hp) hl
noncomputable abbrev tupF (a b c : UInt64) (t1 t2 t3 : Tok) : Obj := { cls := .type "tuple", data := .seq #[.float a t1, .float b t2, .float c t3] }
noncomputable abbrev RetT (news : List (Addr × Obj)) (o : Tok → Tok → Tok → Obj) : Heap → Addr → (Str → Option Value) → Shared → (Value → Shared → Prop) → Prop :=
  fun h₀ L m s Q => ∀ (D : Addr) (t1 t2 t3 : Tok) (h' : Heap) (tk' : Nat), Fr h₀ L h' m → News h₀ L h' ((D, o t1 t2 t3) :: news) → AllLt D news → Q (.ref D) { s with heap := h', toks := tk' }
noncomputable def hueF (r g b mx mn : UInt64) : UInt64 :=
  (Float64.divmod (Float64.div (if Float64.cmp r mx == some .eq then Float64.sub (Float64.div (Float64.sub mx b) (Float64.sub mx mn)) (Float64.div (Float64.sub mx g) (Float64.sub mx mn))
    else if Float64.cmp g mx == some .eq then Float64.sub (Float64.add 4611686018427387904 (Float64.div (Float64.sub mx r) (Float64.sub mx mn))) (Float64.div (Float64.sub mx b) (Float64.sub mx mn))
    else Float64.sub (Float64.add 4616189618054758400 (Float64.div (Float64.sub mx g) (Float64.sub mx mn))) (Float64.div (Float64.sub mx r) (Float64.sub mx mn))) 4618441417868443648) 4607182418800017408).2
theorem hueF_1 {r g b mx mn : UInt64} (c1 : (Float64.cmp r mx == some .eq) = true) : hueF r g b mx mn = (Float64.divmod (Float64.div (Float64.sub (Float64.div (Float64.sub mx b) (Float64.sub mx mn)) (Float64.div (Float64.sub mx g) (Float64.sub mx mn))) 4618441417868443648) 4607182418800017408).2 := by
  unfold hueF; rw [if_pos c1]
theorem hueF_2 {r g b mx mn : UInt64} (c1 : (Float64.cmp r mx == some .eq) = false) (c2 : (Float64.cmp g mx == some .eq) = true) : hueF r g b mx mn = (Float64.divmod (Float64.div (Float64.sub (Float64.add 4611686018427387904 (Float64.div (Float64.sub mx r) (Float64.sub mx mn))) (Float64.div (Float64.sub mx b) (Float64.sub mx mn))) 4618441417868443648) 4607182418800017408).2 := by
  unfold hueF; rw [if_neg (by rw [c1]; exact Bool.false_ne_true), if_pos c2]
theorem hueF_3 {r g b mx mn : UInt64} (c1 : (Float64.cmp r mx == some .eq) = false) (c2 : (Float64.cmp g mx == some .eq) = false) : hueF r g b mx mn = (Float64.divmod (Float64.div (Float64.sub (Float64.add 4616189618054758400 (Float64.div (Float64.sub mx g) (Float64.sub mx mn))) (Float64.div (Float64.sub mx r) (Float64.sub mx mn))) 4618441417868443648) 4607182418800017408).2 := by
  unfold hueF; rw [if_neg (by rw [c1]; exact Bool.false_ne_true), if_neg (by rw [c2]; exact Bool.false_ne_true)]
theorem retT {h₀ h' : Heap} {L L' D : Addr} {m : Str → Option Value} {news l : List (Addr × Obj)} {s : Shared} {Q : Value → Shared → Prop} {o : Tok → Tok → Tok → Obj} {t1 t2 t3 : Tok} {tk' : Nat}
    (hret : RetT news o h₀ L m s Q) (F : Fr h₀ L h' m) (N : News h₀ L h' l) (hm : (D, o t1 t2 t3) ∈ l) (K : News h₀ L h' news) (hl : ∀ q ∈ news, q.1 < L') (l2 : L' < D) : Q (.ref D) { s with heap := h', toks := tk' } :=
  hret D t1 t2 t3 h' tk' F (news_cons N hm K) (allLt_trans hl l2)
end
section
section
variable {M : Model} {A : Around} {E : Value → Shared → Prop} {s : Shared} {w : World} {h₀ : Heap} {L a C c : Addr} {m m₂ mg mb : Str → Option Value} {cn : Str} {cs : Scope} {ccd v : Value} {cl : List (Str × Addr)} {p : Program} {loose : List Str} {mean : ExcName → Option Value} {pos : Pos} {Q : Value → Shared → Prop} {QU : Unit → Shared → Prop} {news : List (Addr × Obj)} {o oC : Obj} {x : Str} {env : Env} {g : Obj → List (Addr × Obj)} {v₀ : Option Value}
theorem cL (F : Fr h₀ L s.heap m) (hx : (cs.names.lookup x == some NameKind.local) = true) (hv : m x = some v) (hk : cs.kind = .function) (hd : (x == ("__debug__" : Str)) = false) (h : Q v s) : wpAny M A (eval (.Name x pos) (envOfC cn cs L a ccd)) Q E s :=
  nameX_L (cl := cellsFrom (L + 1) cs.names []) F hv h hk (beq_iff_eq.mp hx) hd
theorem cC (N : News h₀ L s.heap news) (hx : (cs.names.lookup x == some NameKind.cell) = true) (hc : (cellsFrom (L + 1) cs.names []).lookup x = some c) (hm : (c, o) ∈ news) (ho : o.data = .cell (some v)) (hk : cs.kind = .function) (hd : (x == ("__debug__" : Str)) = false) (h : Q v s) : wpAny M A (eval (.Name x pos) (envOfC cn cs L a ccd)) Q E s :=
  nameX_C (cl := cellsFrom (L + 1) cs.names []) N hc hm ho h hk (beq_iff_eq.mp hx) hd
theorem sL (F : Fr h₀ L s.heap m) (N : News h₀ L s.heap news) (hx : (cs.names.lookup x == some NameKind.local) = true) (hk : cs.kind = .function)
    (h : ∀ h' tk, Fr h₀ L h' (fun y => if y = x then some v else m y) → News h₀ L h' news → QU () { s with heap := h', toks := tk }) : wpAny M A (storeName (envOfC cn cs L a ccd) x v) QU E s :=
  storeX_L (cl := cellsFrom (L + 1) cs.names []) F N (fun h' a b => h h' _ a b) hk (beq_iff_eq.mp hx)
theorem sC (F : Fr h₀ L s.heap m) (N : News h₀ L s.heap news) (hx : (cs.names.lookup x == some NameKind.cell) = true) (hc : (cellsFrom (L + 1) cs.names []).lookup x = some c) (U : UpdF c o news g) (ho : o.data = .cell v₀) (hk : cs.kind = .function)
    (h : ∀ h' o' tk, Fr h₀ L h' m → News h₀ L h' (g o') → o'.data = .cell (some v) → QU () { s with heap := h', toks := tk }) : wpAny M A (storeName (envOfC cn cs L a ccd) x v) QU E s :=
  storeX_C (cl := cellsFrom (L + 1) cs.names []) F N hc U ho (fun h' o' a b c => h h' o' _ a b c) hk (beq_iff_eq.mp hx)
theorem kOwn (N : News h₀ L s.heap news) (hx : (compEnvC cs cl C env).kindOf x = some .local) (hm : (C, oC) ∈ news) (hC : LCg.NsObj oC m₂) (hv : m₂ x = some v) (hk : (compEnvC cs cl C env).scope.kind = .function) (hd : (x == ("__debug__" : Str)) = false) (h : Q v s) : wpAny M A (eval (.Name x pos) (compEnvC cs cl C env)) Q E s :=
  LCgL.ld_own N hm hC hv h hk hx hd
theorem kFree (N : News h₀ L s.heap news) (hx : (compEnvC cs cl C env).kindOf x = some .free) (hc : cl.lookup x = some c) (hm : (c, o) ∈ news) (ho : o.data = .cell (some v)) (hk : (compEnvC cs cl C env).scope.kind = .function) (hd : (x == ("__debug__" : Str)) = false) (hn : (x == ("__classdict__" : Str)) = false) (h : Q v s) : wpAny M A (eval (.Name x pos) (compEnvC cs cl C env)) Q E s :=
  lcf_free N hc hm ho h hk hx hd hn
theorem nmC_len (F : Fr h₀ L s.heap m) (X : (hd.heap_39 w.params).In h₀) (T : TopRead p loose mg mb h₀) (hx : (cs.names.lookup (Str.ofString "len") == some NameKind.globalImplicit) = true) (hk : cs.kind = .function) (h : Q (.builtin "len") s) : wpAny M A (eval (.Name (Str.ofString "len") pos) (envOfC cn cs L a ccd)) Q E s :=
  nmX_len (cl := cellsFrom (L + 1) cs.names []) F X T hx hk h
theorem nmC_range (F : Fr h₀ L s.heap m) (X : (hd.heap_39 w.params).In h₀) (T : TopRead p loose mg mb h₀) (hx : (cs.names.lookup (Str.ofString "range") == some NameKind.globalImplicit) = true) (hk : cs.kind = .function) (h : Q (.type "range") s) : wpAny M A (eval (.Name (Str.ofString "range") pos) (envOfC cn cs L a ccd)) Q E s :=
  nmX_range (cl := cellsFrom (L + 1) cs.names []) F X T hx hk h
theorem nmC_min (F : Fr h₀ L s.heap m) (X : (hd.heap_39 w.params).In h₀) (T : TopRead p loose mg mb h₀) (hx : (cs.names.lookup (Str.ofString "min") == some NameKind.globalImplicit) = true) (hk : cs.kind = .function) (h : Q (.builtin "min") s) : wpAny M A (eval (.Name (Str.ofString "min") pos) (envOfC cn cs L a ccd)) Q E s :=
  nmX_min (cl := cellsFrom (L + 1) cs.names []) F X T hx hk h
theorem nmK_min (F : Fr h₀ L s.heap m) (X : (hd.heap_39 w.params).In h₀) (T : Top p loose mean mg mb h₀) (hx : (compEnvC cs cl C env).kindOf (Str.ofString "min") = some .globalImplicit) (hk : (compEnvC cs cl C env).scope.kind = .function) (hg : env.globals = mainGlobals) (hb : env.builtins = builtinsNs) (h : Q (.builtin "min") s) : wpAny M A (eval (.Name (Str.ofString "min") pos) (compEnvC cs cl C env)) Q E s :=
  LCgL.ld_built F X T (nf_min w) nb_min (by decide) h hg hb hk hx (by decide)
theorem nmC_round (F : Fr h₀ L s.heap m) (X : (hd.heap_39 w.params).In h₀) (T : TopRead p loose mg mb h₀) (hx : (cs.names.lookup (Str.ofString "round") == some NameKind.globalImplicit) = true) (hk : cs.kind = .function) (h : Q (.builtin "round") s) : wpAny M A (eval (.Name (Str.ofString "round") pos) (envOfC cn cs L a ccd)) Q E s :=
  nmX_round (cl := cellsFrom (L + 1) cs.names []) F X T hx hk h
theorem nmK_abs (F : Fr h₀ L s.heap m) (X : (hd.heap_39 w.params).In h₀) (T : Top p loose mean mg mb h₀) (hx : (compEnvC cs cl C env).kindOf (Str.ofString "abs") = some .globalImplicit) (hk : (compEnvC cs cl C env).scope.kind = .function) (hg : env.globals = mainGlobals) (hb : env.builtins = builtinsNs) (h : Q (.builtin "abs") s) : wpAny M A (eval (.Name (Str.ofString "abs") pos) (compEnvC cs cl C env)) Q E s :=
  LCgL.ld_built F X T (nf_abs w) nb_abs (by decide) h hg hb hk hx (by decide)
theorem nmC_sum (F : Fr h₀ L s.heap m) (X : (hd.heap_39 w.params).In h₀) (T : TopRead p loose mg mb h₀) (hx : (cs.names.lookup (Str.ofString "sum") == some NameKind.globalImplicit) = true) (hk : cs.kind = .function) (h : Q (.builtin "sum") s) : wpAny M A (eval (.Name (Str.ofString "sum") pos) (envOfC cn cs L a ccd)) Q E s :=
  nmX_sum (cl := cellsFrom (L + 1) cs.names []) F X T hx hk h
theorem nmK_levenshteindistance (F : Fr h₀ L s.heap m) (X : (hd.heap_39 w.params).In h₀) (T : Top p loose mean mg mb h₀) (hx : (compEnvC cs cl C env).kindOf (Str.ofString "_levenshtein_distance") = some .globalImplicit) (hk : (compEnvC cs cl C env).scope.kind = .function) (hg : env.globals = mainGlobals) (hb : env.builtins = builtinsNs) (h : Q (.ref 60) s) : wpAny M A (eval (.Name (Str.ofString "_levenshtein_distance") pos) (compEnvC cs cl C env)) Q E s :=
  LCgL.ld_global F X T (nf_levenshteindistance w) h hg hk hx (by decide)
theorem nmK_lawtold (F : Fr h₀ L s.heap m) (X : (hd.heap_39 w.params).In h₀) (T : Top p loose mean mg mb h₀) (hx : (compEnvC cs cl C env).kindOf (Str.ofString "_law_told") = some .globalImplicit) (hk : (compEnvC cs cl C env).scope.kind = .function) (hg : env.globals = mainGlobals) (hb : env.builtins = builtinsNs) (h : Q (.ref 65) s) : wpAny M A (eval (.Name (Str.ofString "_law_told") pos) (compEnvC cs cl C env)) Q E s :=
  LCgL.ld_global F X T (nf_lawtold w) h hg hk hx (by decide)
theorem nmC_lawleast (F : Fr h₀ L s.heap m) (X : (hd.heap_39 w.params).In h₀) (T : TopRead p loose mg mb h₀) (hx : (cs.names.lookup (Str.ofString "_law_least") == some NameKind.globalImplicit) = true) (hk : cs.kind = .function) (h : Q (.ref 70) s) : wpAny M A (eval (.Name (Str.ofString "_law_least") pos) (envOfC cn cs L a ccd)) Q E s :=
  nmX_lawleast (cl := cellsFrom (L + 1) cs.names []) F X T hx hk h
theorem nmK_lawleast (F : Fr h₀ L s.heap m) (X : (hd.heap_39 w.params).In h₀) (T : Top p loose mean mg mb h₀) (hx : (compEnvC cs cl C env).kindOf (Str.ofString "_law_least") = some .globalImplicit) (hk : (compEnvC cs cl C env).scope.kind = .function) (hg : env.globals = mainGlobals) (hb : env.builtins = builtinsNs) (h : Q (.ref 70) s) : wpAny M A (eval (.Name (Str.ofString "_law_least") pos) (compEnvC cs cl C env)) Q E s :=
  LCgL.ld_global F X T (nf_lawleast w) h hg hk hx (by decide)
theorem nmC_rgbtohls (F : Fr h₀ L s.heap m) (X : (hd.heap_39 w.params).In h₀) (T : TopRead p loose mg mb h₀) (hx : (cs.names.lookup (Str.ofString "rgb_to_hls") == some NameKind.globalImplicit) = true) (hk : cs.kind = .function) (h : Q (.ref 39) s) : wpAny M A (eval (.Name (Str.ofString "rgb_to_hls") pos) (envOfC cn cs L a ccd)) Q E s :=
  nmX_rgbtohls (cl := cellsFrom (L + 1) cs.names []) F X T hx hk h
theorem nmC_rgbtohsv (F : Fr h₀ L s.heap m) (X : (hd.heap_39 w.params).In h₀) (T : TopRead p loose mg mb h₀) (hx : (cs.names.lookup (Str.ofString "rgb_to_hsv") == some NameKind.globalImplicit) = true) (hk : cs.kind = .function) (h : Q (.ref 46) s) : wpAny M A (eval (.Name (Str.ofString "rgb_to_hsv") pos) (envOfC cn cs L a ccd)) Q E s :=
  nmX_rgbtohsv (cl := cellsFrom (L + 1) cs.names []) F X T hx hk h
theorem nmC_insortright (F : Fr h₀ L s.heap m) (X : (hd.heap_39 w.params).In h₀) (T : TopRead p loose mg mb h₀) (hx : (cs.names.lookup (Str.ofString "insort_right") == some NameKind.globalImplicit) = true) (hk : cs.kind = .function) (h : Q (.ref 23) s) : wpAny M A (eval (.Name (Str.ofString "insort_right") pos) (envOfC cn cs L a ccd)) Q E s :=
  nmX_insortright (cl := cellsFrom (L + 1) cs.names []) F X T hx hk h
theorem nmC_bisectright (F : Fr h₀ L s.heap m) (X : (hd.heap_39 w.params).In h₀) (T : TopRead p loose mg mb h₀) (hx : (cs.names.lookup (Str.ofString "bisect_right") == some NameKind.globalImplicit) = true) (hk : cs.kind = .function) (h : Q (.ref 32) s) : wpAny M A (eval (.Name (Str.ofString "bisect_right") pos) (envOfC cn cs L a ccd)) Q E s :=
  nmX_bisectright (cl := cellsFrom (L + 1) cs.names []) F X T hx hk h
end
theorem swaps_cell {cn : Str} {cs : Scope} {L a : Addr} {ccd : Value} {t : Str} {e : Expr} {g : List Comprehension} {sc : Scope} {p p2 : Pos} {l : Nat} (hx : (cs.names.lookup t == some NameKind.cell) = true) :
    swapsWith (.ListComp e g sc p) (some (.Name t p2)) l (envOfC cn cs L a ccd) = pure false := by
  have h : (envOfC cn cs L a ccd).kindOf t = some .cell := beq_iff_eq.mp hx
  have e1 : swapsWith (.ListComp e g sc p) (some (.Name t p2)) l (envOfC cn cs L a ccd) = pure ((envOfC cn cs L a ccd).blockKind == .function && (envOfC cn cs L a ccd).kindOf t == some .local && p2.line == p.line && !(sc.names.any fun (n, k) => n == t && (k == .local || k == .cell))) := rfl
  rw [e1, h, show (some NameKind.cell == some NameKind.local) = false from rfl, Bool.and_false]
  rfl
section
variable {prog : Program} {w : World} {M : Model} {A : Around} {E : Value → Shared → Prop} {s : Shared} {h₀ : Heap} {L a D : Addr} {cn : Str} {cs : Scope} {ccd y : Value} {news : List (Addr × Obj)} {vs : List Value} {c : Nat} {i : Int} {u : Tok} {Q : Value → Shared → Prop} {n n2 x : Str} {p p2 p3 : Pos} {k : Const} {kk : Nat}
theorem aComp {Q : Flow → Shared → Prop} {e : Expr} {g : List Comprehension} {sc : Scope} (hx : (cs.names.lookup x == some NameKind.cell) = true)
    (h : wpAny M A (eval (.ListComp e g sc p) (envOfC cn cs L a ccd)) (fun v s₁ => wpAny M A (storeName (envOfC cn cs L a ccd) x v) (fun _ => Q .next) E s₁) E s) :
    wpAny M A (exec (.Assign [.Name x p2] (.ListComp e g sc p) p3) (envOfC cn cs L a ccd)) Q E s := wpAny_Assign_Name h (swaps_cell hx)
theorem r_rowC (N : News h₀ L s.heap news) (hm : (D, listOf vs.toArray c) ∈ news) (h0 : 0 ≤ i) (h1 : i < 8) (e : vs[i.toNat]? = some y) (h : Q y s) :
    wpAny (model prog w) A (subscriptTail (.Name n p) (.Constant k kk p2) (.ref D) (.int i u)) Q E s :=
  item_listL ⟨_, (N _ hm).1, rfl, c, rfl⟩ h0 (by omega) e h
theorem r_rowN (N : News h₀ L s.heap news) (hm : (D, listOf vs.toArray c) ∈ news) (h0 : 0 ≤ i) (h1 : i < 8) (e : vs[i.toNat]? = some y) (h : Q y s) :
    wpAny (model prog w) A (subscriptTail (.Name n p) (.Name n2 p2) (.ref D) (.int i u)) Q E s :=
  item_listL ⟨_, (N _ hm).1, rfl, c, rfl⟩ h0 (by omega) e h
theorem r_itemK {X z : Str} {t : Tok} (e : Txt.item X i = z) (hr : fitsSsize i = true) (h1 : -(X.length : Int) ≤ i) (h2 : i < X.length)
    (h : Q (.str z s.toks) { s with toks := s.toks + 1 }) :
    wpAny (model prog w) A (subscriptTail (.Constant k kk p) (.Name n2 p2) (.str X t) (.int i u)) Q E s := by
  subst e
  exact item_str hr h1 h2 (fun _ => h)
end
theorem y00 : (0 : Int) + ((0 : Nat) : Int) = 0 := rfl
theorem y01 : (0 : Int) + ((1 : Nat) : Int) = 1 := rfl
theorem y02 : (0 : Int) + ((2 : Nat) : Int) = 2 := rfl
theorem y03 : (0 : Int) + ((3 : Nat) : Int) = 3 := rfl
theorem w00 : (0 : Int) + ((0 : Nat) : Int) = 0 := rfl
theorem w01 : (0 : Int) + ((0 + 1 : Nat) : Int) = 1 := rfl
theorem w02 : (0 : Int) + ((0 + 1 + 1 : Nat) : Int) = 2 := rfl
theorem w03 : (0 : Int) + ((0 + 1 + 1 + 1 : Nat) : Int) = 3 := rfl
theorem w04 : (0 : Int) + ((0 + 1 + 1 + 1 + 1 : Nat) : Int) = 4 := rfl
theorem w05 : (0 : Int) + ((0 + 1 + 1 + 1 + 1 + 1 : Nat) : Int) = 5 := rfl
end
section
open PyProof.Rows.LCg in
section
variable {prog : Program} {w : World} {A : Around} {E : Value → Shared → Prop} {s : Shared} {h₀ : Heap} {L : Addr} {m : Str → Option Value} {env : Env}
noncomputable def SrcS (prog : Program) (w : World) (A : Around) (h₀ : Heap) (L : Addr) (m : Str → Option Value) (env : Env) (elt : Expr) (x : Str) (scope : Scope) (cl : List (Str × Addr)) (Fin : Shared → List Value → List (Addr × Obj) → Prop) (xv : Value) (s₁ : Shared) : Prop :=
  ∃ (cs : List Nat) (t : Tok) (news : List (Addr × Obj)), xv = .str ⟨cs.toArray⟩ t ∧ A.handled = none ∧ Fr h₀ L s₁.heap m ∧ News h₀ L s₁.heap news ∧ cs.all (· < 128) = true ∧ cs.length ≤ sizeLine ∧
    ∀ s₂ : Shared, (∃ h, s₂ = { s₁ with heap := h }) → CompRest prog w A h₀ L m env elt x scope cl s₂ (fun _ => True) (fun i v => ∃ u : Tok, v = .str ⟨#[cs.getD i 0]⟩ u) (Fin s₂) cs.length 0 [] news
theorem SrcS.intro {elt : Expr} {x : Str} {scope : Scope} {cl : List (Str × Addr)} {Fin : Shared → List Value → List (Addr × Obj) → Prop} {cs : List Nat} {n : Nat} {t : Tok} {X : Str} {news : List (Addr × Obj)} {s₁ : Shared}
    (hX : X = ⟨cs.toArray⟩) (hh : A.handled = none) (F : Fr h₀ L s₁.heap m) (N : News h₀ L s₁.heap news) (ha : cs.all (· < 128) = true) (hn : cs.length = n) (hsz : n ≤ 64)
    (h : ∀ g, CompRest prog w A h₀ L m env elt x scope cl { s₁ with heap := g } (fun _ => True) (fun i v => ∃ u : Tok, v = .str ⟨#[cs.getD i 0]⟩ u) (Fin { s₁ with heap := g }) n 0 [] news) :
    SrcS prog w A h₀ L m env elt x scope cl Fin (.str X t) s₁ := by
  subst hX; subst hn
  exact ⟨cs, t, news, rfl, hh, F, N, ha, by simp only [sizeLine_eq]; omega, fun s₂ ⟨g, e⟩ => e ▸ h g⟩
theorem strIter_st {I : Addr} {X : Str} {t : Tok} : ∀ i (h h' : Heap) (o : Obj) (nw : List (Addr × Obj)), h.IsStrIter I "str_ascii_iterator" X t i → h.get? I = some o → h'.get? I = some o → (∀ b o, h₀.get? b = some o → h'.get? b = some o) → News h₀ L h' nw → True → h'.IsStrIter I "str_ascii_iterator" X t i :=
  fun i h h' o nw st e e' _ _ _ => by
    obtain ⟨o', q, r⟩ := st
    rw [e] at q; cases q
    exact ⟨o, e', r⟩
theorem walksS {I : Addr} (hh : A.handled = none) (cs : List Nat) (t : Tok) : Walks prog w A I [I] [I] cs.length (fun i v => ∃ u : Tok, v = .str ⟨#[cs.getD i 0]⟩ u) (fun i h => h.IsStrIter I "str_ascii_iterator" ⟨cs.toArray⟩ t i) :=
  let W := Walks.strAscii (prog := prog) (w := w) hh I ⟨cs.toArray⟩ t
  have hz : (Str.mk cs.toArray).cps.size = cs.length := List.size_toArray ..
  { sub := W.sub, frame := W.frame, done := fun s Q E st hQ => W.done s Q E (by rw [hz]; exact st) hQ, self := W.self,
    item := fun i s Q E hi st hQ => W.item i s Q E (by rw [hz]; exact hi) st fun v h' tk hP => hQ v h' tk (by
      obtain ⟨c, u, hc, rfl⟩ := hP
      refine ⟨u, ?_⟩
      have : cs[i]? = some c := by simpa using hc
      rw [List.getD_eq_getElem?_getD, this]; rfl) }
theorem ListComp_S {elt iter : Expr} {x : Str} {px : Pos} {scope : Scope} {cl : List (Str × Addr)} {pos : Pos} {Q : Value → Shared → Prop} (F₀ : Fr h₀ L s.heap m)
    (hclos : closureFor scope env = pure cl) (hcell : ∀ y ∈ scope.names, y.2 ≠ .cell) (hkind : scope.kind = .function)
    (hnames : ∀ y ∈ scope.names, y.2 = .local → scope.names.lookup y.1 = some .local) (hx : scope.names.lookup x = some .local)
    (h : wpAny (model prog w) A (eval iter env) (SrcS prog w A h₀ L m env elt x scope cl (fun s₂ => FinE h₀ L m s₂ Q)) E s)
    (hs : ∀ x, foldedSetIterable iter env x = pure x := by intro _; rfl) :
    wpAny (model prog w) A (eval (.ListComp elt [⟨.Name x px, iter, [], 0⟩] scope pos) env) Q E s := by
  rw [eval_ListComp]
  refine wpAny_comprehension_free (use := none) rfl hs hclos hkind hnames (wpAny_mono h (fun xv s₁ h₁ => ?_) fun _ _ e => e)
  obtain ⟨cs, t, news, rfl, hh, F, N, ha, hsz, R⟩ := h₁
  refine wpAny_pyIter_ascii (by simpa using ha) ?_
  refine block_U (walksS hh cs t) hsz (fun i h st => by obtain ⟨o, e, _⟩ := st; exact ⟨o, e⟩) strIter_st hcell hkind hx ⟨_, Heap.get?_push_size _ rfl, rfl, rfl⟩ (fun b hb => ?_)
    (F.keeps fun _ _ e => Heap.get?_push_of_some _ e) (N.grown fun _ _ e => Heap.get?_push_of_some _ e) (Nat.ne_of_lt F.ns.lt) (next_is_new F) (fun p hp => Nat.ne_of_lt (Heap.lt_size (N p hp).1)) trivial (R _ ⟨_, rfl⟩) ?_
  · rw [List.mem_singleton.mp hb]
    show s₁.heap.objs.size < (s₁.heap.push _).objs.size
    rw [Heap.size_push]; exact Nat.lt_succ_self _
  · intro D C h tk m' ys news' F' N' o1 hn hC₀ hD₀ hCL hDL hCD offC fin
    refine ⟨m', hn, fun h'' hs'' => fin D h'' tk (F'.change hs'' hCL hC₀) (fun p hp => ?_) o1⟩
    refine ⟨hs''.extBut _ _ ?_ (N' p hp).1, (N' p hp).2⟩
    rcases List.mem_cons.mp hp with rfl | hp
    · exact Ne.symm hCD
    · exact offC p hp
end
end
section
section
variable {prog : Program} {w : World} {A : Around} {E : Value → Shared → Prop} {s : Shared} {x y z : UInt64} {i j k : Int} {t u v : Tok} {Q : Value → Shared → Prop}
theorem r_fdivI (hb : j ≠ 0) (hs : j.natAbs < 1073741824) (e : i.fdiv j = k) (h : Q (.int k s.toks) { s with toks := s.toks + 1 }) : wpAny (model prog w) A (binaryOp .FloorDiv (.int i t) (.int j u)) Q E s := by subst e; exact floordiv_int hb h (Or.inl (PyProof.noPylong_small hs))
theorem r_fmodI (hb : j ≠ 0) (e : i.fmod j = k) (h : Q (.int k s.toks) { s with toks := s.toks + 1 }) : wpAny (model prog w) A (binaryOp .Mod (.int i t) (.int j u)) Q E s := by subst e; exact mod_int hb h
theorem r_idiv (hh : A.handled = none) (hb : j ≠ 0) (hf : i.natAbs < 2 ^ 1023) (e : Float64.ofFrac (decide (i < 0) != decide (j < 0)) i.natAbs j.natAbs = z) (h : Q (.float z s.toks) { s with toks := s.toks + 1 }) : wpAny (model prog w) A (binaryOp .Div (.int i t) (.int j u)) Q E s := by
  subst e
  exact Flt.div_ii_fits hh hf (fun h0 => absurd h0 hb) (fun _ _ => h)
theorem r_mulIF (hf : i.natAbs < 2 ^ 1023) (h : Q (.float (Float64.mul (Float64.ofInt i) x) s.toks) { s with toks := s.toks + 1 }) : wpAny (model prog w) A (binaryOp .Mult (.int i t) (.float x u)) Q E s := mul_if_fits hf h
theorem r_round (hh : A.handled = none) (hf : Float64.isFinite x = true) (e : Flt.toInt Float64.nearestOf x = k) (h : Q (.int k s.toks) { s with toks := s.toks + 1 }) : wpAny (model prog w) A (call (.builtin "round") [.float x t]) Q E s := by
  subst e
  refine Flt.call_round_float hh (fun h0 => ?_) (fun h0 => ?_) (fun _ => h)
  · unfold Float64.isFinite at hf; unfold Float64.isNaN at h0; split at hf <;> simp_all
  · unfold Float64.isFinite at hf; unfold Float64.isInf at h0; split at hf <;> simp_all
theorem r_litem {h₀ : Heap} {L D : Addr} {news : List (Addr × Obj)} {vs : List Value} {c : Nat} {y : Value} {a : Int} {elts : List Expr} {l r : Expr} {o : Operator} {p p2 : Pos} (N : News h₀ L s.heap news) (hm : (D, listOf vs.toArray c) ∈ news) (h0 : 0 ≤ a) (h1 : a < 8) (e : vs[a.toNat]? = some y) (h : Q y s) :
    wpAny (model prog w) A (subscriptTail (.List elts p) (.BinOp l o r p2) (.ref D) (.int a u)) Q E s :=
  tail_any (News.isList N hm).typeIs slot_list_getitem.lookup (wpAny_getItem_list (News.isList N hm) h0 (by omega) (by simpa using e) h) (by with_unfolding_all rfl)
theorem r_fgt {b : Bool} (e : (Float64.cmp x y == some .gt) = b) (h : Q (.bool b) s) : wpAny (model prog w) A (compareOp .Gt (.float x t) (.float y u)) Q E s := AutoFloatOps.gt_0 (by rw [e]; exact h)
end
end
section
structure LoHi (lo hi : UInt64) : Prop where
  ll : Float64.cmp lo lo = some .eq
  hh : Float64.cmp hi hi = some .eq
  lh : Float64.cmp lo hi = some .lt
  hl : Float64.cmp hi lo = some .gt
  z1 : Float64.isZero (Float64.sub hi lo) = false
  z2 : Float64.isZero hi = false
  z3 : Float64.isZero (Float64.add hi lo) = false
  z4 : Float64.isZero (Float64.sub (Float64.sub 4611686018427387904 hi) lo) = false
  d0 : Float64.div (Float64.sub hi hi) (Float64.sub hi lo) = 0
  d1 : Float64.div (Float64.sub hi lo) (Float64.sub hi lo) = 4607182418800017408
  g1 : (Float64.cmp hi (Float64.div (Float64.add hi lo) 4611686018427387904) == some .gt) = true
  g2 : (Float64.cmp lo (Float64.div (Float64.add hi lo) 4611686018427387904) == some .gt) = false
noncomputable def okB (lo hi : UInt64) : Bool :=
  (Float64.cmp lo lo == some .eq) && (Float64.cmp hi hi == some .eq) && (Float64.cmp lo hi == some .lt) && (Float64.cmp hi lo == some .gt) && (Float64.isZero (Float64.sub hi lo) == false) && (Float64.isZero hi == false) && (Float64.isZero (Float64.add hi lo) == false) && (Float64.isZero (Float64.sub (Float64.sub 4611686018427387904 hi) lo) == false) &&
  (Float64.div (Float64.sub hi hi) (Float64.sub hi lo) == 0) && (Float64.div (Float64.sub hi lo) (Float64.sub hi lo) == 4607182418800017408) && ((Float64.cmp hi (Float64.div (Float64.add hi lo) 4611686018427387904) == some .gt) == true) && ((Float64.cmp lo (Float64.div (Float64.add hi lo) 4611686018427387904) == some .gt) == false)
theorem okB_spec {lo hi : UInt64} (h : okB lo hi = true) : LoHi lo hi := by
  unfold okB at h
  simp only [Bool.and_eq_true, beq_iff_eq] at h
  obtain ⟨⟨⟨⟨⟨⟨⟨⟨⟨⟨⟨a, b⟩, c⟩, d⟩, e⟩, f⟩, g⟩, i⟩, j⟩, k⟩, l⟩, m⟩ := h
  exact ⟨a, b, c, d, e, f, g, i, j, k, by simpa using l, m⟩
theorem okRow0 : ((List.range 8).all fun d => okB (Float64.ofFrac false 0 16) (Float64.ofFrac false (0 + 1 + d) 16)) = true := by decide +kernel
theorem okRow1 : ((List.range 8).all fun d => okB (Float64.ofFrac false 1 16) (Float64.ofFrac false (1 + 1 + d) 16)) = true := by decide +kernel
theorem okRow2 : ((List.range 8).all fun d => okB (Float64.ofFrac false 2 16) (Float64.ofFrac false (2 + 1 + d) 16)) = true := by decide +kernel
theorem okRow3 : ((List.range 8).all fun d => okB (Float64.ofFrac false 3 16) (Float64.ofFrac false (3 + 1 + d) 16)) = true := by decide +kernel
theorem okRow4 : ((List.range 8).all fun d => okB (Float64.ofFrac false 4 16) (Float64.ofFrac false (4 + 1 + d) 16)) = true := by decide +kernel
theorem okRow5 : ((List.range 8).all fun d => okB (Float64.ofFrac false 5 16) (Float64.ofFrac false (5 + 1 + d) 16)) = true := by decide +kernel
theorem okRow6 : ((List.range 8).all fun d => okB (Float64.ofFrac false 6 16) (Float64.ofFrac false (6 + 1 + d) 16)) = true := by decide +kernel
theorem okRow7 : ((List.range 8).all fun d => okB (Float64.ofFrac false 7 16) (Float64.ofFrac false (7 + 1 + d) 16)) = true := by decide +kernel
theorem lohi {l d : Nat} (hl : l < 8) (hd : d < 8) : LoHi (Float64.ofFrac false l 16) (Float64.ofFrac false (l + 1 + d) 16) := by
  have row : ((List.range 8).all fun d => okB (Float64.ofFrac false l 16) (Float64.ofFrac false (l + 1 + d) 16)) = true := by
    have : l = 0 ∨ l = 1 ∨ l = 2 ∨ l = 3 ∨ l = 4 ∨ l = 5 ∨ l = 6 ∨ l = 7 := by omega
    rcases this with rfl | rfl | rfl | rfl | rfl | rfl | rfl | rfl
    · exact okRow0
    · exact okRow1
    · exact okRow2
    · exact okRow3
    · exact okRow4
    · exact okRow5
    · exact okRow6
    · exact okRow7
  exact okB_spec (List.all_eq_true.mp row d (List.mem_range.mpr hd))
theorem ltEq : ((some Ordering.lt : Option Ordering) == some .eq) = false := rfl
theorem eqEq : ((some Ordering.eq : Option Ordering) == some .eq) = true := rfl
theorem ltLt : ((some Ordering.lt : Option Ordering) == some .lt) = true := rfl
theorem eqLt : ((some Ordering.eq : Option Ordering) == some .lt) = false := rfl
theorem gtLt : ((some Ordering.gt : Option Ordering) == some .lt) = false := rfl
theorem hueV0 {lo hi : UInt64} (h : LoHi lo hi) : hueF hi lo lo hi lo = (Float64.divmod (Float64.div (Float64.sub 4607182418800017408 4607182418800017408) 4618441417868443648) 4607182418800017408).2 := by
  simp only [hueF, h.hh, h.lh, h.d0, h.d1, ltEq, eqEq, if_true, if_false, Bool.false_eq_true]
theorem hueN0 : Float64.isFinite (Float64.mul (Float64.ofInt 6) (Float64.divmod (Float64.div (Float64.sub 4607182418800017408 4607182418800017408) 4618441417868443648) 4607182418800017408).2) = true ∧ Flt.toInt Float64.nearestOf (Float64.mul (Float64.ofInt 6) (Float64.divmod (Float64.div (Float64.sub 4607182418800017408 4607182418800017408) 4618441417868443648) 4607182418800017408).2) = 0 := by decide +kernel
theorem maxV0 {lo hi : UInt64} (h : LoHi lo hi) : max3F hi lo lo = hi := by
  simp only [max3F, h.hh, h.lh, h.hl, h.ll, ltLt, eqLt, gtLt, if_true, if_false, Bool.false_eq_true]
theorem minV0 {lo hi : UInt64} (h : LoHi lo hi) : min3F hi lo lo = lo := by
  simp only [min3F, h.hh, h.lh, h.hl, h.ll, ltLt, eqLt, gtLt, if_true, if_false, Bool.false_eq_true]
theorem hueV1 {lo hi : UInt64} (h : LoHi lo hi) : hueF hi hi lo hi lo = (Float64.divmod (Float64.div (Float64.sub 4607182418800017408 0) 4618441417868443648) 4607182418800017408).2 := by
  simp only [hueF, h.hh, h.lh, h.d0, h.d1, ltEq, eqEq, if_true, if_false, Bool.false_eq_true]
theorem hueN1 : Float64.isFinite (Float64.mul (Float64.ofInt 6) (Float64.divmod (Float64.div (Float64.sub 4607182418800017408 0) 4618441417868443648) 4607182418800017408).2) = true ∧ Flt.toInt Float64.nearestOf (Float64.mul (Float64.ofInt 6) (Float64.divmod (Float64.div (Float64.sub 4607182418800017408 0) 4618441417868443648) 4607182418800017408).2) = 1 := by decide +kernel
theorem maxV1 {lo hi : UInt64} (h : LoHi lo hi) : max3F hi hi lo = hi := by
  simp only [max3F, h.hh, h.lh, h.hl, h.ll, ltLt, eqLt, gtLt, if_true, if_false, Bool.false_eq_true]
theorem minV1 {lo hi : UInt64} (h : LoHi lo hi) : min3F hi hi lo = lo := by
  simp only [min3F, h.hh, h.lh, h.hl, h.ll, ltLt, eqLt, gtLt, if_true, if_false, Bool.false_eq_true]
theorem hueV2 {lo hi : UInt64} (h : LoHi lo hi) : hueF lo hi lo hi lo = (Float64.divmod (Float64.div (Float64.sub (Float64.add 4611686018427387904 4607182418800017408) 4607182418800017408) 4618441417868443648) 4607182418800017408).2 := by
  simp only [hueF, h.hh, h.lh, h.d0, h.d1, ltEq, eqEq, if_true, if_false, Bool.false_eq_true]
theorem hueN2 : Float64.isFinite (Float64.mul (Float64.ofInt 6) (Float64.divmod (Float64.div (Float64.sub (Float64.add 4611686018427387904 4607182418800017408) 4607182418800017408) 4618441417868443648) 4607182418800017408).2) = true ∧ Flt.toInt Float64.nearestOf (Float64.mul (Float64.ofInt 6) (Float64.divmod (Float64.div (Float64.sub (Float64.add 4611686018427387904 4607182418800017408) 4607182418800017408) 4618441417868443648) 4607182418800017408).2) = 2 := by decide +kernel
theorem maxV2 {lo hi : UInt64} (h : LoHi lo hi) : max3F lo hi lo = hi := by
  simp only [max3F, h.hh, h.lh, h.hl, h.ll, ltLt, eqLt, gtLt, if_true, if_false, Bool.false_eq_true]
theorem minV2 {lo hi : UInt64} (h : LoHi lo hi) : min3F lo hi lo = lo := by
  simp only [min3F, h.hh, h.lh, h.hl, h.ll, ltLt, eqLt, gtLt, if_true, if_false, Bool.false_eq_true]
theorem hueV3 {lo hi : UInt64} (h : LoHi lo hi) : hueF lo hi hi hi lo = (Float64.divmod (Float64.div (Float64.sub (Float64.add 4611686018427387904 4607182418800017408) 0) 4618441417868443648) 4607182418800017408).2 := by
  simp only [hueF, h.hh, h.lh, h.d0, h.d1, ltEq, eqEq, if_true, if_false, Bool.false_eq_true]
theorem hueN3 : Float64.isFinite (Float64.mul (Float64.ofInt 6) (Float64.divmod (Float64.div (Float64.sub (Float64.add 4611686018427387904 4607182418800017408) 0) 4618441417868443648) 4607182418800017408).2) = true ∧ Flt.toInt Float64.nearestOf (Float64.mul (Float64.ofInt 6) (Float64.divmod (Float64.div (Float64.sub (Float64.add 4611686018427387904 4607182418800017408) 0) 4618441417868443648) 4607182418800017408).2) = 3 := by decide +kernel
theorem maxV3 {lo hi : UInt64} (h : LoHi lo hi) : max3F lo hi hi = hi := by
  simp only [max3F, h.hh, h.lh, h.hl, h.ll, ltLt, eqLt, gtLt, if_true, if_false, Bool.false_eq_true]
theorem minV3 {lo hi : UInt64} (h : LoHi lo hi) : min3F lo hi hi = lo := by
  simp only [min3F, h.hh, h.lh, h.hl, h.ll, ltLt, eqLt, gtLt, if_true, if_false, Bool.false_eq_true]
theorem hueV4 {lo hi : UInt64} (h : LoHi lo hi) : hueF lo lo hi hi lo = (Float64.divmod (Float64.div (Float64.sub (Float64.add 4616189618054758400 4607182418800017408) 4607182418800017408) 4618441417868443648) 4607182418800017408).2 := by
  simp only [hueF, h.hh, h.lh, h.d0, h.d1, ltEq, eqEq, if_true, if_false, Bool.false_eq_true]
theorem hueN4 : Float64.isFinite (Float64.mul (Float64.ofInt 6) (Float64.divmod (Float64.div (Float64.sub (Float64.add 4616189618054758400 4607182418800017408) 4607182418800017408) 4618441417868443648) 4607182418800017408).2) = true ∧ Flt.toInt Float64.nearestOf (Float64.mul (Float64.ofInt 6) (Float64.divmod (Float64.div (Float64.sub (Float64.add 4616189618054758400 4607182418800017408) 4607182418800017408) 4618441417868443648) 4607182418800017408).2) = 4 := by decide +kernel
theorem maxV4 {lo hi : UInt64} (h : LoHi lo hi) : max3F lo lo hi = hi := by
  simp only [max3F, h.hh, h.lh, h.hl, h.ll, ltLt, eqLt, gtLt, if_true, if_false, Bool.false_eq_true]
theorem minV4 {lo hi : UInt64} (h : LoHi lo hi) : min3F lo lo hi = lo := by
  simp only [min3F, h.hh, h.lh, h.hl, h.ll, ltLt, eqLt, gtLt, if_true, if_false, Bool.false_eq_true]
theorem hueV5 {lo hi : UInt64} (h : LoHi lo hi) : hueF hi lo hi hi lo = (Float64.divmod (Float64.div (Float64.sub 0 4607182418800017408) 4618441417868443648) 4607182418800017408).2 := by
  simp only [hueF, h.hh, h.lh, h.d0, h.d1, ltEq, eqEq, if_true, if_false, Bool.false_eq_true]
theorem hueN5 : Float64.isFinite (Float64.mul (Float64.ofInt 6) (Float64.divmod (Float64.div (Float64.sub 0 4607182418800017408) 4618441417868443648) 4607182418800017408).2) = true ∧ Flt.toInt Float64.nearestOf (Float64.mul (Float64.ofInt 6) (Float64.divmod (Float64.div (Float64.sub 0 4607182418800017408) 4618441417868443648) 4607182418800017408).2) = 5 := by decide +kernel
theorem maxV5 {lo hi : UInt64} (h : LoHi lo hi) : max3F hi lo hi = hi := by
  simp only [max3F, h.hh, h.lh, h.hl, h.ll, ltLt, eqLt, gtLt, if_true, if_false, Bool.false_eq_true]
theorem minV5 {lo hi : UInt64} (h : LoHi lo hi) : min3F hi lo hi = lo := by
  simp only [min3F, h.hh, h.lh, h.hl, h.ll, ltLt, eqLt, gtLt, if_true, if_false, Bool.false_eq_true]
end
section
theorem ar_sub {n i : Nat} (h : i < n) : n - i = (n - i - 1) + 1 := by omega
theorem ar_meas {n i : Nat} (h : i < n) : n + 1 - (i + 1) < n + 1 - i := by omega
theorem ar_next {n i j : Nat} (h : n - i = j + 1) : n - (i + 1) = j := by omega
theorem le_k1 (n : Nat) : n ≤ n + 1 := by omega
theorem le_k2 (n : Nat) : n ≤ n + 2 := by omega
theorem le_k3 (n : Nat) : n ≤ n + 2 + 1 := by omega
open PyProof.Rows.LCg in
section
noncomputable def Off4 (I K C D : Addr) (l : List (Addr × Obj)) : Prop := ∀ p ∈ l, (@Ne Nat p.1 I) ∧ (@Ne Nat p.1 K) ∧ (@Ne Nat p.1 C) ∧ (@Ne Nat p.1 D)
noncomputable def CompEndC (h₀ : Heap) (L : Addr) (m : Str → Option Value) (s₁ : Shared) (I : Addr) (oI : Obj) (K : Addr) (oK : Obj) (C : Addr) (oC : Obj) (D : Addr) (oD : Obj) (S : List (Addr × Obj) → Prop) (rest : Value → List (Addr × Obj) → Prop) (y : Value) (s₂ : Shared) : Prop :=
  ∃ h' tk news', s₂ = { s₁ with heap := h', toks := tk } ∧ Fr h₀ L h' m ∧ News h₀ L h' ((I, oI) :: (K, oK) :: (C, oC) :: (D, oD) :: news') ∧ Off4 I K C D news' ∧ S news' ∧ rest y news'
structure NeC (I K C D : Addr) : Prop where
  ik : @Ne Nat I K
  ic : @Ne Nat I C
  id : @Ne Nat I D
  kc : @Ne Nat K C
  kd : @Ne Nat K D
  cd : @Ne Nat C D
theorem neC_of (n : Nat) : NeC n (n + 2 + 1) (n + 2) (n + 1) := ⟨by show (_ : Nat) ≠ _; omega, by show (_ : Nat) ≠ _; omega, by show (_ : Nat) ≠ _; omega, by show (_ : Nat) ≠ _; omega, by show (_ : Nat) ≠ _; omega, by show (_ : Nat) ≠ _; omega⟩
noncomputable def CompRestC (prog : Program) (w : World) (A : Around) (h₀ : Heap) (L : Addr) (m : Str → Option Value) (env : Env) (elt : Expr) (x : Str) (scope : Scope) (cl : List (Str × Addr)) (s : Shared) (S : List (Addr × Obj) → Prop) (P : Nat → Value → Prop)
    (Fin : List Value → List (Addr × Obj) → Prop) : Nat → Nat → List Value → List (Addr × Obj) → Prop
  | 0, _, ys, news => Fin ys news
  | k + 1, i, ys, news => ∀ v I oI K oK C oC D h tk (E' : Value → Shared → Prop), P i v → oK.data = .cell (some v) → Fr h₀ L h m → News h₀ L h ((I, oI) :: (K, oK) :: (C, oC) :: (D, lst ys) :: news) → Off4 I K C D news → NeC I K C D →
      wpAny (model prog w) A (eval elt (compEnvC scope ((x, K) :: cl) C env)) (CompEndC h₀ L m { s with heap := h, toks := tk } I oI K oK C oC D (lst ys) S (fun y news' => CompRestC prog w A h₀ L m env elt x scope cl s S P Fin k (i + 1) (ys ++ [y]) news')) E' { s with heap := h, toks := tk }
variable {prog : Program} {w : World} {A : Around} {E : Value → Shared → Prop} {s : Shared} {h₀ : Heap} {L : Addr} {m : Str → Option Value} {env : Env}
theorem lookup_relabel_cell {env : Env} : ∀ {names : List (Str × NameKind)} {x : Str}, names.lookup x = some .cell →
    (names.map fun (n, k) => if (k == NameKind.free && env.scope.kind == .function && env.kindOf n == some .cell) then (n, NameKind.cell) else (n, k)).lookup x = some .cell
  | [], _, h => by simp at h
  | (n, k) :: r, x, h => by
    have ih := @lookup_relabel_cell env r x
    show List.lookup x ((if (k == NameKind.free && env.scope.kind == .function && env.kindOf n == some .cell) = true then (n, NameKind.cell) else (n, k)) :: _) = _
    cases hx : x == n with
    | true => simp only [List.lookup_cons, hx] at h; cases h; simp [List.lookup_cons, hx]
    | false =>
      simp only [List.lookup_cons, hx] at h
      split <;> (simp only [List.lookup_cons, hx]; exact ih h)
theorem newEnv_cell1 {scope : Scope} {x : Str} {globals : Addr} {cl : List (Str × Addr)} {qual : Str} {Q : Env → Shared → Prop}
    (hcf : ∀ n acc, cellsFrom n scope.names acc = (x, n) :: acc) (hpc : ∀ h, pushCells h scope.names = h.push { cls := .type "cell", data := .cell none })
    (h : Q (newEnv scope s.heap.objs.size globals ((x, s.heap.objs.size + 1) :: cl) qual none .none (some env) env.builtins) { s with heap := (s.heap.push { cls := .type "dict", data := .dict #[] }).push { cls := .type "cell", data := .cell none } }) :
    wpAny (model prog w) A (newFunctionEnv scope globals cl [] qual none .none (some env)) Q E s := by
  simp only [newFunctionEnv, Option.isSome_some, if_true]
  refine wpAny_bind (wpAny_alloc ?_)
  refine wpAny_bind (wpAny_layCells _ (fun name kind cells => by cases hkc : kind == NameKind.cell <;> simp [hkc]) _ _ _ _ ?_)
  rw [hcf, hpc]
  rw [show ({ s with heap := s.heap.push { cls := .type "dict", data := .dict #[] } } : Shared).heap.objs.size = s.heap.objs.size + 1 from Heap.size_push ..]
  refine wpAny_bind ?_
  rw [List.forIn_nil]
  exact wpAny_pure (wpAny_pure h)

theorem fr_keep {h h' : Heap} {ex : List Addr} (F : Fr h₀ L h m) (hk : ∀ b o, b ∉ ex → h.get? b = some o → h'.get? b = some o) (hL : L ∉ ex) (hn : ∀ b ∈ ex, h₀.get? b = none) : Fr h₀ L h' m :=
  ⟨F.ns.at' fun o e => hk L o hL e, fun b o e => hk b o (fun hm => by rw [hn b hm] at e; cases e) (F.keep b o e), F.above⟩
theorem news_keep {h h' : Heap} {ex : List Addr} {news : List (Addr × Obj)} (N : News h₀ L h news) (hk : ∀ b o, b ∉ ex → h.get? b = some o → h'.get? b = some o) (off : ∀ p ∈ news, p.1 ∉ ex) : News h₀ L h' news :=
  fun p hp => ⟨hk _ _ (off p hp) (N p hp).1, (N p hp).2⟩
theorem keep_same {h h' : Heap} {a : Addr} (hs : Heap.SameBut a h h') : ∀ b o, b ∉ [a] → h.get? b = some o → h'.get? b = some o :=
  fun b o hb e => (hs.2 b (by simpa using hb)).trans e
theorem off4_not {I K C D : Addr} {l : List (Addr × Obj)} (o : Off4 I K C D l) : ∀ p ∈ l, p.1 ∉ [I] ∧ p.1 ∉ [K] ∧ p.1 ∉ [D] ∧ p.1 ∉ [C] :=
  fun p hp => ⟨by simpa using (o p hp).1, by simpa using (o p hp).2.1, by simpa using (o p hp).2.2.2, by simpa using (o p hp).2.2.1⟩
theorem loop_C {elt iter : Expr} {x : Str} {px : Pos} {scope : Scope} {cl : List (Str × Addr)} {pos : Pos} {s₂ : Shared} {Fin : List Value → List (Addr × Obj) → Prop} {R : Result → Shared → Prop} {I K C D ax : Addr} {its : Array Value} {n : Nat}
    (hh : A.handled = none) (ne : NeC I K C D) (hL : L ≠ I ∧ L ≠ K ∧ L ≠ C ∧ L ≠ D) (h0 : ∀ b ∈ [I, K, C, D], h₀.get? b = none) (hkind : scope.kind = .function) (hx : scope.names.lookup x = some .cell) (hsz : its.size ≤ sizeLine) (hax : ax ≠ I)
    (hR : ∀ h tk ys news' oC, Fr h₀ L h m → News h₀ L h ((D, lst ys) :: news') → Off1 D news' → (∀ p ∈ (D, lst ys) :: news', p.1 ≠ C) → h.get? C = some oC → (∃ m', NsObj oC m') → Fin ys news' → R (.ok .next) { s₂ with heap := h, toks := tk })
    (k : Nat) (s' : Shared)
    (st : ∃ h' tk i ys news' oI oK oC v0, s' = { s₂ with heap := h', toks := tk } ∧ i ≤ its.size ∧ k = its.size + 1 - i ∧ ys.length = i ∧ h'.IsListIter I ax i ∧ Fr h₀ L h' m ∧ News h₀ L h' ((I, oI) :: (K, oK) :: (C, oC) :: (D, lst ys) :: news') ∧
      oK.data = .cell v0 ∧ (∃ m', NsObj oC m') ∧ Off4 I K C D news' ∧ (ax, listOf its n) ∈ news' ∧ CompRestC prog w A h₀ L m env elt x scope cl s₂ (fun nw => (ax, listOf its n) ∈ nw) (fun i v => its[i]? = some v) Fin (its.size - i) i ys news') :
    codeAny (model prog w) A (.compLoop (.ListComp elt [⟨.Name x px, iter, [], 0⟩] scope pos) 0 (.ref I) (.ref D) (compEnvC scope ((x, K) :: cl) C env)) R s' := by
  refine codeAny_compLoop_tests (fun k s' => ∃ h' tk i ys news' oI oK oC v0, s' = { s₂ with heap := h', toks := tk } ∧ i ≤ its.size ∧ k = its.size + 1 - i ∧ ys.length = i ∧ h'.IsListIter I ax i ∧ Fr h₀ L h' m ∧ News h₀ L h' ((I, oI) :: (K, oK) :: (C, oC) :: (D, lst ys) :: news') ∧ oK.data = .cell v0 ∧ (∃ m', NsObj oC m') ∧ Off4 I K C D news' ∧ (ax, listOf its n) ∈ news' ∧ CompRestC prog w A h₀ L m env elt x scope cl s₂ (fun nw => (ax, listOf its n) ∈ nw) (fun i v => its[i]? = some v) Fin (its.size - i) i ys news') ?_ k st
  rintro k s' ⟨h', tk, i, ys, news', oI, oK, oC, v0, rfl, hi, rfl, hyl, hit, F, N, hK, hC, off, hmem, R'⟩
  have W := Walks.list (prog := prog) (w := w) hh I ax hax its
  have Nn : News h₀ L h' news' := fun p hp => N p (List.mem_cons_of_mem _ (List.mem_cons_of_mem _ (List.mem_cons_of_mem _ (List.mem_cons_of_mem _ hp))))
  have gK := (N (K, oK) (List.mem_cons_of_mem _ List.mem_cons_self)).1
  have gC := (N (C, oC) (List.mem_cons_of_mem _ (List.mem_cons_of_mem _ List.mem_cons_self))).1
  have gD := (N (D, lst ys) (List.mem_cons_of_mem _ (List.mem_cons_of_mem _ (List.mem_cons_of_mem _ List.mem_cons_self)))).1
  have nn := off4_not off
  by_cases hlt : i < its.size
  · obtain ⟨j, hj⟩ : ∃ j, its.size - i = j + 1 := ⟨_, ar_sub hlt⟩
    rw [hj] at R'
    refine W.item i _ _ _ hlt ⟨hit, Nn.isList hmem⟩ fun v h₂ tk₂ hv hst₂ hk₂ => ?_
    refine wpAny_assign_Name (wpAny_storeName_cell (by simp [compEnvC, relabel, hkind]) (lookup_relabel_cell hx) (by simp [compEnvC]) ⟨oK, hk₂ _ _ (by simpa using ne.ik.symm) gK, hK⟩ fun h₃ hc₃ hs₃ => ?_)
    refine wpAny_tests_nil ?_
    simp only [if_true]
    have hk₃ := keep_same hs₃
    obtain ⟨oK', gK', dK'⟩ := hc₃
    obtain ⟨oI', gI', hI'⟩ := hst₂.1
    have F₂ : Fr h₀ L h₂ m := fr_keep F hk₂ (by simpa using hL.1) (by simpa using h0 I (by simp))
    have F₃ : Fr h₀ L h₃ m := fr_keep F₂ hk₃ (by simpa using hL.2.1) (by simpa using h0 K (by simp))
    have N₃ : News h₀ L h₃ ((I, oI') :: (K, oK') :: (C, oC) :: (D, lst ys) :: news') := by
      intro p hp
      simp only [List.mem_cons] at hp
      rcases hp with rfl | rfl | rfl | rfl | hp
      · exact ⟨hk₃ _ _ (by simpa using ne.ik) gI', hL.1.symm, h0 _ (by simp)⟩
      · exact ⟨gK', hL.2.1.symm, h0 _ (by simp)⟩
      · exact ⟨hk₃ _ _ (by simpa using ne.kc.symm) (hk₂ _ _ (by simpa using ne.ic.symm) gC), hL.2.2.1.symm, h0 _ (by simp)⟩
      · exact ⟨hk₃ _ _ (by simpa using ne.kd.symm) (hk₂ _ _ (by simpa using ne.id.symm) gD), hL.2.2.2.symm, h0 _ (by simp)⟩
      · exact ⟨hk₃ _ _ (nn p hp).2.1 (hk₂ _ _ (nn p hp).1 (Nn p hp).1), (Nn p hp).2⟩
    refine wpAny_mono (R' v I oI' K oK' C oC D h₃ _ _ hv dK' F₃ N₃ off ne) (fun y s₄ h₄ => ?_) fun _ _ e => e
    obtain ⟨h₄, tk₄, news₄, rfl, F₄, N₄, off₄, hS₄, R₄⟩ := h₄
    have gI4 := (N₄ (I, oI') List.mem_cons_self).1
    have gK4 := (N₄ (K, oK') (List.mem_cons_of_mem _ List.mem_cons_self)).1
    have gC4 := (N₄ (C, oC) (List.mem_cons_of_mem _ (List.mem_cons_of_mem _ List.mem_cons_self))).1
    have gD4 := (N₄ (D, lst ys) (List.mem_cons_of_mem _ (List.mem_cons_of_mem _ (List.mem_cons_of_mem _ List.mem_cons_self)))).1
    have Nn4 : News h₀ L h₄ news₄ := fun p hp => N₄ p (List.mem_cons_of_mem _ (List.mem_cons_of_mem _ (List.mem_cons_of_mem _ (List.mem_cons_of_mem _ hp))))
    have nn4 := off4_not off₄
    refine append_at (hsz := by show ys.toArray.size ≤ sizeLine; rw [List.size_toArray, hyl]; exact Nat.le_trans hi hsz) gD4 fun h₅ hs₅ hD₅ => ?_
    have hk₅ := keep_same hs₅
    refine ⟨its.size + 1 - (i + 1), ar_meas hlt, h₅, tk₄, i + 1, ys ++ [y], news₄, oI', oK', oC, some v, rfl, hlt, rfl, by rw [List.length_append, List.length_singleton, hyl], ⟨oI', hk₅ _ _ (by simpa using ne.id) gI4, hI'⟩,
      fr_keep F₄ hk₅ (by simpa using hL.2.2.2) (by simpa using h0 D (by simp)), fun p hp => ?_, dK', hC, off₄, hS₄, ?_⟩
    · simp only [List.mem_cons] at hp
      rcases hp with rfl | rfl | rfl | rfl | hp
      · exact ⟨hk₅ _ _ (by simpa using ne.id) gI4, hL.1.symm, h0 _ (by simp)⟩
      · exact ⟨hk₅ _ _ (by simpa using ne.kd) gK4, hL.2.1.symm, h0 _ (by simp)⟩
      · exact ⟨hk₅ _ _ (by simpa using ne.cd) gC4, hL.2.2.1.symm, h0 _ (by simp)⟩
      · exact ⟨hD₅.trans (congrArg some (lst_snoc ys y)), hL.2.2.2.symm, h0 _ (by simp)⟩
      · exact ⟨hk₅ _ _ (nn4 p hp).2.2.1 (Nn4 p hp).1, (Nn4 p hp).2⟩
    · rw [ar_next hj]
      exact R₄
  · obtain rfl : i = its.size := Nat.le_antisymm hi (Nat.not_lt.mp hlt)
    rw [Nat.sub_self] at R'
    refine W.done _ _ _ ⟨hit, Nn.isList hmem⟩ fun h₂ tk₂ hk₂ => ?_
    refine hR h₂ tk₂ ys news' oC (fr_keep F hk₂ (by simpa using hL.1) (by simpa using h0 I (by simp))) (fun p hp => ?_) ?_ (fun p hp => ?_) (hk₂ _ _ (by simpa using ne.ic.symm) gC) hC R'
    · rcases List.mem_cons.mp hp with rfl | hp
      · exact ⟨hk₂ _ _ (by simpa using ne.id.symm) gD, hL.2.2.2.symm, h0 _ (by simp)⟩
      · exact ⟨hk₂ _ _ (nn p hp).1 (Nn p hp).1, (Nn p hp).2⟩
    · exact Off3.one (I := I) (C := C) (Off3.of fun p hp => ⟨(off p hp).1, (off p hp).2.2.1, (off p hp).2.2.2⟩)
    · rcases List.mem_cons.mp hp with rfl | hp
      · exact ne.cd.symm
      · exact (off p hp).2.2.1
noncomputable def SrcC (prog : Program) (w : World) (A : Around) (h₀ : Heap) (L : Addr) (m : Str → Option Value) (env : Env) (elt : Expr) (x : Str) (scope : Scope) (cl : List (Str × Addr)) (Q : Value → Shared → Prop) (xv : Value) (s₁ : Shared) : Prop :=
  ∃ ax its n news, xv = .ref ax ∧ A.handled = none ∧ Fr h₀ L s₁.heap m ∧ News h₀ L s₁.heap news ∧ (ax, listOf its n) ∈ news ∧ its.size ≤ sizeLine ∧
      ∀ s₂ : Shared, (∃ h, s₂ = { s₁ with heap := h }) → CompRestC prog w A h₀ L m env elt x scope cl s₂ (fun nw => (ax, listOf its n) ∈ nw) (fun i v => its[i]? = some v) (FinE h₀ L m s₂ Q) its.size 0 [] news
theorem SrcC.intro {elt : Expr} {x : Str} {scope : Scope} {cl : List (Str × Addr)} {Q : Value → Shared → Prop} {ax : Addr} {its : Array Value} {n : Nat} {news : List (Addr × Obj)} {s₁ : Shared}
    (hh : A.handled = none) (F : Fr h₀ L s₁.heap m) (N : News h₀ L s₁.heap news) (hm : (ax, listOf its n) ∈ news) (hsz : its.size ≤ sizeLine)
    (h : ∀ g, CompRestC prog w A h₀ L m env elt x scope cl { s₁ with heap := g } (fun nw => (ax, listOf its n) ∈ nw) (fun i v => its[i]? = some v) (FinE h₀ L m { s₁ with heap := g } Q) its.size 0 [] news) :
    SrcC prog w A h₀ L m env elt x scope cl Q (.ref ax) s₁ := ⟨ax, its, n, news, rfl, hh, F, N, hm, hsz, fun _ ⟨g, e⟩ => e ▸ h g⟩
theorem ListComp_C {elt iter : Expr} {x : Str} {px : Pos} {scope : Scope} {cl : List (Str × Addr)} {pos : Pos} {Q : Value → Shared → Prop} (F₀ : Fr h₀ L s.heap m)
    (hclos : closureFor scope env = pure cl) (hcf : ∀ n acc, cellsFrom n scope.names acc = (x, n) :: acc) (hpc : ∀ h, pushCells h scope.names = h.push { cls := .type "cell", data := .cell none }) (hkind : scope.kind = .function)
    (hnames : ∀ y ∈ scope.names, y.2 = .local → scope.names.lookup y.1 = some .local) (hx : scope.names.lookup x = some .cell)
    (h : wpAny (model prog w) A (eval iter env) (SrcC prog w A h₀ L m env elt x scope cl Q) E s)
    (hs : ∀ x, foldedSetIterable iter env x = pure x := by intro _; rfl) :
    wpAny (model prog w) A (eval (.ListComp elt [⟨.Name x px, iter, [], 0⟩] scope pos) env) Q E s := by
  rw [eval_ListComp]
  refine wpAny_comprehension_free (use := none) rfl hs hclos hkind hnames (wpAny_mono h (fun xv s₁ h₁ => ?_) fun _ _ e => e)
  obtain ⟨ax, its, n, news, rfl, hh, F, N, hax, hsz, R⟩ := h₁
  refine wpAny_pyIter_list (N.isList hax) ?_
  have axlt : ax < s₁.heap.objs.size := Heap.lt_size (N _ hax).1
  have up : ∀ b o, s₁.heap.get? b = some o → (s₁.heap.push { cls := .type "list_iterator", data := .fields #[.ref ax, .int 0 0] }).get? b = some o := fun b o e => Heap.get?_push_of_some _ e
  have R := R _ ⟨s₁.heap.push { cls := .type "list_iterator", data := .fields #[.ref ax, .int 0 0] }, rfl⟩
  have Ilt : L < s₁.heap.objs.size := F.ns.lt
  have fresh₀ : ∀ a, s₁.heap.objs.size ≤ a → h₀.get? a = none := fun a ha => by
    cases e : h₀.get? a with
    | none => rfl
    | some o' => exact absurd (Heap.lt_size (F.keep a o' e)) (Nat.not_lt.mpr ha)
  have nlt : ∀ p ∈ news, p.1 < s₁.heap.objs.size := fun p hp => Heap.lt_size (N p hp).1
  refine wpAny_newObj_type (newEnv_cell1 hcf hpc ?_)
  dsimp only
  have e1 : (s₁.heap.push { cls := .type "list_iterator", data := .fields #[.ref ax, .int 0 0] }).objs.size = s₁.heap.objs.size + 1 := Heap.size_push ..
  have e2 : ((s₁.heap.push { cls := .type "list_iterator", data := .fields #[.ref ax, .int 0 0] }).push { cls := .type "list", dict := none, data := .seq ([] : List Value).toArray }).objs.size = s₁.heap.objs.size + 2 := by rw [Heap.size_push, e1]
  have e3 : (((s₁.heap.push { cls := .type "list_iterator", data := .fields #[.ref ax, .int 0 0] }).push { cls := .type "list", dict := none, data := .seq ([] : List Value).toArray }).push { cls := .type "dict", data := .dict #[] }).objs.size = s₁.heap.objs.size + 3 := by rw [Heap.size_push, e2]
  have g0 : s₁.heap.push { cls := .type "list_iterator", data := .fields #[.ref ax, .int 0 0] } = s₁.heap.push { cls := .type "list_iterator", data := .fields #[.ref ax, .int 0 0] } := rfl
  rw [e1, e2]
  have up4 : ∀ b o, s₁.heap.get? b = some o → ((((s₁.heap.push { cls := .type "list_iterator", data := .fields #[.ref ax, .int 0 0] }).push { cls := .type "list", dict := none, data := .seq ([] : List Value).toArray }).push { cls := .type "dict", data := .dict #[] }).push { cls := .type "cell", data := .cell none }).get? b = some o :=
    fun b o e => Heap.get?_push_of_some _ (Heap.get?_push_of_some _ (Heap.get?_push_of_some _ (Heap.get?_push_of_some _ e)))
  have gI : ((((s₁.heap.push { cls := .type "list_iterator", data := .fields #[.ref ax, .int 0 0] }).push { cls := .type "list", dict := none, data := .seq ([] : List Value).toArray }).push { cls := .type "dict", data := .dict #[] }).push { cls := .type "cell", data := .cell none }).get? s₁.heap.objs.size = some { cls := .type "list_iterator", data := .fields #[.ref ax, .int 0 0] } :=
    Heap.get?_push_of_some _ (Heap.get?_push_of_some _ (Heap.get?_push_of_some _ (Heap.get?_push_size _ rfl)))
  have gD : ((((s₁.heap.push { cls := .type "list_iterator", data := .fields #[.ref ax, .int 0 0] }).push { cls := .type "list", dict := none, data := .seq ([] : List Value).toArray }).push { cls := .type "dict", data := .dict #[] }).push { cls := .type "cell", data := .cell none }).get? (s₁.heap.objs.size + 1) = some (lst []) :=
    Heap.get?_push_of_some _ (Heap.get?_push_of_some _ (e1 ▸ Heap.get?_push_size _ rfl))
  have gC : ((((s₁.heap.push { cls := .type "list_iterator", data := .fields #[.ref ax, .int 0 0] }).push { cls := .type "list", dict := none, data := .seq ([] : List Value).toArray }).push { cls := .type "dict", data := .dict #[] }).push { cls := .type "cell", data := .cell none }).get? (s₁.heap.objs.size + 2) = some { cls := .type "dict", data := .dict #[] } :=
    Heap.get?_push_of_some _ (e2 ▸ Heap.get?_push_size _ rfl)
  have gK : ((((s₁.heap.push { cls := .type "list_iterator", data := .fields #[.ref ax, .int 0 0] }).push { cls := .type "list", dict := none, data := .seq ([] : List Value).toArray }).push { cls := .type "dict", data := .dict #[] }).push { cls := .type "cell", data := .cell none }).get? (s₁.heap.objs.size + 3) = some { cls := .type "cell", data := .cell none } :=
    e3 ▸ Heap.get?_push_size _ rfl
  generalize hH : ((((s₁.heap.push { cls := .type "list_iterator", data := .fields #[.ref ax, .int 0 0] }).push { cls := .type "list", dict := none, data := .seq ([] : List Value).toArray }).push { cls := .type "dict", data := .dict #[] }).push { cls := .type "cell", data := .cell none }) = H at *
  have lp : ∀ s', s' = { s₁ with heap := H } → codeAny (model prog w) A (.compLoop (.ListComp elt [⟨.Name x px, iter, [], 0⟩] scope pos) 0 (.ref s₁.heap.objs.size) (.ref (s₁.heap.objs.size + 1)) (compEnvC scope ((x, s₁.heap.objs.size + 2 + 1) :: cl) (s₁.heap.objs.size + 2) env))
      (compPost (model prog w) A E none Q (.ref (s₁.heap.objs.size + 1)) (s₁.heap.objs.size + 2)) s' := by
    rintro _ rfl
    refine loop_C (s₂ := { s₁ with heap := s₁.heap.push { cls := .type "list_iterator", data := .fields #[.ref ax, .int 0 0] } }) (ax := ax) (its := its) (n := n) hh (neC_of _)
      ⟨Nat.ne_of_lt Ilt, Nat.ne_of_lt (Nat.lt_of_lt_of_le Ilt (le_k3 _)), Nat.ne_of_lt (Nat.lt_of_lt_of_le Ilt (le_k2 _)), Nat.ne_of_lt (Nat.lt_of_lt_of_le Ilt (le_k1 _))⟩ (fun b hb => fresh₀ b ?_) hkind hx hsz (Nat.ne_of_lt axlt) ?_ (its.size + 1) _
      ⟨H, _, 0, [], news, { cls := .type "list_iterator", data := .fields #[.ref ax, .int 0 0] }, { cls := .type "cell", data := .cell none }, { cls := .type "dict", data := .dict #[] }, none, rfl, Nat.zero_le _, rfl, rfl, ⟨_, gI, rfl, rfl⟩, F.keeps up4, fun p hp => ?_, rfl, ?_, fun p hp => ?_, hax, R⟩
    · simp only [List.mem_cons, List.not_mem_nil, or_false] at hb
      rcases hb with rfl | rfl | rfl | rfl <;> first | exact Nat.le_refl _ | exact le_k1 _ | exact le_k2 _ | exact le_k3 _
    · intro h tk ys news' oC F' N' o1 hC gC' hNs fin
      obtain ⟨m', hm'⟩ := hNs
      refine ⟨m', hm'.ns gC', fun h'' hs'' => fin _ h'' tk (F'.change hs'' (Nat.ne_of_gt (Nat.lt_of_lt_of_le Ilt (le_k2 _))) (fresh₀ _ (le_k2 _))) (fun p hp => ⟨hs''.extBut _ _ (hC p hp) (N' p hp).1, (N' p hp).2⟩) o1⟩
    · simp only [List.mem_cons] at hp
      have hLn : ∀ a, s₁.heap.objs.size ≤ a → a ≠ L ∧ h₀.get? a = none := fun a ha => ⟨Nat.ne_of_gt (Nat.lt_of_lt_of_le Ilt ha), fresh₀ a ha⟩
      rcases hp with rfl | rfl | rfl | rfl | hp
      · exact ⟨gI, hLn _ (Nat.le_refl _)⟩
      · exact ⟨gK, hLn _ (le_k3 _)⟩
      · exact ⟨gC, hLn _ (le_k2 _)⟩
      · exact ⟨gD, hLn _ (le_k1 _)⟩
      · exact ⟨up4 _ _ (N p hp).1, (N p hp).2⟩
    · exact ⟨fun _ => none, _, _, rfl, by intro x hx; simp at hx, fun _ => rfl⟩
    · have : @LT.lt Nat _ p.1 s₁.heap.objs.size := nlt p hp
      exact ⟨Nat.ne_of_lt this, Nat.ne_of_lt (Nat.lt_of_lt_of_le this (le_k3 _)), Nat.ne_of_lt (Nat.lt_of_lt_of_le this (le_k2 _)), Nat.ne_of_lt (Nat.lt_of_lt_of_le this (le_k1 _))⟩
  have W := Walks.list (prog := prog) (w := w) hh s₁.heap.objs.size ax (Nat.ne_of_lt axlt) its
  exact codeAny_compStart_list (lp _ rfl) (W.self 0 _ _ _ ⟨⟨_, gI, rfl, rfl⟩, ⟨_, up4 _ _ (N _ hax).1, rfl, _, rfl⟩⟩ (lp _ rfl))
end
end
section
open PyProof.Rows.LCg PyProof.Rows.LCt in
section
variable {prog : Program} {w : World} {A : Around} {E : Value → Shared → Prop} {s : Shared} {h₀ : Heap} {L : Addr} {m : Str → Option Value} {env : Env}
noncomputable def EndM (h₀ : Heap) (L : Addr) (m : Str → Option Value) (s : Shared) (all : List (Addr × Obj)) (R : Value → Prop) (y : Value) (s' : Shared) : Prop :=
  ∃ h' tk', s' = { s with heap := h', toks := tk' } ∧ Fr h₀ L h' m ∧ News h₀ L h' all ∧ R y
theorem EndM.intro {h' : Heap} {tk' : Nat} {all more : List (Addr × Obj)} {R : Value → Prop} {y : Value} (F : Fr h₀ L h' m) (N : News h₀ L h' more) (sub : ∀ p ∈ all, p ∈ more) (r : R y) : EndM h₀ L m s all R y { s with heap := h', toks := tk' } :=
  ⟨h', tk', rfl, F, fun p hp => N p (sub p hp), r⟩
/-- the element's turn leaves the ledger as it was -/
theorem restC_map {elt : Expr} {x : Str} {scope : Scope} {cl : List (Str × Addr)} {S : List (Addr × Obj) → Prop} {P : Nat → Value → Prop} {Fin : List Value → List (Addr × Obj) → Prop} {news : List (Addr × Obj)} (hS : S news) (Rel : Nat → Value → Prop) (n : Nat)
    (turn : ∀ i v I oI K oK C oC D ys h tk (E' : Value → Shared → Prop), i < n → P i v → oK.data = .cell (some v) → Fr h₀ L h m → News h₀ L h ((I, oI) :: (K, oK) :: (C, oC) :: (D, lst ys) :: news) → Off4 I K C D news → NeC I K C D →
      wpAny (model prog w) A (eval elt (compEnvC scope ((x, K) :: cl) C env)) (EndM h₀ L m { s with heap := h, toks := tk } ((I, oI) :: (K, oK) :: (C, oC) :: (D, lst ys) :: news) (Rel i)) E' { s with heap := h, toks := tk })
    (fin : ∀ ys : List Value, ys.length = n → (∀ i y, ys[i]? = some y → Rel i y) → Fin ys news) :
    ∀ k i (ys : List Value), i + k = n → ys.length = i → (∀ j y, ys[j]? = some y → Rel j y) → CompRestC prog w A h₀ L m env elt x scope cl s S P Fin k i ys news
  | 0, i, ys, hk, hy, hr => fin ys (by omega) hr
  | k + 1, i, ys, hk, hy, hr => by
    intro v I oI K oK C oC D h tk E' hP hK F N off ne
    refine wpAny_mono (turn i v I oI K oK C oC D ys h tk E' (by omega) hP hK F N off ne) (fun y s' hy' => ?_) fun _ _ e => e
    obtain ⟨h', tk', rfl, F', N', r⟩ := hy'
    refine ⟨h', tk', news, rfl, F', N', off, hS, restC_map hS Rel n turn fin k (i + 1) (ys ++ [y]) (by omega) (by rw [List.length_append, List.length_singleton, hy]) fun j z hz => ?_⟩
    by_cases hj : j < ys.length
    · rw [List.getElem?_append_left hj] at hz; exact hr j z hz
    · rw [List.getElem?_append_right (by omega)] at hz
      have hj' : j - ys.length = 0 := by
        cases e : j - ys.length with
        | zero => rfl
        | succ q => rw [e] at hz; simp at hz
      rw [hj'] at hz
      have : j = i := by omega
      simp at hz
      subst hz; subst this; exact r
theorem rest_map {elt : Expr} {x : Str} {scope : Scope} {cl : List (Str × Addr)} {S : List (Addr × Obj) → Prop} {P : Nat → Value → Prop} {Fin : List Value → List (Addr × Obj) → Prop} {news : List (Addr × Obj)} (hS : S news) (Rel : Nat → Value → Prop) (n : Nat)
    (turn : ∀ i v I oI C oC D m₂ ys h tk (E' : Value → Shared → Prop), i < n → P i v → NsObj oC m₂ → m₂ x = some v → Fr h₀ L h m → News h₀ L h ((I, oI) :: (C, oC) :: (D, lst ys) :: news) → Off3 I C D news → ((@Ne Nat I C) ∧ (@Ne Nat I D) ∧ (@Ne Nat C D)) →
      wpAny (model prog w) A (eval elt (compEnvC scope cl C env)) (EndM h₀ L m { s with heap := h, toks := tk } ((I, oI) :: (C, oC) :: (D, lst ys) :: news) (Rel i)) E' { s with heap := h, toks := tk })
    (fin : ∀ ys : List Value, ys.length = n → (∀ i y, ys[i]? = some y → Rel i y) → Fin ys news) :
    ∀ k i (ys : List Value), i + k = n → ys.length = i → (∀ j y, ys[j]? = some y → Rel j y) → CompRest prog w A h₀ L m env elt x scope cl s S P Fin k i ys news
  | 0, i, ys, hk, hy, hr => fin ys (by omega) hr
  | k + 1, i, ys, hk, hy, hr => by
    intro v I oI C oC D m₂ h tk E' hP hC hx F N off ne
    refine wpAny_mono (turn i v I oI C oC D m₂ ys h tk E' (by omega) hP hC hx F N off ne) (fun y s' hy' => ?_) fun _ _ e => e
    obtain ⟨h', tk', rfl, F', N', r⟩ := hy'
    refine ⟨h', tk', news, rfl, F', N', off, hS, rest_map hS Rel n turn fin k (i + 1) (ys ++ [y]) (by omega) (by rw [List.length_append, List.length_singleton, hy]) fun j z hz => ?_⟩
    by_cases hj : j < ys.length
    · rw [List.getElem?_append_left hj] at hz; exact hr j z hz
    · rw [List.getElem?_append_right (by omega)] at hz
      have hj' : j - ys.length = 0 := by
        cases e : j - ys.length with
        | zero => rfl
        | succ q => rw [e] at hz; simp at hz
      rw [hj'] at hz
      have : j = i := by omega
      simp at hz
      subst hz; subst this; exact r
theorem intsOf {f : Nat → Int} : ∀ (n : Nat) (ys : List Value), ys.length = n → (∀ i y, ys[i]? = some y → ∃ t, y = Value.int (f i) t) → IntsAre ys ((List.range n).map f)
  | 0, ys, h, _ => by
    have : ys = [] := List.length_eq_zero_iff.mp h
    subst this; exact .nil
  | n + 1, ys, h, hr => by
    obtain ⟨zs, z, rfl⟩ : ∃ zs z, ys = zs ++ [z] := ⟨ys.dropLast, ys.getLast (by intro e; subst e; simp at h), (List.dropLast_concat_getLast _).symm⟩
    have hz : zs.length = n := by simpa using h
    rw [List.range_succ, List.map_append]
    refine IntsAre.append (intsOf n zs hz fun i y hi => hr i y (by rw [List.getElem?_append_left ((List.getElem?_eq_some_iff.mp hi).1)]; exact hi)) ?_
    obtain ⟨t, rfl⟩ := hr n z (by rw [List.getElem?_append_right (by omega), hz]; simp)
    exact .cons _ t .nil
/-- a filter of ints: the test and the element leave the ledger as it was -/
theorem restT_filt {ct elt : Expr} {x : Str} {scope : Scope} {cl : List (Str × Addr)} {S : List (Addr × Obj) → Prop} {P : Nat → Value → Prop} {Fin : List Value → List (Addr × Obj) → Prop} {news : List (Addr × Obj)} (hS : S news) (p : Int → Bool) (xs : List Int)
    (turn : ∀ (i : Nat) (z : Int) (t : Tok) I oI C oC D m₂ ys h tk (E' : Value → Shared → Prop), xs[i]? = some z → P i (.int z t) → NsObj oC m₂ → m₂ x = some (.int z t) → Fr h₀ L h m → News h₀ L h ((I, oI) :: (C, oC) :: (D, lst ys) :: news) → Off3 I C D news → ((@Ne Nat I C) ∧ (@Ne Nat I D) ∧ (@Ne Nat C D)) →
      wpAny (model prog w) A (isTrue ct (compEnvC scope cl C env) (eval ct (compEnvC scope cl C env))) (fun ok s' => ok = p z ∧ EndM h₀ L m { s with heap := h, toks := tk } ((I, oI) :: (C, oC) :: (D, lst ys) :: news) (fun _ => True) Value.none s') E' { s with heap := h, toks := tk })
    (turn2 : ∀ (i : Nat) (z : Int) (t : Tok) I oI C oC D m₂ ys h tk (E' : Value → Shared → Prop), xs[i]? = some z → P i (.int z t) → NsObj oC m₂ → m₂ x = some (.int z t) → Fr h₀ L h m → News h₀ L h ((I, oI) :: (C, oC) :: (D, lst ys) :: news) → Off3 I C D news → ((@Ne Nat I C) ∧ (@Ne Nat I D) ∧ (@Ne Nat C D)) →
      wpAny (model prog w) A (eval elt (compEnvC scope cl C env)) (EndM h₀ L m { s with heap := h, toks := tk } ((I, oI) :: (C, oC) :: (D, lst ys) :: news) (fun y => ∃ t, y = Value.int z t)) E' { s with heap := h, toks := tk })
    (hP : ∀ i v, i < xs.length → P i v → ∃ z t, xs[i]? = some z ∧ v = Value.int z t)
    (fin : ∀ ys : List Value, IntsAre ys (xs.filter p) → Fin ys news) :
    ∀ k i (ys : List Value), i + k = xs.length → IntsAre ys ((xs.take i).filter p) → CompRestT prog w A h₀ L m env ct elt x scope cl s S P Fin k i ys news
  | 0, i, ys, hk, hy => fin ys (by rwa [List.take_of_length_le (by omega)] at hy)
  | k + 1, i, ys, hk, hy => by
    intro v I oI C oC D m₂ h tk E' hPv hC hx F N off ne
    obtain ⟨z, t, hz, rfl⟩ := hP i v (by omega) hPv
    have tk1 : xs.take (i + 1) = xs.take i ++ [z] := by rw [List.take_add_one, hz]; rfl
    refine wpAny_mono (turn i z t I oI C oC D m₂ ys h tk E' hz hPv hC hx F N off ne) (fun ok s' h₁ => ?_) fun _ _ e => e
    obtain ⟨rfl, h', tk', rfl, F', N', -⟩ := h₁
    split
    · rename_i hp
      refine wpAny_mono (turn2 i z t I oI C oC D m₂ ys h' tk' E' hz hPv hC hx F' N' off ne) (fun y s'' h₂ => ?_) fun _ _ e => e
      obtain ⟨h'', tk'', rfl, F'', N'', t', rfl⟩ := h₂
      refine ⟨h'', tk'', news, rfl, F'', N'', off, hS, restT_filt hS p xs turn turn2 hP fin k (i + 1) _ (by omega) ?_⟩
      rw [tk1, List.filter_append, show List.filter p [z] = [z] by simp [hp]]
      exact IntsAre.append hy (.cons _ _ .nil)
    · rename_i hp
      refine ⟨h', tk', news, rfl, F', N', off, hS, restT_filt hS p xs turn turn2 hP fin k (i + 1) _ (by omega) ?_⟩
      rw [tk1, List.filter_append, show List.filter p [z] = [] by simp [hp], List.append_nil]
      exact hy
end
end
section
noncomputable def minL : List Int → Int
  | [] => 0
  | x :: xs => xs.foldl min x
noncomputable def leastV : List (List Int) → List Int → Int
  | [], _ => 0
  | r :: T, left => minL (left.map fun j => r.getD j.toNat 0 + leastV T (left.filter fun k => !decide (k = j)))
noncomputable def RowsAre (news : List (Addr × Obj)) : List Value → List (List Int) → Prop
  | [], [] => True
  | v :: vs, r :: T => (∃ ra rvs c, v = .ref ra ∧ (ra, listOf rvs.toArray c) ∈ news ∧ IntsAre rvs r) ∧ RowsAre news vs T
  | _, _ => False
theorem RowsAre.mono {l l' : List (Addr × Obj)} (h : ∀ p ∈ l, p ∈ l') : ∀ {vs : List Value} {T : List (List Int)}, RowsAre l vs T → RowsAre l' vs T
  | [], [], _ => trivial
  | _ :: _, _ :: _, ⟨⟨ra, rvs, c, e, hm, hi⟩, r⟩ => ⟨⟨ra, rvs, c, e, h _ hm, hi⟩, RowsAre.mono h r⟩
theorem foldl_min_le : ∀ (xs : List Int) (a : Int), xs.foldl min a ≤ a ∧ (∀ x ∈ xs, xs.foldl min a ≤ x) ∧ (xs.foldl min a = a ∨ xs.foldl min a ∈ xs)
  | [], a => ⟨Int.le_refl _, fun _ h => by simp at h, .inl rfl⟩
  | y :: xs, a => by
    obtain ⟨h1, h2, h3⟩ := foldl_min_le xs (min a y)
    refine ⟨Int.le_trans h1 (Int.min_le_left ..), fun x hx => ?_, ?_⟩
    · rcases List.mem_cons.mp hx with rfl | hx
      · exact Int.le_trans h1 (Int.min_le_right ..)
      · exact h2 x hx
    · show List.foldl min (min a y) xs = a ∨ List.foldl min (min a y) xs ∈ y :: xs
      rcases h3 with h3 | h3
      · rw [h3]
        by_cases hay : a ≤ y
        · left; omega
        · right; rw [show min a y = y by omega]; exact List.mem_cons_self
      · exact .inr (List.mem_cons_of_mem _ h3)
theorem minL_eq {M : Int} : ∀ {xs : List Int}, M ∈ xs → (∀ a, a ∈ xs → M ≤ a) → minL xs = M
  | [], h, _ => by simp at h
  | x :: xs, h, hle => by
    obtain ⟨h1, h2, h3⟩ := foldl_min_le xs x
    apply Int.le_antisymm
    · rcases List.mem_cons.mp h with rfl | h
      · exact h1
      · exact h2 _ h
    · rcases h3 with h3 | h3
      · show M ≤ xs.foldl min x
        rw [h3]; exact hle _ List.mem_cons_self
      · exact hle _ (List.mem_cons_of_mem _ h3)
theorem pick_tail (v : Value) (vs : List Value) : slicePick (v :: vs).toArray (some 1) none none = vs.toArray := by
  have hz : (v :: vs).toArray.size = vs.length + 1 := by simp
  rw [kmk_pick_nat (a := 1) (b := vs.length + 1) (v :: vs).toArray (by
    rw [hz]
    simp [sliceBounds]
    try omega)]
  simp
noncomputable abbrev rowsD (T : List (List Int)) : List PyData := T.map fun r => PyData.list (r.map PyData.int)
theorem reads_rows {h₀ h : Heap} {L : Addr} {news : List (Addr × Obj)} (N : News h₀ L h news) : ∀ {vs : List Value} {T : List (List Int)}, RowsAre news vs T → ∃ as, ReadsAll h vs (rowsD T) as
  | [], [], _ => ⟨_, .nil⟩
  | v :: vs, r :: T, ⟨⟨ra, rvs, c, e, hm, hi⟩, rr⟩ => by
    obtain ⟨as, ih⟩ := reads_rows N rr
    subst e
    exact ⟨_, .cons (reads_newData (News.isList N hm) (ke_carried hi)) ih⟩
theorem canLay_rows : ∀ T : List (List Int), PyData.canLayAll0 (rowsD T) = true
  | [] => rfl
  | r :: T => by
    have := canLay_rows T
    simp only [rowsD] at this
    simp [PyData.canLayAll0, PyData.canLay0, ke_canLayAll0, this]
theorem depth_rows : ∀ T : List (List Int), PyData.depthAll (rowsD T) ≤ 1
  | [] => by decide
  | r :: T => by
    have := depth_rows T
    simp only [rowsD] at this
    simp only [rowsD, List.map_cons, PyData.depthAll, PyData.depth, ke_depthAll]
    omega
theorem shaped_rows (T : List (List Int)) : SeqAt.shaped (.list (rowsD T)) = true := by
  have h := depth_rows T
  have h2 : (PyData.list (rowsD T)).depth ≤ 64 := by
    rw [PyData.depth]
    omega
  unfold SeqAt.shaped
  rw [decide_eq_true h2, Bool.and_true, PyData.canLay0]
  exact canLay_rows T
theorem eqv_rows : ∀ T U : List (List Int), PyData.eqvAll (rowsD T) (rowsD U) = decide (T = U)
  | [], [] => by simp [PyData.eqvAll]
  | [], _ :: _ => by simp [PyData.eqvAll]
  | _ :: _, [] => by simp [PyData.eqvAll]
  | a :: r, b :: t => by
    have := eqv_rows r t
    simp only [rowsD] at this
    simp only [rowsD, List.map_cons, PyData.eqvAll, PyData.eqv, ked_eqvAll, this]
    by_cases h : a = b <;> by_cases h' : r = t <;> simp [h, h']
section
variable {prog : Program} {w : World} {A : Around} {E : Value → Shared → Prop} {s : Shared} {h₀ : Heap} {L a b : Addr} {news : List (Addr × Obj)} {vs us : List Value} {T U : List (List Int)} {n k : Nat} {Q : Value → Shared → Prop}
theorem r_rowsEq {c : Bool} (N : News h₀ L s.heap news) (h1 : RowsAre news vs T) (h2 : RowsAre news us U) (hm1 : (a, listOf vs.toArray n) ∈ news) (hm2 : (b, listOf us.toArray k) ∈ news) (hu : A.units + 64 < cLine) (e : decide (T = U) = c) (h : Q (.bool c) s) :
    wpAny (model prog w) A (compareOp .Eq (.ref a) (.ref b)) Q E s := by
  subst e
  obtain ⟨as, r1⟩ := reads_rows N h1
  obtain ⟨bs, r2⟩ := reads_rows N h2
  refine eq_dataH (reads_list_at (N.get hm1) rfl rfl r1) (reads_list_at (N.get hm2) rfl rfl r2) (shaped_rows T) (shaped_rows U) hu ?_
  rw [show PyData.eqv (.list (rowsD T)) (.list (rowsD U)) = PyData.eqvAll (rowsD T) (rowsD U) from by simp only [PyData.eqv], eqv_rows]
  exact h
theorem r_rowsNe {c : Bool} (N : News h₀ L s.heap news) (h1 : RowsAre news vs T) (h2 : RowsAre news us U) (hm1 : (a, listOf vs.toArray n) ∈ news) (hm2 : (b, listOf us.toArray k) ∈ news) (hu : A.units + 64 < cLine) (e : (!decide (T = U)) = c) (h : Q (.bool c) s) :
    wpAny (model prog w) A (compareOp .NotEq (.ref a) (.ref b)) Q E s := by
  subst e
  obtain ⟨as, r1⟩ := reads_rows N h1
  obtain ⟨bs, r2⟩ := reads_rows N h2
  refine ne_dataH (reads_list_at (N.get hm1) rfl rfl r1) (reads_list_at (N.get hm2) rfl rfl r2) (shaped_rows T) (shaped_rows U) hu ?_
  rw [show PyData.eqv (.list (rowsD T)) (.list (rowsD U)) = PyData.eqvAll (rowsD T) (rowsD U) from by simp only [PyData.eqv], eqv_rows]
  exact h
end
theorem range_getD {α β : Type} (f : α → β) (d : α) : ∀ l : List α, (List.range l.length).map (fun i => f (l.getD i d)) = l.map f := by
  intro l
  apply List.ext_getElem
  · simp
  · intro i h1 h2
    simp at h1
    simp [List.getD_eq_getElem?_getD, List.getElem?_eq_getElem h1]
section
variable {prog : Program} {w : World} {A : Around} {E : Value → Shared → Prop} {s : Shared} {h₀ : Heap} {L D : Addr} {news : List (Addr × Obj)} {vs : List Value} {xs : List Int} {c : Nat} {a : Int} {u : Tok} {Q : Value → Shared → Prop}
theorem r_rowI {elts : Expr} {x : Str} {px : Pos} (N : News h₀ L s.heap news) (hm : (D, listOf vs.toArray c) ∈ news) (hi : IntsAre vs xs) (h0 : 0 ≤ a) (h1 : a < xs.length) (h2 : xs.length ≤ 100) (h : ∀ t, Q (.int (xs.getD a.toNat 0) t) s) :
    wpAny (model prog w) A (subscriptTail elts (.Name x px) (.ref D) (.int a u)) Q E s := by
  have hx : a.toNat < xs.length := by omega
  obtain ⟨t, e⟩ := IntsAre.get hi a.toNat (xs.getD a.toNat 0) (by rw [List.getD_eq_getElem?_getD, List.getElem?_eq_getElem hx]; rfl)
  exact tail_any (News.isList N hm).typeIs slot_list_getitem.lookup (wpAny_getItem_list (News.isList N hm) h0 (by omega) (by simpa using e) (h t)) (by with_unfolding_all rfl)
end
theorem pick_tail2 (v : Value) (vs : List Value) : (slicePick (v :: vs).toArray (some 1) none none).toList = vs := by rw [pick_tail]
end
section
local macro_rules | `(tactic| k_all) => `(tactic| exact allLt_ne (by assumption))
section
noncomputable def levFn : List Stmt × Scope :=
  match PySem.Challenge.pw_pg0171_01.main.body.find? (fun s => match s with | .FunctionDef n _ _ _ _ _ _ _ _ _ => n == Str.ofString "_levenshtein_distance" | _ => false) with
  | some (.FunctionDef _ _ b _ _ _ sc _ _ _) => (b, sc)
  | _ => ([], default)
noncomputable def levBody : List Stmt :=
  match levFn.1.findSome? (fun s => match s with | .For _ _ b _ _ => some b | _ => none) with
  | some b => match b.findSome? (fun s => match s with | .For _ _ b _ _ => some b | _ => none) with
    | some b => b
    | none => []
  | none => []
theorem words_5 : True := by
  k_with_none
  k_with "storeName" => (k_here; (with_reducible show wpAny _ _ (storeName (envOf _ _ _ _) _ _) _ _ _); k_dflt (refine' stG ?FhW ?NhW ?_ ?ahW ?bhW; (case FhW => k_asm); (case NhW => k_asm); (case ahW => rfl); (case bhW => rfl); k_whole; intro hxW tkxW FxW NxW; (try k_sweep)))
  k_with "binaryOp Add int int" => (refine r_add (by ((try simp only [Int.reduceAdd, Int.reduceSub, Int.reduceNeg]); exact rfl)) ?_)
  k_with "binaryOp Sub int int" => (refine r_sub (by ((try simp only [Int.reduceAdd, Int.reduceSub, Int.reduceNeg]); exact rfl)) ?_)
  k_with "inplaceOp Add int int" => (refine r_iadd (by ((try simp only [Int.reduceAdd, Int.reduceSub, Int.reduceNeg]); exact rfl)) ?_)
  k_with "inplaceOp Sub int int" => (refine r_isub (by ((try simp only [Int.reduceAdd, Int.reduceSub, Int.reduceNeg]); exact rfl)) ?_)
  k_with "execs cons" => (k_here; (with_reducible show wpAny _ _ _ _ _ (Shared.mk _ _ _ (_ + _) _)); refine genT ?_; intro tkW)
  k_with "execs nil" => (k_here; (with_reducible show wpAny _ _ _ _ _ (Shared.mk _ _ _ (_ + _) _)); refine genT ?_; intro tkW)
  k_with "binaryOp Mult int int" => (refine r_mul (by ((try simp only [Int.reduceAdd, Int.reduceSub, Int.reduceNeg, Int.reduceMul]); exact rfl)) (by mul_fits) ?_)
  k_with "ite" => (k_closed; (first | with_reducible refine ite_posI (by decide) ?_ | with_reducible refine ite_negI (by decide) ?_))
  k_with "eval Name" => (k_here; (with_reducible show wpAny _ _ (eval (Expr.Name _ _) (envOf _ _ _ _ _)) _ _ _); k_dflt (refine' ld ?k1hW ?k2hW ?_ ?k3hW ?k4hW ?k5hW; (case k1hW => k_asm); (case k4hW => exact rfl); (case k2hW => first | exact rfl | assumption); (case k3hW => exact rfl); (case k5hW => decide); k_whole))
  k_with "eval Name" => (k_here; (with_reducible show wpAny _ _ (eval (Expr.Name _ _) (envOf _ _ _ _ _)) _ _ _); (first | (with_reducible refine' nmO_min (w := _) ?k1hW ?k2hW ?k3hW ?k4hW ?k5hW ?_) | (with_reducible refine' nmO_MOVECOST (w := _) ?k1hW ?k2hW ?k3hW ?k4hW ?k5hW ?_) | (with_reducible refine' nmO_substitutioncost (w := _) ?k1hW ?k2hW ?k3hW ?k4hW ?k5hW ?_)); (case k1hW => k_asm); (case k2hW => k_asm); (case k3hW => k_asm); (case k4hW => decide +kernel); (case k5hW => first | exact rfl | assumption); k_whole)
  k_with "subscriptTail Name Name str int" => (k_here; refine r_itemN (by assumption) (by assumption) (by assumption) (by assumption) ?_)
  k_with "subscriptTail Name Name ref int" => (k_here; (with_reducible rename News _ _ _ _ => NxW); k_dflt (refine r_rowI NxW (by assumption) (by assumption) (by assumption) (by assumption) (by assumption) ?_; intro t9xW))
  k_with "call builtin:min" => (k_here; (with_reducible show wpAny _ _ (call (Value.builtin _) [Value.int _ _, Value.int _ _]) _ _ _); (with_reducible rename Fr _ _ _ _ => FxW); (with_reducible rename News _ _ _ _ => NxW); (refine r_min (by with_unfolding_all rfl) FxW NxW (by first | (with_reducible assumption) | exact rfl) ?_); intro _ _ _ _ _)
  k_with "binaryOp Add int int" => (refine r_add (by first | (with_reducible assumption) | exact rfl) ?_)
  trivial
theorem updF_upd {d : Addr} {o : Obj} : ∀ {l : List (Addr × Obj)} {g : Obj → List (Addr × Obj)}, UpdF d o l g → ∀ o', Upd d o o' l (g o')
  | _, _, .head h, o' => .head h
  | _, _, .tail h U, o' => .tail h (updF_upd U o')
theorem updF_mem {d : Addr} {o : Obj} : ∀ {l : List (Addr × Obj)} {g : Obj → List (Addr × Obj)}, UpdF d o l g → (d, o) ∈ l
  | _, _, .head _ => List.mem_cons_self
  | _, _, .tail _ U => List.mem_cons_of_mem _ (updF_mem U)
noncomputable abbrev levM (m : Str → Option Value) (mn res id di su : Int) (t1 t2 t3 t4 t5 : Tok) : Str → Option Value := fun y =>
  if y = Str.ofString "minimum" then some (.int mn t1) else if y = Str.ofString "result" then some (.int res t2) else if y = Str.ofString "insert_delete" then some (.int id t3) else if y = Str.ofString "distance" then some (.int di t4) else if y = Str.ofString "substitute" then some (.int su t5) else m y

theorem lev_turn (w : World) (mean : ExcName → Option Value) (mg mb : Str → Option Value) (dp un : Nat) (gd : Option (List Code)) (af : Addr) (ccd : Value) (outer : List Env) (A₀ : Around) (base h₀ : Heap) (L : Addr) (E : Value → Shared → Prop) (m : Str → Option Value)
    (X Y z : Str) (rw : Addr) (rvs : List Value) (rs : List Int) (n : Nat) (news : List (Addr × Obj)) (g : Obj → List (Addr × Obj)) (i d r mn sc rd id res mn' : Int) (t0 t1 t2 t3 t4 t5 : Tok) (QT : Flow → Shared → Prop)
    (hm1 : m (Str.ofString "bchar") = some (.str X t0)) (hm2 : m (Str.ofString "a") = some (.str Y t1)) (hm3 : m (Str.ofString "index") = some (.int i t2)) (hm4 : m (Str.ofString "distance") = some (.int d t3)) (hm5 : m (Str.ofString "row") = some (.ref rw)) (hm6 : m (Str.ofString "result") = some (.int r t4)) (hm7 : m (Str.ofString "minimum") = some (.int mn t5))
    (hz : Txt.item Y i = z) (hz1 : fitsSsize i = true) (hz2 : -(Y.length : Int) ≤ i) (hz3 : i < Y.length) (lX : X.length ≤ 1000) (lz : z.length ≤ 1000) (hs : subF X z = sc)
    (e : IntsAre rvs rs) (h0 : 0 ≤ i) (h1 : i < rs.length) (h2 : rs.length ≤ 100) (U : UpdF rw (listOf rvs.toArray n) news g)
    (hrd : rs.getD i.toNat 0 = rd) (hid : (if rd < r then rd else r) + 2 = id) (hres : (if d + sc < id then d + sc else id) = res) (hmn : (if res < mn then res else mn) = mn')
    (s : Shared) (B' : Below A₀ base outer h₀) (F' : Fr h₀ L s.heap m) (X' : (hd.heap_39 w.params).In h₀) (N' : News h₀ L s.heap news) (T' : Top hd.view_39 (looseW hd.view_39 [Str.ofString "insort_right", Str.ofString "bisect_right"]) mean mg mb h₀) (hdp : dp + 1 < recursionLimit) (hun : un + 8 < cLine)
    (hret : ∀ (h' : Heap) (tk' : Nat) (a1 a2 a3 a4 a5 : Tok), Fr h₀ L h' (levM m mn' res id rd (d + sc) a1 a2 a3 a4 a5) → News h₀ L h' (g (listOf (rvs.set i.toNat (.int res a2)).toArray n)) → QT .next { s with heap := h', toks := tk' }) :
    wpAny (model PySem.Challenge.rw_pg0171_01.row.prog w) (ktrTop dp un gd (Str.ofString "_levenshtein_distance") levFn.2 L af ccd [] outer) (execs levBody (envOf (Str.ofString "_levenshtein_distance") levFn.2 L af ccd)) QT E s := by
  revert X'
  w_top off
  k_fill
  intro X'
  (conv in levBody => whnf)
  have hsc : levFn.2 = levFn.2 := rfl
  (conv at hsc => lhs; whnf)
  rw [← hsc]
  have hmem := updF_mem U
  repeat' ((first | (k_unfold; (try dsimp only)) | (k_end; wrow_close) | walk1 | (dsimp only; walk1) | (leave1; walk_say "STEP leave1"; try dsimp only) | fail "no step"))
  rename News _ _ _ _ => N1
  refine' sub_spec w mean mg mb X z _ _ _ lX lz _ hs _ _ _ _ _ _ _ _ _ _ _ _ _ _ _ _ _ ?k1 ?k2 ?k3 N1 ?k5 ?kK ?kd ?ku ?_
  case k1 => k_asm
  case k2 => k_asm
  case k3 => k_asm
  case k5 => k_asm
  case kK => exact rfl
  case kd => ktr_room
  case ku => ktr_units
  intro t9 h9 tk9 F9 N9
  repeat' ((first | (k_unfold; (try dsimp only)) | (k_end; wrow_close) | walk1 | (dsimp only; walk1) | (leave1; walk_say "STEP leave1"; try dsimp only) | fail "no step"))
  rename News _ _ _ _ => NA
  rename Fr _ _ _ _ => FA
  simp only [hrd, hid, hres] at FA ⊢
  refine' ksa_set FA NA (updF_upd U _) e h0 h1 (by omega) ?_
  intro h7 F7 N7 e7 l7 s7
  clear NA FA
  repeat' ((first | (k_unfold; (try dsimp only)) | (k_end; wrow_close) | walk1 | (dsimp only; walk1) | (leave1; walk_say "STEP leave1"; try dsimp only) | fail "no step"))
  · rename News _ _ _ _ => NZ
    rename Fr _ _ _ _ => FZ
    rw [if_pos (by omega)] at hmn
    subst hmn
    exact hret _ _ _ _ _ _ _ FZ NZ
  · rename News _ _ _ _ => NZ
    rename Fr _ _ _ _ => FZ
    rw [if_neg (by omega)] at hmn
    subst hmn
    refine hret _ _ t5 _ _ _ _ (by
      have q := FZ
      refine (congrArg (Fr h₀ L _) (funext fun y => ?_)).mp q
      by_cases hy : y = (Str.ofString "minimum")
      · subst hy
        exact ((if_neg (by decide)).trans ((if_neg (by decide)).trans ((if_neg (by decide)).trans ((if_neg (by decide)).trans hm7)))).trans (if_pos rfl).symm
      · exact (if_neg hy).symm) NZ
end
section
noncomputable def levTest (k : Nat) : Expr :=
  match levFn.1[k]? with
  | some (.While t _ _ _) => t
  | _ => default

theorem words_6 : True := by
  k_with_none
  k_with "storeName" => (k_here; (with_reducible show wpAny _ _ (storeName (envOf _ _ _ _) _ _) _ _ _); k_dflt (refine' stG ?FhW ?NhW ?_ ?ahW ?bhW; (case FhW => k_asm); (case NhW => k_asm); (case ahW => rfl); (case bhW => rfl); k_whole; intro hxW tkxW FxW NxW; (try k_sweep)))
  k_with "binaryOp Add int int" => (refine r_add (by ((try simp only [Int.reduceAdd, Int.reduceSub, Int.reduceNeg]); exact rfl)) ?_)
  k_with "binaryOp Sub int int" => (refine r_sub (by ((try simp only [Int.reduceAdd, Int.reduceSub, Int.reduceNeg]); exact rfl)) ?_)
  k_with "inplaceOp Add int int" => (refine r_iadd (by ((try simp only [Int.reduceAdd, Int.reduceSub, Int.reduceNeg]); exact rfl)) ?_)
  k_with "inplaceOp Sub int int" => (refine r_isub (by ((try simp only [Int.reduceAdd, Int.reduceSub, Int.reduceNeg]); exact rfl)) ?_)
  k_with "execs cons" => (k_here; (with_reducible show wpAny _ _ _ _ _ (Shared.mk _ _ _ (_ + _) _)); refine genT ?_; intro tkW)
  k_with "execs nil" => (k_here; (with_reducible show wpAny _ _ _ _ _ (Shared.mk _ _ _ (_ + _) _)); refine genT ?_; intro tkW)
  k_with "binaryOp Mult int int" => (refine r_mul (by ((try simp only [Int.reduceAdd, Int.reduceSub, Int.reduceNeg, Int.reduceMul]); exact rfl)) (by mul_fits) ?_)
  k_with "ite" => (k_closed; (first | with_reducible refine ite_posI (by decide) ?_ | with_reducible refine ite_negI (by decide) ?_))
  k_with "eval Name" => (k_here; (with_reducible show wpAny _ _ (eval (Expr.Name _ _) (envOf _ _ _ _ _)) _ _ _); k_dflt (refine' ld ?k1hW ?k2hW ?_ ?k3hW ?k4hW ?k5hW; (case k1hW => k_asm); (case k4hW => exact rfl); (case k2hW => first | exact rfl | assumption); (case k3hW => exact rfl); (case k5hW => decide); k_whole))
  k_with "eval Name" => (k_here; (with_reducible show wpAny _ _ (eval (Expr.Name _ _) (envOf _ _ _ _ _)) _ _ _); (first | (with_reducible refine' nmO_min (w := _) ?k1hW ?k2hW ?k3hW ?k4hW ?k5hW ?_) | (with_reducible refine' nmO_MOVECOST (w := _) ?k1hW ?k2hW ?k3hW ?k4hW ?k5hW ?_) | (with_reducible refine' nmO_substitutioncost (w := _) ?k1hW ?k2hW ?k3hW ?k4hW ?k5hW ?_)); (case k1hW => k_asm); (case k2hW => k_asm); (case k3hW => k_asm); (case k4hW => decide +kernel); (case k5hW => first | exact rfl | assumption); k_whole)
  k_with "subscriptTail Name Name str int" => (k_here; refine r_itemN (by assumption) (by assumption) (by assumption) (by assumption) ?_)
  k_with "subscriptTail Name Name ref int" => (k_here; (with_reducible rename News _ _ _ _ => NxW); k_dflt (refine r_rowI NxW (by assumption) (by assumption) (by assumption) (by assumption) (by assumption) ?_; intro t9xW))
  k_with "call builtin:min" => (k_here; (with_reducible show wpAny _ _ (call (Value.builtin _) [Value.int _ _, Value.int _ _]) _ _ _); (with_reducible rename Fr _ _ _ _ => FxW); (with_reducible rename News _ _ _ _ => NxW); (refine r_min (by with_unfolding_all rfl) FxW NxW (by first | (with_reducible assumption) | exact rfl) ?_); intro _ _ _ _ _)
  k_with "binaryOp Add int int" => (refine r_add (by first | (with_reducible assumption) | exact rfl) ?_)
  k_with "compareOp Eq str str" => (k_here; refine r_eq (by assumption) ?_)
  k_with "truthy str" => (k_here; refine r_truthy (by assumption) (by assumption) ?_; intro _)
  k_with "subscriptTail Name Slice str ref" => (k_here; (with_reducible show wpAny _ _ (subscriptTail _ (Expr.Slice none _ none _) _ _) _ _ _); (with_reducible rename Fr _ _ _ _ => FxW); (with_reducible rename News _ _ _ _ => NxW); (with_reducible show wpAny _ _ _ _ _ (Shared.mk (Heap.push _ (Obj.mk _ _ (Data.fields #[Value.none, Value.none, Value.none]) _)) _ _ _ _)); (refine r_nn (s := ⟨_, _, _, _, _⟩) (by assumption) (by assumption) FxW NxW ?_; intro _ _ _ _ _))
  k_with "subscriptTail Name Slice str ref" => (k_here; (with_reducible show wpAny _ _ (subscriptTail _ (Expr.Slice none _ none _) _ _) _ _ _); (with_reducible rename Fr _ _ _ _ => FxW); (with_reducible rename News _ _ _ _ => NxW); (with_reducible show wpAny _ _ _ _ _ (Shared.mk (Heap.push _ (Obj.mk _ _ (Data.fields #[Value.none, Value.int _ _, Value.none]) _)) _ _ _ _)); (refine r_ns (s := ⟨_, _, _, _, _⟩) (by assumption) (by assumption) FxW NxW ?_; intro _ _ _ _ _))
  k_with "subscriptTail Name Slice str ref" => (k_here; (with_reducible show wpAny _ _ (subscriptTail _ (Expr.Slice (some _) none none _) _ _) _ _ _); (with_reducible rename Fr _ _ _ _ => FxW); (with_reducible rename News _ _ _ _ => NxW); (refine r_sn (s := ⟨_, _, _, _, _⟩) (by assumption) (by assumption) FxW NxW ?_; intro _ _ _ _ _))
  k_with "subscriptTail Name BinOp str int" => (k_here; refine r_itemB (by assumption) (by assumption) (by assumption) (by assumption) ?_)
  k_with "binaryOp Sub int int" => (refine r_sub (by first | (with_reducible assumption) | ((try simp only [Int.reduceAdd, Int.reduceSub, Int.reduceNeg]); exact rfl)) ?_)
  trivial
theorem lev_t1 {w : World} {mean : ExcName → Option Value} {mg mb : Str → Option Value} {dp un : Nat} {gd : Option (List Code)} {af : Addr} {ccd : Value} {outer : List Env} {A₀ : Around} {base h₀ : Heap} {L : Addr} {E : Value → Shared → Prop} {m : Str → Option Value} {news : List (Addr × Obj)}
    {X Y X1 Y1 x y : Str} {p : Int} {bb : Bool} {t0 t1 t2 : Tok} {QT : Bool → Shared → Prop}
    (hm1 : m (Str.ofString "a") = some (.str X t0)) (hm2 : m (Str.ofString "b") = some (.str Y t1)) (hm3 : m (Str.ofString "pre") = some (.int p t2))
    (a1 : Txt.slice X (some p) none = X1) (a2 : Txt.slice Y (some p) none = Y1) (n1 : ((X1.length : Int) != 0) = true) (n2 : ((Y1.length : Int) != 0) = true) (l1 : X.length ≤ 16) (l2 : Y.length ≤ 16) (l3 : X1.length ≤ 16) (l4 : Y1.length ≤ 16)
    (z1 : Txt.item X p = x) (z2 : Txt.item Y p = y) (z3 : fitsSsize p = true) (z4 : -(X.length : Int) ≤ p) (z5 : p < (X.length : Int)) (z6 : -(Y.length : Int) ≤ p) (z7 : p < (Y.length : Int)) (hb : (x == y) = bb)
    {s : Shared} (B' : Below A₀ base outer h₀) (F' : Fr h₀ L s.heap m) (X' : (hd.heap_39 w.params).In h₀) (N' : News h₀ L s.heap news) (T' : Top hd.view_39 (looseW hd.view_39 [Str.ofString "insort_right", Str.ofString "bisect_right"]) mean mg mb h₀)
    (hret : ∀ (h' : Heap) (tk' : Nat), Fr h₀ L h' m → News h₀ L h' news → QT bb { s with heap := h', toks := tk' }) :
    wpAny (model PySem.Challenge.rw_pg0171_01.row.prog w) (ktrTop dp un gd (Str.ofString "_levenshtein_distance") levFn.2 L af ccd [] outer) (isTrue (levTest 2) (envOf (Str.ofString "_levenshtein_distance") levFn.2 L af ccd) (eval (levTest 2) (envOf (Str.ofString "_levenshtein_distance") levFn.2 L af ccd))) QT E s := by
  revert X'
  w_top off
  k_fill
  intro X'
  (conv in (levTest _) => whnf)
  have hsc : levFn.2 = levFn.2 := rfl
  (conv at hsc => lhs; whnf)
  rw [← hsc]
  repeat' ((first | (k_unfold; (try dsimp only)) | (k_end; wrow_close) | walk1 | (dsimp only; walk1) | (leave1; walk_say "STEP leave1"; try dsimp only) | fail "no step"))
  · have e : bb = true := by assumption
    subst e
    exact hret _ _ (by k_asm) (by k_asm)
  · have e : bb = false := by assumption
    subst e
    exact hret _ _ (by k_asm) (by k_asm)

theorem lev_t2 {w : World} {mean : ExcName → Option Value} {mg mb : Str → Option Value} {dp un : Nat} {gd : Option (List Code)} {af : Addr} {ccd : Value} {outer : List Env} {A₀ : Around} {base h₀ : Heap} {L : Addr} {E : Value → Shared → Prop} {m : Str → Option Value} {news : List (Addr × Obj)}
    {X Y X1 Y1 x y : Str} {bb : Bool} {t0 t1 t2 : Tok} {QT : Bool → Shared → Prop}
    (hm1 : m (Str.ofString "a") = some (.str X t0)) (hm2 : m (Str.ofString "b") = some (.str Y t1)) (hm3 : m (Str.ofString "post") = some (.int 0 t2))
    (a1 : Txt.slice X none none = X1) (a2 : Txt.slice Y none none = Y1) (n1 : ((X1.length : Int) != 0) = true) (n2 : ((Y1.length : Int) != 0) = true) (l1 : X.length ≤ 16) (l2 : Y.length ≤ 16) (l3 : X1.length ≤ 16) (l4 : Y1.length ≤ 16)
    (z1 : Txt.item X (-1 : Int) = x) (z2 : Txt.item Y (-1 : Int) = y) (z3 : fitsSsize (-1 : Int) = true) (z4 : -(X.length : Int) ≤ (-1 : Int)) (z5 : (-1 : Int) < (X.length : Int)) (z6 : -(Y.length : Int) ≤ (-1 : Int)) (z7 : (-1 : Int) < (Y.length : Int)) (hb : (x == y) = bb)
    {s : Shared} (B' : Below A₀ base outer h₀) (F' : Fr h₀ L s.heap m) (X' : (hd.heap_39 w.params).In h₀) (N' : News h₀ L s.heap news) (T' : Top hd.view_39 (looseW hd.view_39 [Str.ofString "insort_right", Str.ofString "bisect_right"]) mean mg mb h₀)
    (hret : ∀ (h' : Heap) (tk' : Nat), Fr h₀ L h' m → News h₀ L h' news → QT bb { s with heap := h', toks := tk' }) :
    wpAny (model PySem.Challenge.rw_pg0171_01.row.prog w) (ktrTop dp un gd (Str.ofString "_levenshtein_distance") levFn.2 L af ccd [] outer) (isTrue (levTest 6) (envOf (Str.ofString "_levenshtein_distance") levFn.2 L af ccd) (eval (levTest 6) (envOf (Str.ofString "_levenshtein_distance") levFn.2 L af ccd))) QT E s := by
  revert X'
  w_top off
  k_fill
  intro X'
  (conv in (levTest _) => whnf)
  have hsc : levFn.2 = levFn.2 := rfl
  (conv at hsc => lhs; whnf)
  rw [← hsc]
  repeat' ((first | (k_unfold; (try dsimp only)) | (k_end; wrow_close) | walk1 | (dsimp only; walk1) | (leave1; walk_say "STEP leave1"; try dsimp only) | fail "no step"))
  · have e : bb = true := by assumption
    subst e
    exact hret _ _ (by k_asm) (by k_asm)
  · have e : bb = false := by assumption
    subst e
    exact hret _ _ (by k_asm) (by k_asm)

theorem lev_t3 {w : World} {mean : ExcName → Option Value} {mg mb : Str → Option Value} {dp un : Nat} {gd : Option (List Code)} {af : Addr} {ccd : Value} {outer : List Env} {A₀ : Around} {base h₀ : Heap} {L : Addr} {E : Value → Shared → Prop} {m : Str → Option Value} {news : List (Addr × Obj)}
    {X Y X1 Y1 x y : Str} {p q : Int} (hp : (p != 0) = true) (hq : p - 1 = q) {bb : Bool} {t0 t1 t2 : Tok} {QT : Bool → Shared → Prop}
    (hm1 : m (Str.ofString "a") = some (.str X t0)) (hm2 : m (Str.ofString "b") = some (.str Y t1)) (hm3 : m (Str.ofString "post") = some (.int p t2))
    (a1 : Txt.slice X none (some p) = X1) (a2 : Txt.slice Y none (some p) = Y1) (n1 : ((X1.length : Int) != 0) = true) (n2 : ((Y1.length : Int) != 0) = true) (l1 : X.length ≤ 16) (l2 : Y.length ≤ 16) (l3 : X1.length ≤ 16) (l4 : Y1.length ≤ 16)
    (z1 : Txt.item X q = x) (z2 : Txt.item Y q = y) (z3 : fitsSsize q = true) (z4 : -(X.length : Int) ≤ q) (z5 : q < (X.length : Int)) (z6 : -(Y.length : Int) ≤ q) (z7 : q < (Y.length : Int)) (hb : (x == y) = bb)
    {s : Shared} (B' : Below A₀ base outer h₀) (F' : Fr h₀ L s.heap m) (X' : (hd.heap_39 w.params).In h₀) (N' : News h₀ L s.heap news) (T' : Top hd.view_39 (looseW hd.view_39 [Str.ofString "insort_right", Str.ofString "bisect_right"]) mean mg mb h₀)
    (hret : ∀ (h' : Heap) (tk' : Nat), Fr h₀ L h' m → News h₀ L h' news → QT bb { s with heap := h', toks := tk' }) :
    wpAny (model PySem.Challenge.rw_pg0171_01.row.prog w) (ktrTop dp un gd (Str.ofString "_levenshtein_distance") levFn.2 L af ccd [] outer) (isTrue (levTest 6) (envOf (Str.ofString "_levenshtein_distance") levFn.2 L af ccd) (eval (levTest 6) (envOf (Str.ofString "_levenshtein_distance") levFn.2 L af ccd))) QT E s := by
  revert X'
  w_top off
  k_fill
  intro X'
  (conv in (levTest _) => whnf)
  have hsc : levFn.2 = levFn.2 := rfl
  (conv at hsc => lhs; whnf)
  rw [← hsc]
  repeat' ((first | (k_unfold; (try dsimp only)) | (k_end; wrow_close) | walk1 | (dsimp only; walk1) | (leave1; walk_say "STEP leave1"; try dsimp only) | fail "no step"))
  · have e : bb = true := by assumption
    subst e
    exact hret _ _ (by k_asm) (by k_asm)
  · have e : bb = false := by assumption
    subst e
    exact hret _ _ (by k_asm) (by k_asm)
end
section
theorem words_7 : True := by
  k_with_none
  k_with "storeName" => (k_here; (with_reducible show wpAny _ _ (storeName (envOf _ _ _ _) _ _) _ _ _); k_dflt (refine' stG ?FhW ?NhW ?_ ?ahW ?bhW; (case FhW => k_asm); (case NhW => k_asm); (case ahW => rfl); (case bhW => rfl); k_whole; intro hxW tkxW FxW NxW; (try k_sweep)))
  k_with "binaryOp Add int int" => (refine r_add (by ((try simp only [Int.reduceAdd, Int.reduceSub, Int.reduceNeg]); exact rfl)) ?_)
  k_with "binaryOp Sub int int" => (refine r_sub (by ((try simp only [Int.reduceAdd, Int.reduceSub, Int.reduceNeg]); exact rfl)) ?_)
  k_with "inplaceOp Add int int" => (refine r_iadd (by ((try simp only [Int.reduceAdd, Int.reduceSub, Int.reduceNeg]); exact rfl)) ?_)
  k_with "inplaceOp Sub int int" => (refine r_isub (by ((try simp only [Int.reduceAdd, Int.reduceSub, Int.reduceNeg]); exact rfl)) ?_)
  k_with "execs cons" => (k_here; (with_reducible show wpAny _ _ _ _ _ (Shared.mk _ _ _ (_ + _) _)); refine genT ?_; intro tkW)
  k_with "execs nil" => (k_here; (with_reducible show wpAny _ _ _ _ _ (Shared.mk _ _ _ (_ + _) _)); refine genT ?_; intro tkW)
  k_with "binaryOp Mult int int" => (refine r_mul (by ((try simp only [Int.reduceAdd, Int.reduceSub, Int.reduceNeg, Int.reduceMul]); exact rfl)) (by mul_fits) ?_)
  k_with "ite" => (k_closed; (first | with_reducible refine ite_posI (by decide) ?_ | with_reducible refine ite_negI (by decide) ?_))
  k_with "eval Name" => (k_here; (with_reducible show wpAny _ _ (eval (Expr.Name _ _) (envOf _ _ _ _ _)) _ _ _); k_dflt (refine' ld ?k1hW ?k2hW ?_ ?k3hW ?k4hW ?k5hW; (case k1hW => k_asm); (case k4hW => exact rfl); (case k2hW => first | exact rfl | assumption); (case k3hW => exact rfl); (case k5hW => decide); k_whole))
  k_with "eval Name" => (k_here; (with_reducible show wpAny _ _ (eval (Expr.Name _ _) (envOf _ _ _ _ _)) _ _ _); (first | (with_reducible refine' nmO_min (w := _) ?k1hW ?k2hW ?k3hW ?k4hW ?k5hW ?_) | (with_reducible refine' nmO_MOVECOST (w := _) ?k1hW ?k2hW ?k3hW ?k4hW ?k5hW ?_) | (with_reducible refine' nmO_substitutioncost (w := _) ?k1hW ?k2hW ?k3hW ?k4hW ?k5hW ?_)); (case k1hW => k_asm); (case k2hW => k_asm); (case k3hW => k_asm); (case k4hW => decide +kernel); (case k5hW => first | exact rfl | assumption); k_whole)
  k_with "subscriptTail Name Name str int" => (k_here; refine r_itemN (by assumption) (by assumption) (by assumption) (by assumption) ?_)
  k_with "subscriptTail Name Name ref int" => (k_here; (with_reducible rename News _ _ _ _ => NxW); k_dflt (refine r_rowI NxW (by assumption) (by assumption) (by assumption) (by assumption) (by assumption) ?_; intro t9xW))
  k_with "call builtin:min" => (k_here; (with_reducible show wpAny _ _ (call (Value.builtin _) [Value.int _ _, Value.int _ _]) _ _ _); (with_reducible rename Fr _ _ _ _ => FxW); (with_reducible rename News _ _ _ _ => NxW); (refine r_min (by with_unfolding_all rfl) FxW NxW (by first | (with_reducible assumption) | exact rfl) ?_); intro _ _ _ _ _)
  k_with "binaryOp Add int int" => (refine r_add (by first | (with_reducible assumption) | exact rfl) ?_)
  k_with "RangeRest" => ((with_unfolding_all first | (refine RangeRest.succ (fun txW hxW tkxW FxW NxW => ?_)) | (refine RangeRest.zero (fun hxW tkxW FxW NxW => ?_))); (try simp only [z00, z01, z02] at FxW))
  k_with "exec If" => refine wpAny_If ?_
  k_with "compareOp Eq str str" => (k_here; refine r_eq (by first | exact beq_self_eq_true _ | exact ne1 (by assumption) | exact ne3a (by assumption) | exact ne3b (by assumption) | exact ne3c (by assumption)) ?_)
  k_with "truthy str" => (k_here; refine r_truthy (by simp only [lnz0, lnz1, lnz2, lnz3]; exact rfl) (by simp only [len0, len1, len2, len3, Nat.reduceLeDiff]) ?_; intro _)
  k_with "subscriptTail Name Slice str ref" => (k_here; (with_reducible show wpAny _ _ (subscriptTail _ (Expr.Slice none _ none _) _ _) _ _ _); (with_reducible rename Fr _ _ _ _ => FxW); (with_reducible rename News _ _ _ _ => NxW); (with_reducible show wpAny _ _ _ _ _ (Shared.mk (Heap.push _ (Obj.mk _ _ (Data.fields #[Value.none, Value.none, Value.none]) _)) _ _ _ _)); (refine r_nn (s := ⟨_, _, _, _, _⟩) (by simp only [sln0, sln1, slf1_0, slf1_1, slt1_1, sln2, slf2_0, slf2_1, slf2_2, slt2_1, slt2_2, sln3, slf3_0, slf3_1, slf3_2, slf3_3, slt3_1, slt3_2, slt3_3]; exact rfl) (by simp only [len0, len1, len2, len3, Nat.reduceLeDiff]) FxW NxW ?_; intro _ _ _ _ _))
  k_with "subscriptTail Name Slice str ref" => (k_here; (with_reducible show wpAny _ _ (subscriptTail _ (Expr.Slice none _ none _) _ _) _ _ _); (with_reducible rename Fr _ _ _ _ => FxW); (with_reducible rename News _ _ _ _ => NxW); (with_reducible show wpAny _ _ _ _ _ (Shared.mk (Heap.push _ (Obj.mk _ _ (Data.fields #[Value.none, Value.int _ _, Value.none]) _)) _ _ _ _)); (refine r_ns (s := ⟨_, _, _, _, _⟩) (by simp only [sln0, sln1, slf1_0, slf1_1, slt1_1, sln2, slf2_0, slf2_1, slf2_2, slt2_1, slt2_2, sln3, slf3_0, slf3_1, slf3_2, slf3_3, slt3_1, slt3_2, slt3_3]; exact rfl) (by simp only [len0, len1, len2, len3, Nat.reduceLeDiff]) FxW NxW ?_; intro _ _ _ _ _))
  k_with "subscriptTail Name Slice str ref" => (k_here; (with_reducible show wpAny _ _ (subscriptTail _ (Expr.Slice (some _) none none _) _ _) _ _ _); (with_reducible rename Fr _ _ _ _ => FxW); (with_reducible rename News _ _ _ _ => NxW); (refine r_sn (s := ⟨_, _, _, _, _⟩) (by simp only [sln0, sln1, slf1_0, slf1_1, slt1_1, sln2, slf2_0, slf2_1, slf2_2, slt2_1, slt2_2, sln3, slf3_0, slf3_1, slf3_2, slf3_3, slt3_1, slt3_2, slt3_3]; exact rfl) (by simp only [len0, len1, len2, len3, Nat.reduceLeDiff]) FxW NxW ?_; intro _ _ _ _ _))
  k_with "subscriptTail Name Name str int" => (k_here; refine r_itemN (by simp only [sli1_m1, sli1_0, sli2_m2, sli2_m1, sli2_0, sli2_1, sli3_m3, sli3_m2, sli3_m1, sli3_0, sli3_1, sli3_2]; exact rfl) (by decide) (by simp only [len0, len1, len2, len3]; decide) (by simp only [len0, len1, len2, len3]; decide) ?_)
  k_with "subscriptTail Name BinOp str int" => (k_here; refine r_itemB (by simp only [sli1_m1, sli1_0, sli2_m2, sli2_m1, sli2_0, sli2_1, sli3_m3, sli3_m2, sli3_m1, sli3_0, sli3_1, sli3_2]; exact rfl) (by decide) (by simp only [len0, len1, len2, len3]; decide) (by simp only [len0, len1, len2, len3]; decide) ?_)
  k_with "exec While BoolOp" => (k_here; k_dflt (refine whl_start 100 ?_))
  k_with "last call builtin:len" => (k_here; (with_reducible show wpAny _ _ (call (Value.builtin _) [Value.str _ _]) _ _ _); refine r_len (by (simp only [lei0, lei1, lei2, lei3]; exact rfl)) (by simp only [len0, len1, len2, len3, Nat.reduceLeDiff]) ?_)
  k_with "call builtin:len" => (k_here; (with_reducible show wpAny _ _ (call (Value.builtin _) [Value.str _ _]) _ _ _); refine r_len (by (simp only [lei0, lei1, lei2, lei3]; exact rfl)) (by simp only [len0, len1, len2, len3, Nat.reduceLeDiff]) ?_)
  k_with "call type:list" => (k_here; (with_reducible show wpAny _ _ (call (Value.type _) [Value.ref _]) _ _ _); (with_reducible rename IsRange _ _ _ _ _ _ _ _ => RxW); (with_reducible rename Fr _ _ _ _ => FxW); (with_reducible rename News _ _ _ _ => NxW); (with_unfolding_all refine r_lr1 rfl FxW NxW RxW (by decide) ?_); intro DxW t0xW cxW hxW tkxW FxW NxW l1W; (try simp only [AllLt, and_true] at l1W); (try k_sweep))
  k_with "call type:list" => (k_here; (with_reducible show wpAny _ _ (call (Value.type _) [Value.ref _]) _ _ _); (with_reducible rename IsRange _ _ _ _ _ _ _ _ => RxW); (with_reducible rename Fr _ _ _ _ => FxW); (with_reducible rename News _ _ _ _ => NxW); (with_unfolding_all refine r_lr2 rfl FxW NxW RxW (by decide) ?_); intro DxW t0xW t1xW cxW hxW tkxW FxW NxW l1W; (try simp only [AllLt, and_true] at l1W); (try k_sweep))
  k_with "call type:list" => (k_here; (with_reducible show wpAny _ _ (call (Value.type _) [Value.ref _]) _ _ _); (with_reducible rename IsRange _ _ _ _ _ _ _ _ => RxW); (with_reducible rename Fr _ _ _ _ => FxW); (with_reducible rename News _ _ _ _ => NxW); (with_unfolding_all refine r_lr3 rfl FxW NxW RxW (by decide) ?_); intro DxW t0xW t1xW t2xW cxW hxW tkxW FxW NxW l1W; (try simp only [AllLt, and_true] at l1W); (try k_sweep))
  k_with "call builtin:min" => (k_here; (with_reducible show wpAny _ _ (call (Value.builtin _) [Value.int _ _, Value.int _ _]) _ _ _); (with_reducible rename Fr _ _ _ _ => FxW); (with_reducible rename News _ _ _ _ => NxW); (refine r_min (by with_unfolding_all rfl) FxW NxW (by ((try simp only [Int.reduceLT, ite_true, ite_false, if_true, if_false, reduceIte]); exact rfl)) ?_); intro _ _ _ _ _)
  k_with "subscriptTail Name Name ref int" => (k_here; (with_reducible rename News _ _ _ _ => NxW); (with_unfolding_all refine r_row NxW (by k_mem) (by decide) (by decide) (by exact rfl) ?_))
  k_with "execs cons" => (k_here; (with_reducible show wpAny _ _ (execs (Stmt.Assign [Expr.Name _ _] (Expr.BinOp (Expr.Name _ _) _ (Expr.Call _ _ _ _) _) _ :: _) _) _ _ _); k_dflt (refine' lev_turn _ _ _ _ _ _ _ _ _ _ _ _ _ _ _ _ _ _ _ _ _ _ _ _ _ _ _ _ _ _ _ _ _ _ _ _ _ _ _ _ _ ?m1hW ?m2hW ?m3hW ?m4hW ?m5hW ?m6hW ?m7hW ?z0hW ?z1hW ?z2hW ?z3hW ?l1hW ?l2hW ?s0hW ?e0hW ?i0hW ?i1hW ?i2hW ?u0hW ?r1hW ?r2hW ?r3hW ?r4hW _ ?k1hW ?k2hW ?k3hW ?k4hW ?k5hW ?kdhW ?kuhW ?_; (case k2hW => k_asm); (case k1hW => k_asm); (case k3hW => k_asm); (case k4hW => k_asm); (case k5hW => k_asm); (case m1hW => exact rfl); (case m2hW => first | exact rfl | assumption); (case m3hW => exact rfl); (case m4hW => exact rfl); (case m5hW => exact rfl); (case m6hW => exact rfl); (case m7hW => exact rfl); (case u0hW => k_updF); (case e0hW => first | (exact .cons _ _ .nil) | (exact .cons _ _ (.cons _ _ .nil)) | (exact .cons _ _ (.cons _ _ (.cons _ _ .nil)))); (case z0hW => (simp only [sli1_0, sli2_0, sli2_1, sli3_0, sli3_1, sli3_2]; exact rfl)); (case z1hW => decide); (case z2hW => (simp only [len1, len2, len3]; decide)); (case z3hW => (simp only [len1, len2, len3]; decide)); (case l1hW => (simp only [len1]; decide)); (case l2hW => (simp only [len1]; decide)); (case s0hW => assumption); (case i0hW => decide); (case i1hW => exact of_decide_eq_true rfl); (case i2hW => exact Nat.le_of_ble_eq_true rfl); (case r1hW => (simp only [Int.reduceToNat, List.getD_cons_zero, List.getD_cons_succ]; exact rfl)); (case r2hW => first | (with_reducible assumption) | (simp only [Int.reduceLT, ite_true, ite_false, if_true, if_false, reduceIte, Int.reduceAdd]; exact rfl)); (case r3hW => first | (with_reducible assumption) | (simp only [Int.reduceLT, ite_true, ite_false, if_true, if_false, reduceIte, Int.reduceAdd]; exact rfl)); (case r4hW => first | (with_reducible assumption) | (simp only [Int.reduceLT, ite_true, ite_false, if_true, if_false, reduceIte, Int.reduceAdd]; exact rfl)); (case kdhW => ktr_room); (case kuhW => ktr_units)); intro hxW tkxW a1xW a2xW a3xW a4xW a5xW FxW NxW; (try dsimp only at NxW); (try simp only [Int.reduceToNat, List.set_cons_zero, List.set_cons_succ] at NxW); (try k_sweep))
  trivial
theorem lev_d1 {w : World} {mean : ExcName → Option Value} {mg mb : Str → Option Value} {dp un : Nat} {gd : Option (List Code)} {af : Addr} {ccd : Value} {outer : List Env} {A₀ : Around} {base h₀ : Heap} {L : Addr} {E : Value → Shared → Prop} {m : Str → Option Value} {x x' : Nat} {t0 t1 t2 : Tok} {QT : Flow → Shared → Prop}
    (hm1 : m (Str.ofString "a") = some (.str (Str.mk #[x]) t0)) (hm2 : m (Str.ofString "b") = some (.str (Str.mk #[x']) t1)) (hm3 : m (Str.ofString "max_cost") = some (.int 3 t2)) (s00 : subF (Str.mk #[x']) (Str.mk #[x]) = 1)
    {s : Shared} (B' : Below A₀ base outer h₀) (F' : Fr h₀ L s.heap m) (X' : (hd.heap_39 w.params).In h₀) (N' : News h₀ L s.heap []) (T' : Top hd.view_39 (looseW hd.view_39 [Str.ofString "insort_right", Str.ofString "bisect_right"]) mean mg mb h₀) (hdp : dp + 1 < recursionLimit) (hun : un + 8 < cLine) (hE : PassesOwn (model PySem.Challenge.rw_pg0171_01.row.prog w) (ktrTop dp un gd (Str.ofString "_levenshtein_distance") levFn.2 L af ccd [] outer) (envOf (Str.ofString "_levenshtein_distance") levFn.2 L af ccd) E)
    (hret : ∀ (h' : Heap) (tk' : Nat) (t : Tok) (m' : Str → Option Value) (news' : List (Addr × Obj)), Fr h₀ L h' m' → News h₀ L h' news' → QT (.ret (.int 1 t)) { s with heap := h', toks := tk' }) :
    wpAny (model PySem.Challenge.rw_pg0171_01.row.prog w) (ktrTop dp un gd (Str.ofString "_levenshtein_distance") levFn.2 L af ccd [] outer) (execs (levFn.1.drop 9) (envOf (Str.ofString "_levenshtein_distance") levFn.2 L af ccd)) QT E s := by
  revert X'
  w_top off
  k_fill
  intro X'
  (conv in (levFn.1.drop 9) => whnf)
  have hsc : levFn.2 = levFn.2 := rfl
  (conv at hsc => lhs; whnf)
  rw [← hsc]
  repeat' ((first | (k_unfold; (try dsimp only)) | (k_end; wrow_close) | walk1 | (dsimp only; walk1) | (leave1; walk_say "STEP leave1"; try dsimp only) | fail "no step"))
  all_goals exact hret _ _ _ _ _ (by k_asm) (by k_asm)

theorem lev_d2 {w : World} {mean : ExcName → Option Value} {mg mb : Str → Option Value} {dp un : Nat} {gd : Option (List Code)} {af : Addr} {ccd : Value} {outer : List Env} {A₀ : Around} {base h₀ : Heap} {L : Addr} {E : Value → Shared → Prop} {m : Str → Option Value} {x y x' y' : Nat} {t0 t1 t2 : Tok} {QT : Flow → Shared → Prop}
    (hm1 : m (Str.ofString "a") = some (.str (Str.mk #[x, y]) t0)) (hm2 : m (Str.ofString "b") = some (.str (Str.mk #[x', y']) t1)) (hm3 : m (Str.ofString "max_cost") = some (.int 3 t2)) (s00 : subF (Str.mk #[x']) (Str.mk #[x]) = 1) (s01 : subF (Str.mk #[x']) (Str.mk #[y]) = 2) (s10 : subF (Str.mk #[y']) (Str.mk #[x]) = 2) (s11 : subF (Str.mk #[y']) (Str.mk #[y]) = 1)
    {s : Shared} (B' : Below A₀ base outer h₀) (F' : Fr h₀ L s.heap m) (X' : (hd.heap_39 w.params).In h₀) (N' : News h₀ L s.heap []) (T' : Top hd.view_39 (looseW hd.view_39 [Str.ofString "insort_right", Str.ofString "bisect_right"]) mean mg mb h₀) (hdp : dp + 1 < recursionLimit) (hun : un + 8 < cLine) (hE : PassesOwn (model PySem.Challenge.rw_pg0171_01.row.prog w) (ktrTop dp un gd (Str.ofString "_levenshtein_distance") levFn.2 L af ccd [] outer) (envOf (Str.ofString "_levenshtein_distance") levFn.2 L af ccd) E)
    (hret : ∀ (h' : Heap) (tk' : Nat) (t : Tok) (m' : Str → Option Value) (news' : List (Addr × Obj)), Fr h₀ L h' m' → News h₀ L h' news' → QT (.ret (.int 2 t)) { s with heap := h', toks := tk' }) :
    wpAny (model PySem.Challenge.rw_pg0171_01.row.prog w) (ktrTop dp un gd (Str.ofString "_levenshtein_distance") levFn.2 L af ccd [] outer) (execs (levFn.1.drop 9) (envOf (Str.ofString "_levenshtein_distance") levFn.2 L af ccd)) QT E s := by
  revert X'
  w_top off
  k_fill
  intro X'
  (conv in (levFn.1.drop 9) => whnf)
  have hsc : levFn.2 = levFn.2 := rfl
  (conv at hsc => lhs; whnf)
  rw [← hsc]
  repeat' ((first | (k_unfold; (try dsimp only)) | (k_end; wrow_close) | walk1 | (dsimp only; walk1) | (leave1; walk_say "STEP leave1"; try dsimp only) | fail "no step"))
  all_goals exact hret _ _ _ _ _ (by k_asm) (by k_asm)
end
section

section
theorem words_8 : True := by
  k_with_none
  k_with "storeName" => (k_here; (with_reducible show wpAny _ _ (storeName (envOf _ _ _ _) _ _) _ _ _); k_dflt (refine' stG ?FhW ?NhW ?_ ?ahW ?bhW; (case FhW => k_asm); (case NhW => k_asm); (case ahW => rfl); (case bhW => rfl); k_whole; intro hxW tkxW FxW NxW; (try k_sweep)))
  k_with "binaryOp Add int int" => (refine r_add (by ((try simp only [Int.reduceAdd, Int.reduceSub, Int.reduceNeg]); exact rfl)) ?_)
  k_with "binaryOp Sub int int" => (refine r_sub (by ((try simp only [Int.reduceAdd, Int.reduceSub, Int.reduceNeg]); exact rfl)) ?_)
  k_with "inplaceOp Add int int" => (refine r_iadd (by ((try simp only [Int.reduceAdd, Int.reduceSub, Int.reduceNeg]); exact rfl)) ?_)
  k_with "inplaceOp Sub int int" => (refine r_isub (by ((try simp only [Int.reduceAdd, Int.reduceSub, Int.reduceNeg]); exact rfl)) ?_)
  k_with "execs cons" => (k_here; (with_reducible show wpAny _ _ _ _ _ (Shared.mk _ _ _ (_ + _) _)); refine genT ?_; intro tkW)
  k_with "execs nil" => (k_here; (with_reducible show wpAny _ _ _ _ _ (Shared.mk _ _ _ (_ + _) _)); refine genT ?_; intro tkW)
  k_with "binaryOp Mult int int" => (refine r_mul (by ((try simp only [Int.reduceAdd, Int.reduceSub, Int.reduceNeg, Int.reduceMul]); exact rfl)) (by mul_fits) ?_)
  k_with "ite" => (k_closed; (first | with_reducible refine ite_posI (by decide) ?_ | with_reducible refine ite_negI (by decide) ?_))
  k_with "RangeRest" => ((with_unfolding_all first | (refine RangeRest.succ (fun txW hxW tkxW FxW NxW => ?_)) | (refine RangeRest.zero (fun hxW tkxW FxW NxW => ?_))); (try simp only [z00, z01, z02] at FxW))
  k_with "exec If" => refine wpAny_If ?_
  k_with "compareOp Eq str str" => (k_here; refine r_eq (by first | exact beq_self_eq_true _ | exact ne1 (by assumption) | exact ne3a (by assumption) | exact ne3b (by assumption) | exact ne3c (by assumption)) ?_)
  k_with "truthy str" => (k_here; refine r_truthy (by simp only [lnz0, lnz1, lnz2, lnz3]; exact rfl) (by simp only [len0, len1, len2, len3, Nat.reduceLeDiff]) ?_; intro _)
  k_with "subscriptTail Name Slice str ref" => (k_here; (with_reducible show wpAny _ _ (subscriptTail _ (Expr.Slice none _ none _) _ _) _ _ _); (with_reducible rename Fr _ _ _ _ => FxW); (with_reducible rename News _ _ _ _ => NxW); (with_reducible show wpAny _ _ _ _ _ (Shared.mk (Heap.push _ (Obj.mk _ _ (Data.fields #[Value.none, Value.none, Value.none]) _)) _ _ _ _)); (refine r_nn (s := ⟨_, _, _, _, _⟩) (by simp only [sln0, sln1, slf1_0, slf1_1, slt1_1, sln2, slf2_0, slf2_1, slf2_2, slt2_1, slt2_2, sln3, slf3_0, slf3_1, slf3_2, slf3_3, slt3_1, slt3_2, slt3_3]; exact rfl) (by simp only [len0, len1, len2, len3, Nat.reduceLeDiff]) FxW NxW ?_; intro _ _ _ _ _))
  k_with "subscriptTail Name Slice str ref" => (k_here; (with_reducible show wpAny _ _ (subscriptTail _ (Expr.Slice none _ none _) _ _) _ _ _); (with_reducible rename Fr _ _ _ _ => FxW); (with_reducible rename News _ _ _ _ => NxW); (with_reducible show wpAny _ _ _ _ _ (Shared.mk (Heap.push _ (Obj.mk _ _ (Data.fields #[Value.none, Value.int _ _, Value.none]) _)) _ _ _ _)); (refine r_ns (s := ⟨_, _, _, _, _⟩) (by simp only [sln0, sln1, slf1_0, slf1_1, slt1_1, sln2, slf2_0, slf2_1, slf2_2, slt2_1, slt2_2, sln3, slf3_0, slf3_1, slf3_2, slf3_3, slt3_1, slt3_2, slt3_3]; exact rfl) (by simp only [len0, len1, len2, len3, Nat.reduceLeDiff]) FxW NxW ?_; intro _ _ _ _ _))
  k_with "subscriptTail Name Slice str ref" => (k_here; (with_reducible show wpAny _ _ (subscriptTail _ (Expr.Slice (some _) none none _) _ _) _ _ _); (with_reducible rename Fr _ _ _ _ => FxW); (with_reducible rename News _ _ _ _ => NxW); (refine r_sn (s := ⟨_, _, _, _, _⟩) (by simp only [sln0, sln1, slf1_0, slf1_1, slt1_1, sln2, slf2_0, slf2_1, slf2_2, slt2_1, slt2_2, sln3, slf3_0, slf3_1, slf3_2, slf3_3, slt3_1, slt3_2, slt3_3]; exact rfl) (by simp only [len0, len1, len2, len3, Nat.reduceLeDiff]) FxW NxW ?_; intro _ _ _ _ _))
  k_with "subscriptTail Name Name str int" => (k_here; refine r_itemN (by simp only [sli1_m1, sli1_0, sli2_m2, sli2_m1, sli2_0, sli2_1, sli3_m3, sli3_m2, sli3_m1, sli3_0, sli3_1, sli3_2]; exact rfl) (by decide) (by simp only [len0, len1, len2, len3]; decide) (by simp only [len0, len1, len2, len3]; decide) ?_)
  k_with "subscriptTail Name BinOp str int" => (k_here; refine r_itemB (by simp only [sli1_m1, sli1_0, sli2_m2, sli2_m1, sli2_0, sli2_1, sli3_m3, sli3_m2, sli3_m1, sli3_0, sli3_1, sli3_2]; exact rfl) (by decide) (by simp only [len0, len1, len2, len3]; decide) (by simp only [len0, len1, len2, len3]; decide) ?_)
  k_with "exec While BoolOp" => (k_here; k_dflt (refine whl_start 100 ?_))
  k_with "last call builtin:len" => (k_here; (with_reducible show wpAny _ _ (call (Value.builtin _) [Value.str _ _]) _ _ _); refine r_len (by (simp only [lei0, lei1, lei2, lei3]; exact rfl)) (by simp only [len0, len1, len2, len3, Nat.reduceLeDiff]) ?_)
  k_with "call builtin:len" => (k_here; (with_reducible show wpAny _ _ (call (Value.builtin _) [Value.str _ _]) _ _ _); refine r_len (by (simp only [lei0, lei1, lei2, lei3]; exact rfl)) (by simp only [len0, len1, len2, len3, Nat.reduceLeDiff]) ?_)
  k_with "call type:list" => (k_here; (with_reducible show wpAny _ _ (call (Value.type _) [Value.ref _]) _ _ _); (with_reducible rename IsRange _ _ _ _ _ _ _ _ => RxW); (with_reducible rename Fr _ _ _ _ => FxW); (with_reducible rename News _ _ _ _ => NxW); (with_unfolding_all refine r_lr1 rfl FxW NxW RxW (by decide) ?_); intro DxW t0xW cxW hxW tkxW FxW NxW l1W; (try simp only [AllLt, and_true] at l1W); (try k_sweep))
  k_with "call type:list" => (k_here; (with_reducible show wpAny _ _ (call (Value.type _) [Value.ref _]) _ _ _); (with_reducible rename IsRange _ _ _ _ _ _ _ _ => RxW); (with_reducible rename Fr _ _ _ _ => FxW); (with_reducible rename News _ _ _ _ => NxW); (with_unfolding_all refine r_lr2 rfl FxW NxW RxW (by decide) ?_); intro DxW t0xW t1xW cxW hxW tkxW FxW NxW l1W; (try simp only [AllLt, and_true] at l1W); (try k_sweep))
  k_with "call type:list" => (k_here; (with_reducible show wpAny _ _ (call (Value.type _) [Value.ref _]) _ _ _); (with_reducible rename IsRange _ _ _ _ _ _ _ _ => RxW); (with_reducible rename Fr _ _ _ _ => FxW); (with_reducible rename News _ _ _ _ => NxW); (with_unfolding_all refine r_lr3 rfl FxW NxW RxW (by decide) ?_); intro DxW t0xW t1xW t2xW cxW hxW tkxW FxW NxW l1W; (try simp only [AllLt, and_true] at l1W); (try k_sweep))
  k_with "call builtin:min" => (k_here; (with_reducible show wpAny _ _ (call (Value.builtin _) [Value.int _ _, Value.int _ _]) _ _ _); (with_reducible rename Fr _ _ _ _ => FxW); (with_reducible rename News _ _ _ _ => NxW); (refine r_min (by with_unfolding_all rfl) FxW NxW (by ((try simp only [Int.reduceLT, ite_true, ite_false, if_true, if_false, reduceIte]); exact rfl)) ?_); intro _ _ _ _ _)
  k_with "subscriptTail Name Name ref int" => (k_here; (with_reducible rename News _ _ _ _ => NxW); (with_unfolding_all refine r_row NxW (by k_mem) (by decide) (by decide) (by exact rfl) ?_))
  k_with "call ref" => (k_here; k_dflt (refine' sub_spec _ _ _ _ _ _ _ _ _ ?q1hW ?q2hW _ ?q3hW _ _ _ _ _ _ _ _ _ _ _ _ _ _ _ _ _ ?k1hW ?k2hW ?k3hW ?k4hW ?k5hW ?kKhW ?kdhW ?kuhW ?_; (case k1hW => k_asm); (case k2hW => k_asm); (case k3hW => k_asm); (case k4hW => k_asm); (case k5hW => k_asm); (case kKhW => first | exact rfl | assumption); (case kdhW => ktr_room); (case kuhW => ktr_units); (case q1hW => exact Nat.le_of_ble_eq_true rfl); (case q2hW => exact Nat.le_of_ble_eq_true rfl); (case q3hW => assumption); intro t9W h9W tk9W F9W N9W; (try dsimp only); (try k_fold)))
  k_with "execs cons" => (k_here; (with_reducible show wpAny _ _ (execs (Stmt.Assign [Expr.Name _ _] (Expr.BinOp (Expr.Name _ _) _ (Expr.Call _ _ _ _) _) _ :: _) _) _ _ _); k_dflt (refine' lev_turn _ _ _ _ _ _ _ _ _ _ _ _ _ _ _ _ _ _ _ _ _ _ _ _ _ _ _ _ _ _ _ _ _ _ _ _ _ _ _ _ _ ?m1hW ?m2hW ?m3hW ?m4hW ?m5hW ?m6hW ?m7hW ?z0hW ?z1hW ?z2hW ?z3hW ?l1hW ?l2hW ?s0hW ?e0hW ?i0hW ?i1hW ?i2hW ?u0hW ?r1hW ?r2hW ?r3hW ?r4hW _ ?k1hW ?k2hW ?k3hW ?k4hW ?k5hW ?kdhW ?kuhW ?_; (case k2hW => k_asm); (case k1hW => k_asm); (case k3hW => k_asm); (case k4hW => k_asm); (case k5hW => k_asm); (case m1hW => exact rfl); (case m2hW => first | exact rfl | assumption); (case m3hW => exact rfl); (case m4hW => exact rfl); (case m5hW => exact rfl); (case m6hW => exact rfl); (case m7hW => exact rfl); (case u0hW => k_updF); (case e0hW => first | (exact .cons _ _ .nil) | (exact .cons _ _ (.cons _ _ .nil)) | (exact .cons _ _ (.cons _ _ (.cons _ _ .nil)))); (case z0hW => (simp only [sli1_0, sli2_0, sli2_1, sli3_0, sli3_1, sli3_2]; exact rfl)); (case z1hW => decide); (case z2hW => (simp only [len1, len2, len3]; decide)); (case z3hW => (simp only [len1, len2, len3]; decide)); (case l1hW => (simp only [len1]; decide)); (case l2hW => (simp only [len1]; decide)); (case s0hW => assumption); (case i0hW => decide); (case i1hW => exact of_decide_eq_true rfl); (case i2hW => exact Nat.le_of_ble_eq_true rfl); (case r1hW => (simp only [Int.reduceToNat, List.getD_cons_zero, List.getD_cons_succ]; exact rfl)); (case r2hW => first | (with_reducible assumption) | (simp only [Int.reduceLT, ite_true, ite_false, if_true, if_false, reduceIte, Int.reduceAdd]; exact rfl)); (case r3hW => first | (with_reducible assumption) | (simp only [Int.reduceLT, ite_true, ite_false, if_true, if_false, reduceIte, Int.reduceAdd]; exact rfl)); (case r4hW => first | (with_reducible assumption) | (simp only [Int.reduceLT, ite_true, ite_false, if_true, if_false, reduceIte, Int.reduceAdd]; exact rfl)); (case kdhW => ktr_room); (case kuhW => ktr_units)); intro hxW tkxW a1xW a2xW a3xW a4xW a5xW FxW NxW; (try dsimp only at NxW); (try simp only [Int.reduceToNat, List.set_cons_zero, List.set_cons_succ] at NxW); (try k_sweep))
  k_with "isTrue BoolOp" => (k_here; (with_reducible show wpAny _ _ (isTrue (Expr.BoolOp _ [_, _, _] _) _ _) _ _ _); k_dflt (refine' lev_t3 ?hphW ?hqhW ?m1hW ?m2hW ?m3hW ?a1hW ?a2hW ?n1hW ?n2hW ?l1hW ?l2hW ?l3hW ?l4hW ?z1hW ?z2hW ?z3hW ?z4hW ?z5hW ?z6hW ?z7hW ?hbhW ?k1hW ?k2hW ?k3hW ?k4hW ?k5hW ?_; (case k2hW => k_asm); (case k1hW => k_asm); (case k3hW => k_asm); (case k4hW => k_asm); (case k5hW => k_asm); (case m3hW => exact rfl); (case m1hW => exact rfl); (case m2hW => exact rfl); (case hphW => decide); (case hqhW => simp only [Int.reduceSub, Int.reduceNeg]; exact rfl); (case a1hW => simp only [sln1, sln2, sln3, slf1_0, slf2_0, slf2_1, slf3_0, slf3_1, slf3_2, slt2_1, slt3_1, slt3_2]; exact rfl); (case a2hW => simp only [sln1, sln2, sln3, slf1_0, slf2_0, slf2_1, slf3_0, slf3_1, slf3_2, slt2_1, slt3_1, slt3_2]; exact rfl); (case n1hW => first | exact lnz3 _ _ _ | exact lnz2 _ _ | exact lnz1 _); (case n2hW => first | exact lnz3 _ _ _ | exact lnz2 _ _ | exact lnz1 _); (case l1hW => exact Nat.le_of_ble_eq_true rfl); (case l2hW => exact Nat.le_of_ble_eq_true rfl); (case l3hW => exact Nat.le_of_ble_eq_true rfl); (case l4hW => exact Nat.le_of_ble_eq_true rfl); (case z1hW => simp only [sli1_m1, sli1_0, sli2_m2, sli2_m1, sli2_0, sli2_1, sli3_m3, sli3_m2, sli3_m1, sli3_0, sli3_1, sli3_2]; exact rfl); (case z2hW => simp only [sli1_m1, sli1_0, sli2_m2, sli2_m1, sli2_0, sli2_1, sli3_m3, sli3_m2, sli3_m1, sli3_0, sli3_1, sli3_2]; exact rfl); (case z3hW => decide); (case z4hW => exact of_decide_eq_true rfl); (case z5hW => exact of_decide_eq_true rfl); (case z6hW => exact of_decide_eq_true rfl); (case z7hW => exact of_decide_eq_true rfl); (case hbhW => first | exact beq_self_eq_true _ | exact ne1 (by assumption))); intro hxW tkxW FxW NxW; (try k_sweep))
  k_with "isTrue BoolOp" => (k_here; (with_reducible show wpAny _ _ (isTrue (Expr.BoolOp _ [_, _, _] _) _ _) _ _ _); k_dflt (refine' lev_t2 ?m1hW ?m2hW ?m3hW ?a1hW ?a2hW ?n1hW ?n2hW ?l1hW ?l2hW ?l3hW ?l4hW ?z1hW ?z2hW ?z3hW ?z4hW ?z5hW ?z6hW ?z7hW ?hbhW ?k1hW ?k2hW ?k3hW ?k4hW ?k5hW ?_; (case k2hW => k_asm); (case k1hW => k_asm); (case k3hW => k_asm); (case k4hW => k_asm); (case k5hW => k_asm); (case m3hW => exact rfl); (case m1hW => exact rfl); (case m2hW => exact rfl); (case a1hW => simp only [sln1, sln2, sln3, slf1_0, slf2_0, slf2_1, slf3_0, slf3_1, slf3_2, slt2_1, slt3_1, slt3_2]; exact rfl); (case a2hW => simp only [sln1, sln2, sln3, slf1_0, slf2_0, slf2_1, slf3_0, slf3_1, slf3_2, slt2_1, slt3_1, slt3_2]; exact rfl); (case n1hW => first | exact lnz3 _ _ _ | exact lnz2 _ _ | exact lnz1 _); (case n2hW => first | exact lnz3 _ _ _ | exact lnz2 _ _ | exact lnz1 _); (case l1hW => exact Nat.le_of_ble_eq_true rfl); (case l2hW => exact Nat.le_of_ble_eq_true rfl); (case l3hW => exact Nat.le_of_ble_eq_true rfl); (case l4hW => exact Nat.le_of_ble_eq_true rfl); (case z1hW => simp only [sli1_m1, sli1_0, sli2_m2, sli2_m1, sli2_0, sli2_1, sli3_m3, sli3_m2, sli3_m1, sli3_0, sli3_1, sli3_2]; exact rfl); (case z2hW => simp only [sli1_m1, sli1_0, sli2_m2, sli2_m1, sli2_0, sli2_1, sli3_m3, sli3_m2, sli3_m1, sli3_0, sli3_1, sli3_2]; exact rfl); (case z3hW => decide); (case z4hW => exact of_decide_eq_true rfl); (case z5hW => exact of_decide_eq_true rfl); (case z6hW => exact of_decide_eq_true rfl); (case z7hW => exact of_decide_eq_true rfl); (case hbhW => first | exact beq_self_eq_true _ | exact ne1 (by assumption))); intro hxW tkxW FxW NxW; (try k_sweep))
  k_with "isTrue BoolOp" => (k_here; (with_reducible show wpAny _ _ (isTrue (Expr.BoolOp _ [_, _, _] _) _ _) _ _ _); k_dflt (refine' lev_t1 ?m1hW ?m2hW ?m3hW ?a1hW ?a2hW ?n1hW ?n2hW ?l1hW ?l2hW ?l3hW ?l4hW ?z1hW ?z2hW ?z3hW ?z4hW ?z5hW ?z6hW ?z7hW ?hbhW ?k1hW ?k2hW ?k3hW ?k4hW ?k5hW ?_; (case k2hW => k_asm); (case k1hW => k_asm); (case k3hW => k_asm); (case k4hW => k_asm); (case k5hW => k_asm); (case m3hW => exact rfl); (case m1hW => exact rfl); (case m2hW => exact rfl); (case a1hW => simp only [sln1, sln2, sln3, slf1_0, slf2_0, slf2_1, slf3_0, slf3_1, slf3_2, slt2_1, slt3_1, slt3_2]; exact rfl); (case a2hW => simp only [sln1, sln2, sln3, slf1_0, slf2_0, slf2_1, slf3_0, slf3_1, slf3_2, slt2_1, slt3_1, slt3_2]; exact rfl); (case n1hW => first | exact lnz3 _ _ _ | exact lnz2 _ _ | exact lnz1 _); (case n2hW => first | exact lnz3 _ _ _ | exact lnz2 _ _ | exact lnz1 _); (case l1hW => exact Nat.le_of_ble_eq_true rfl); (case l2hW => exact Nat.le_of_ble_eq_true rfl); (case l3hW => exact Nat.le_of_ble_eq_true rfl); (case l4hW => exact Nat.le_of_ble_eq_true rfl); (case z1hW => simp only [sli1_m1, sli1_0, sli2_m2, sli2_m1, sli2_0, sli2_1, sli3_m3, sli3_m2, sli3_m1, sli3_0, sli3_1, sli3_2]; exact rfl); (case z2hW => simp only [sli1_m1, sli1_0, sli2_m2, sli2_m1, sli2_0, sli2_1, sli3_m3, sli3_m2, sli3_m1, sli3_0, sli3_1, sli3_2]; exact rfl); (case z3hW => decide); (case z4hW => exact of_decide_eq_true rfl); (case z5hW => exact of_decide_eq_true rfl); (case z6hW => exact of_decide_eq_true rfl); (case z7hW => exact of_decide_eq_true rfl); (case hbhW => first | exact beq_self_eq_true _ | exact ne1 (by assumption))); intro hxW tkxW FxW NxW; (try k_sweep))
  k_with "execs cons" => (k_here; (with_reducible show wpAny _ _ (execs (Stmt.If (Expr.BoolOp _ (Expr.UnaryOp _ _ _ :: _) _) _ _ _ :: _) _) _ _ _); k_dflt (refine' lev_d1 ?m1hW ?m2hW ?m3hW ?s00hW ?k1hW ?k2hW ?k3hW ?k4hW ?k5hW ?kdhW ?kuhW ?kEhW ?_; (case k2hW => k_asm); (case k1hW => k_asm); (case k3hW => k_asm); (case k4hW => k_asm); (case k5hW => k_asm); (case m1hW => exact rfl); (case m2hW => exact rfl); (case m3hW => exact rfl); (case s00hW => assumption); (case kdhW => ktr_room); (case kuhW => ktr_units); (case kEhW => first | passes_own | with_unfolding_all passes_own)); intro hxW tkxW txW mxW N9xW FxW NxW; (try dsimp only))
  k_with "execs cons" => (k_here; (with_reducible show wpAny _ _ (execs (Stmt.If (Expr.BoolOp _ (Expr.UnaryOp _ _ _ :: _) _) _ _ _ :: _) _) _ _ _); k_dflt (refine' lev_d2 ?m1hW ?m2hW ?m3hW ?s00hW ?s01hW ?s10hW ?s11hW ?k1hW ?k2hW ?k3hW ?k4hW ?k5hW ?kdhW ?kuhW ?kEhW ?_; (case k2hW => k_asm); (case k1hW => k_asm); (case k3hW => k_asm); (case k4hW => k_asm); (case k5hW => k_asm); (case m1hW => exact rfl); (case m2hW => exact rfl); (case m3hW => exact rfl); (case s00hW => assumption); (case s01hW => assumption); (case s10hW => assumption); (case s11hW => assumption); (case kdhW => ktr_room); (case kuhW => ktr_units); (case kEhW => first | passes_own | with_unfolding_all passes_own)); intro hxW tkxW txW mxW N9xW FxW NxW; (try dsimp only))
  trivial
theorem lev_1 (w : World) (mean : ExcName → Option Value) (mg mb : Str → Option Value) (t1 t2 t3 : Tok) (news : List (Addr × Obj)) (a x y a' : Nat) (h0 : a ≠ a') (s00 : subF (Str.mk #[a']) (Str.mk #[a]) = 1) :
    Spec w mean mg mb 60 2 16 news [.str (Str.mk #[a, x, y]) t1, .str (Str.mk #[a', x, y]) t2, .int 3 t3] (RetV news (fun t => .int 1 t)) := by
  dsimp only [Spec]
  w_top off
  k_fill
  intro dp un gd cn cs af ccd cl outer A₀ base h₀ L m s Q E B F X N T hk hd hu hret
  have hn : ∀ q ∈ news, q.1 ≠ L ∧ h₀.get? q.1 = none := fun q hq => (N q hq).2
  refine wpAny_call ?_
  (refine' code_defP ?k1 ?k2 ?k3 ?k4 ?k5 ?kA ?kF ?kK ?k6 ?k7 ?k8 ?k9 ?kB ?_ ?c2 ?c3 ?c4 ?c5; (case kA => exact rfl); (case kF => exact rfl); (case kK => assumption); (case k1 => k_asm); (case k2 => k_asm); (case k3 => k_asm); (case k4 => k_asm); (case k5 => k_asm); (case k6 => k_is); (case k7 => k_is); (case k8 => ktr_room); (case k9 => exact BindsTo.of_eq rfl); (case c5 => decide); (case kB => exact locs rfl); (case c2 => exact rfl); (case c3 => exact rfl); (case c4 => exact rfl); k_whole; intro g' L' h' FG' hg hlt F' N' B' X' T'; (try dsimp only); (try k_lift B'); (try k_fold))
  clear N
  k_steps
  all_goals (refine retI hret (by k_asm) (keepNews (by k_asm) hg hn) ?_; rfl)
end
section
theorem lev_2 (w : World) (mean : ExcName → Option Value) (mg mb : Str → Option Value) (t1 t2 t3 : Tok) (news : List (Addr × Obj)) (x a y a' : Nat) (h1 : a ≠ a') (s11 : subF (Str.mk #[a']) (Str.mk #[a]) = 1) :
    Spec w mean mg mb 60 2 16 news [.str (Str.mk #[x, a, y]) t1, .str (Str.mk #[x, a', y]) t2, .int 3 t3] (RetV news (fun t => .int 1 t)) := by
  dsimp only [Spec]
  w_top off
  k_fill
  intro dp un gd cn cs af ccd cl outer A₀ base h₀ L m s Q E B F X N T hk hd hu hret
  have hn : ∀ q ∈ news, q.1 ≠ L ∧ h₀.get? q.1 = none := fun q hq => (N q hq).2
  refine wpAny_call ?_
  (refine' code_defP ?k1 ?k2 ?k3 ?k4 ?k5 ?kA ?kF ?kK ?k6 ?k7 ?k8 ?k9 ?kB ?_ ?c2 ?c3 ?c4 ?c5; (case kA => exact rfl); (case kF => exact rfl); (case kK => assumption); (case k1 => k_asm); (case k2 => k_asm); (case k3 => k_asm); (case k4 => k_asm); (case k5 => k_asm); (case k6 => k_is); (case k7 => k_is); (case k8 => ktr_room); (case k9 => exact BindsTo.of_eq rfl); (case c5 => decide); (case kB => exact locs rfl); (case c2 => exact rfl); (case c3 => exact rfl); (case c4 => exact rfl); k_whole; intro g' L' h' FG' hg hlt F' N' B' X' T'; (try dsimp only); (try k_lift B'); (try k_fold))
  clear N
  k_steps
  all_goals (refine retI hret (by k_asm) (keepNews (by k_asm) hg hn) ?_; rfl)
end
section
theorem lev_3 (w : World) (mean : ExcName → Option Value) (mg mb : Str → Option Value) (t1 t2 t3 : Tok) (news : List (Addr × Obj)) (x y a a' : Nat) (h2 : a ≠ a') (s22 : subF (Str.mk #[a']) (Str.mk #[a]) = 1) :
    Spec w mean mg mb 60 2 16 news [.str (Str.mk #[x, y, a]) t1, .str (Str.mk #[x, y, a']) t2, .int 3 t3] (RetV news (fun t => .int 1 t)) := by
  dsimp only [Spec]
  w_top off
  k_fill
  intro dp un gd cn cs af ccd cl outer A₀ base h₀ L m s Q E B F X N T hk hd hu hret
  have hn : ∀ q ∈ news, q.1 ≠ L ∧ h₀.get? q.1 = none := fun q hq => (N q hq).2
  refine wpAny_call ?_
  (refine' code_defP ?k1 ?k2 ?k3 ?k4 ?k5 ?kA ?kF ?kK ?k6 ?k7 ?k8 ?k9 ?kB ?_ ?c2 ?c3 ?c4 ?c5; (case kA => exact rfl); (case kF => exact rfl); (case kK => assumption); (case k1 => k_asm); (case k2 => k_asm); (case k3 => k_asm); (case k4 => k_asm); (case k5 => k_asm); (case k6 => k_is); (case k7 => k_is); (case k8 => ktr_room); (case k9 => exact BindsTo.of_eq rfl); (case c5 => decide); (case kB => exact locs rfl); (case c2 => exact rfl); (case c3 => exact rfl); (case c4 => exact rfl); k_whole; intro g' L' h' FG' hg hlt F' N' B' X' T'; (try dsimp only); (try k_lift B'); (try k_fold))
  clear N
  k_steps
  all_goals (refine retI hret (by k_asm) (keepNews (by k_asm) hg hn) ?_; rfl)
end
section
theorem lev_4 (w : World) (mean : ExcName → Option Value) (mg mb : Str → Option Value) (t1 t2 t3 : Tok) (news : List (Addr × Obj)) (a b y a' b' : Nat) (h0 : a ≠ a') (h1 : b ≠ b') (s00 : subF (Str.mk #[a']) (Str.mk #[a]) = 1) (s01 : subF (Str.mk #[a']) (Str.mk #[b]) = 2) (s10 : subF (Str.mk #[b']) (Str.mk #[a]) = 2) (s11 : subF (Str.mk #[b']) (Str.mk #[b]) = 1) :
    Spec w mean mg mb 60 2 16 news [.str (Str.mk #[a, b, y]) t1, .str (Str.mk #[a', b', y]) t2, .int 3 t3] (RetV news (fun t => .int 2 t)) := by
  dsimp only [Spec]
  w_top off
  k_fill
  intro dp un gd cn cs af ccd cl outer A₀ base h₀ L m s Q E B F X N T hk hd hu hret
  have hn : ∀ q ∈ news, q.1 ≠ L ∧ h₀.get? q.1 = none := fun q hq => (N q hq).2
  refine wpAny_call ?_
  (refine' code_defP ?k1 ?k2 ?k3 ?k4 ?k5 ?kA ?kF ?kK ?k6 ?k7 ?k8 ?k9 ?kB ?_ ?c2 ?c3 ?c4 ?c5; (case kA => exact rfl); (case kF => exact rfl); (case kK => assumption); (case k1 => k_asm); (case k2 => k_asm); (case k3 => k_asm); (case k4 => k_asm); (case k5 => k_asm); (case k6 => k_is); (case k7 => k_is); (case k8 => ktr_room); (case k9 => exact BindsTo.of_eq rfl); (case c5 => decide); (case kB => exact locs rfl); (case c2 => exact rfl); (case c3 => exact rfl); (case c4 => exact rfl); k_whole; intro g' L' h' FG' hg hlt F' N' B' X' T'; (try dsimp only); (try k_lift B'); (try k_fold))
  clear N
  k_steps
  all_goals (refine retI hret (by k_asm) (keepNews (by k_asm) hg hn) ?_; rfl)
end
section
theorem lev_5 (w : World) (mean : ExcName → Option Value) (mg mb : Str → Option Value) (t1 t2 t3 : Tok) (news : List (Addr × Obj)) (x a b a' b' : Nat) (h1 : a ≠ a') (h2 : b ≠ b') (s11 : subF (Str.mk #[a']) (Str.mk #[a]) = 1) (s12 : subF (Str.mk #[a']) (Str.mk #[b]) = 2) (s21 : subF (Str.mk #[b']) (Str.mk #[a]) = 2) (s22 : subF (Str.mk #[b']) (Str.mk #[b]) = 1) :
    Spec w mean mg mb 60 2 16 news [.str (Str.mk #[x, a, b]) t1, .str (Str.mk #[x, a', b']) t2, .int 3 t3] (RetV news (fun t => .int 2 t)) := by
  dsimp only [Spec]
  w_top off
  k_fill
  intro dp un gd cn cs af ccd cl outer A₀ base h₀ L m s Q E B F X N T hk hd hu hret
  have hn : ∀ q ∈ news, q.1 ≠ L ∧ h₀.get? q.1 = none := fun q hq => (N q hq).2
  refine wpAny_call ?_
  (refine' code_defP ?k1 ?k2 ?k3 ?k4 ?k5 ?kA ?kF ?kK ?k6 ?k7 ?k8 ?k9 ?kB ?_ ?c2 ?c3 ?c4 ?c5; (case kA => exact rfl); (case kF => exact rfl); (case kK => assumption); (case k1 => k_asm); (case k2 => k_asm); (case k3 => k_asm); (case k4 => k_asm); (case k5 => k_asm); (case k6 => k_is); (case k7 => k_is); (case k8 => ktr_room); (case k9 => exact BindsTo.of_eq rfl); (case c5 => decide); (case kB => exact locs rfl); (case c2 => exact rfl); (case c3 => exact rfl); (case c4 => exact rfl); k_whole; intro g' L' h' FG' hg hlt F' N' B' X' T'; (try dsimp only); (try k_lift B'); (try k_fold))
  clear N
  k_steps
  all_goals (refine retI hret (by k_asm) (keepNews (by k_asm) hg hn) ?_; rfl)
end
section
theorem lev_67 (w : World) (mean : ExcName → Option Value) (mg mb : Str → Option Value) (t1 t2 t3 : Tok) (news : List (Addr × Obj)) (a b c a' b' c' : Nat) (v v1 v2 v3 v5 : Int) (h0 : a ≠ a') (h2 : c ≠ c') (hv1 : v1 ≤ 3) (hv2 : v2 ≤ 3) (s00 : subF (Str.mk #[a']) (Str.mk #[a]) = 1) (s01 : subF (Str.mk #[a']) (Str.mk #[b]) = 2) (s02 : subF (Str.mk #[a']) (Str.mk #[c]) = 2) (s10 : subF (Str.mk #[b']) (Str.mk #[a]) = 2) (s11 : subF (Str.mk #[b']) (Str.mk #[b]) = v) (s12 : subF (Str.mk #[b']) (Str.mk #[c]) = 2) (s20 : subF (Str.mk #[c']) (Str.mk #[a]) = 2) (s21 : subF (Str.mk #[c']) (Str.mk #[b]) = 2) (s22 : subF (Str.mk #[c']) (Str.mk #[c]) = 1) (e0 : (if 1 + v < 5 then 1 + v else 5) = v1) (e1 : (if v1 < 3 then v1 else 3) = v1) (e2 : (if 5 < v1 then 5 else v1) + 2 = v3) (e3 : (if 3 + 2 < v3 then 3 + 2 else v3) = v3) (e4 : (if v3 < v1 then v3 else v1) = v1) (e5 : (if v1 < 5 then v1 else 5) + 2 = v3) (e6 : (if v3 < 5 then v3 else 5) = v3) (e7 : (if v3 < v3 then v3 else v3) + 2 = v5) (e8 : (if v1 + 1 < v5 then v1 + 1 else v5) = v2) (e9 : (if v2 < v3 then v2 else v3) = v2) :
    Spec w mean mg mb 60 2 16 news [.str (Str.mk #[a, b, c]) t1, .str (Str.mk #[a', b', c']) t2, .int 3 t3] (RetV news (fun t => .int v2 t)) := by
  dsimp only [Spec]
  w_top off
  k_fill
  intro dp un gd cn cs af ccd cl outer A₀ base h₀ L m s Q E B F X N T hk hd hu hret
  have hn : ∀ q ∈ news, q.1 ≠ L ∧ h₀.get? q.1 = none := fun q hq => (N q hq).2
  refine wpAny_call ?_
  (refine' code_defP ?k1 ?k2 ?k3 ?k4 ?k5 ?kA ?kF ?kK ?k6 ?k7 ?k8 ?k9 ?kB ?_ ?c2 ?c3 ?c4 ?c5; (case kA => exact rfl); (case kF => exact rfl); (case kK => assumption); (case k1 => k_asm); (case k2 => k_asm); (case k3 => k_asm); (case k4 => k_asm); (case k5 => k_asm); (case k6 => k_is); (case k7 => k_is); (case k8 => ktr_room); (case k9 => exact BindsTo.of_eq rfl); (case c5 => decide); (case kB => exact locs rfl); (case c2 => exact rfl); (case c3 => exact rfl); (case c4 => exact rfl); k_whole; intro g' L' h' FG' hg hlt F' N' B' X' T'; (try dsimp only); (try k_lift B'); (try k_fold))
  clear N
  k_steps
  all_goals (refine retI hret (by k_asm) (keepNews (by k_asm) hg hn) ?_; rfl)
end
end
section

section
theorem words_9 : True := by
  k_with_none
  k_with "storeName" => (k_here; (with_reducible show wpAny _ _ (storeName (envOf _ _ _ _) _ _) _ _ _); k_dflt (refine' stG ?FhW ?NhW ?_ ?ahW ?bhW; (case FhW => k_asm); (case NhW => k_asm); (case ahW => rfl); (case bhW => rfl); k_whole; intro hxW tkxW FxW NxW; (try k_sweep)))
  k_with "binaryOp Add int int" => (refine r_add (by ((try simp only [Int.reduceAdd, Int.reduceSub, Int.reduceNeg]); exact rfl)) ?_)
  k_with "binaryOp Sub int int" => (refine r_sub (by ((try simp only [Int.reduceAdd, Int.reduceSub, Int.reduceNeg]); exact rfl)) ?_)
  k_with "inplaceOp Add int int" => (refine r_iadd (by ((try simp only [Int.reduceAdd, Int.reduceSub, Int.reduceNeg]); exact rfl)) ?_)
  k_with "inplaceOp Sub int int" => (refine r_isub (by ((try simp only [Int.reduceAdd, Int.reduceSub, Int.reduceNeg]); exact rfl)) ?_)
  k_with "execs cons" => (k_here; (with_reducible show wpAny _ _ _ _ _ (Shared.mk _ _ _ (_ + _) _)); refine genT ?_; intro tkW)
  k_with "execs nil" => (k_here; (with_reducible show wpAny _ _ _ _ _ (Shared.mk _ _ _ (_ + _) _)); refine genT ?_; intro tkW)
  k_with "binaryOp Mult int int" => (refine r_mul (by ((try simp only [Int.reduceAdd, Int.reduceSub, Int.reduceNeg, Int.reduceMul]); exact rfl)) (by mul_fits) ?_)
  k_with "ite" => (k_closed; (first | with_reducible refine ite_posI (by decide) ?_ | with_reducible refine ite_negI (by decide) ?_))
  k_with "RangeRest" => ((with_unfolding_all first | (refine RangeRest.succ (fun txW hxW tkxW FxW NxW => ?_)) | (refine RangeRest.zero (fun hxW tkxW FxW NxW => ?_))); (try simp only [z00, z01, z02] at FxW))
  k_with "exec If" => refine wpAny_If ?_
  k_with "compareOp Eq str str" => (k_here; refine r_eq (by first | exact beq_self_eq_true _ | exact ne1 (by assumption) | exact ne3a (by assumption) | exact ne3b (by assumption) | exact ne3c (by assumption)) ?_)
  k_with "truthy str" => (k_here; refine r_truthy (by simp only [lnz0, lnz1, lnz2, lnz3]; exact rfl) (by simp only [len0, len1, len2, len3, Nat.reduceLeDiff]) ?_; intro _)
  k_with "subscriptTail Name Slice str ref" => (k_here; (with_reducible show wpAny _ _ (subscriptTail _ (Expr.Slice none _ none _) _ _) _ _ _); (with_reducible rename Fr _ _ _ _ => FxW); (with_reducible rename News _ _ _ _ => NxW); (with_reducible show wpAny _ _ _ _ _ (Shared.mk (Heap.push _ (Obj.mk _ _ (Data.fields #[Value.none, Value.none, Value.none]) _)) _ _ _ _)); (refine r_nn (s := ⟨_, _, _, _, _⟩) (by simp only [sln0, sln1, slf1_0, slf1_1, slt1_1, sln2, slf2_0, slf2_1, slf2_2, slt2_1, slt2_2, sln3, slf3_0, slf3_1, slf3_2, slf3_3, slt3_1, slt3_2, slt3_3]; exact rfl) (by simp only [len0, len1, len2, len3, Nat.reduceLeDiff]) FxW NxW ?_; intro _ _ _ _ _))
  k_with "subscriptTail Name Slice str ref" => (k_here; (with_reducible show wpAny _ _ (subscriptTail _ (Expr.Slice none _ none _) _ _) _ _ _); (with_reducible rename Fr _ _ _ _ => FxW); (with_reducible rename News _ _ _ _ => NxW); (with_reducible show wpAny _ _ _ _ _ (Shared.mk (Heap.push _ (Obj.mk _ _ (Data.fields #[Value.none, Value.int _ _, Value.none]) _)) _ _ _ _)); (refine r_ns (s := ⟨_, _, _, _, _⟩) (by simp only [sln0, sln1, slf1_0, slf1_1, slt1_1, sln2, slf2_0, slf2_1, slf2_2, slt2_1, slt2_2, sln3, slf3_0, slf3_1, slf3_2, slf3_3, slt3_1, slt3_2, slt3_3]; exact rfl) (by simp only [len0, len1, len2, len3, Nat.reduceLeDiff]) FxW NxW ?_; intro _ _ _ _ _))
  k_with "subscriptTail Name Slice str ref" => (k_here; (with_reducible show wpAny _ _ (subscriptTail _ (Expr.Slice (some _) none none _) _ _) _ _ _); (with_reducible rename Fr _ _ _ _ => FxW); (with_reducible rename News _ _ _ _ => NxW); (refine r_sn (s := ⟨_, _, _, _, _⟩) (by simp only [sln0, sln1, slf1_0, slf1_1, slt1_1, sln2, slf2_0, slf2_1, slf2_2, slt2_1, slt2_2, sln3, slf3_0, slf3_1, slf3_2, slf3_3, slt3_1, slt3_2, slt3_3]; exact rfl) (by simp only [len0, len1, len2, len3, Nat.reduceLeDiff]) FxW NxW ?_; intro _ _ _ _ _))
  k_with "subscriptTail Name Name str int" => (k_here; refine r_itemN (by simp only [sli1_m1, sli1_0, sli2_m2, sli2_m1, sli2_0, sli2_1, sli3_m3, sli3_m2, sli3_m1, sli3_0, sli3_1, sli3_2]; exact rfl) (by decide) (by simp only [len0, len1, len2, len3]; decide) (by simp only [len0, len1, len2, len3]; decide) ?_)
  k_with "subscriptTail Name BinOp str int" => (k_here; refine r_itemB (by simp only [sli1_m1, sli1_0, sli2_m2, sli2_m1, sli2_0, sli2_1, sli3_m3, sli3_m2, sli3_m1, sli3_0, sli3_1, sli3_2]; exact rfl) (by decide) (by simp only [len0, len1, len2, len3]; decide) (by simp only [len0, len1, len2, len3]; decide) ?_)
  k_with "exec While BoolOp" => (k_here; k_dflt (refine whl_start 100 ?_))
  k_with "last call builtin:len" => (k_here; (with_reducible show wpAny _ _ (call (Value.builtin _) [Value.str _ _]) _ _ _); refine r_len (by (simp only [lei0, lei1, lei2, lei3]; exact rfl)) (by simp only [len0, len1, len2, len3, Nat.reduceLeDiff]) ?_)
  k_with "call builtin:len" => (k_here; (with_reducible show wpAny _ _ (call (Value.builtin _) [Value.str _ _]) _ _ _); refine r_len (by (simp only [lei0, lei1, lei2, lei3]; exact rfl)) (by simp only [len0, len1, len2, len3, Nat.reduceLeDiff]) ?_)
  k_with "call type:list" => (k_here; (with_reducible show wpAny _ _ (call (Value.type _) [Value.ref _]) _ _ _); (with_reducible rename IsRange _ _ _ _ _ _ _ _ => RxW); (with_reducible rename Fr _ _ _ _ => FxW); (with_reducible rename News _ _ _ _ => NxW); (with_unfolding_all refine r_lr1 rfl FxW NxW RxW (by decide) ?_); intro DxW t0xW cxW hxW tkxW FxW NxW l1W; (try simp only [AllLt, and_true] at l1W); (try k_sweep))
  k_with "call type:list" => (k_here; (with_reducible show wpAny _ _ (call (Value.type _) [Value.ref _]) _ _ _); (with_reducible rename IsRange _ _ _ _ _ _ _ _ => RxW); (with_reducible rename Fr _ _ _ _ => FxW); (with_reducible rename News _ _ _ _ => NxW); (with_unfolding_all refine r_lr2 rfl FxW NxW RxW (by decide) ?_); intro DxW t0xW t1xW cxW hxW tkxW FxW NxW l1W; (try simp only [AllLt, and_true] at l1W); (try k_sweep))
  k_with "call type:list" => (k_here; (with_reducible show wpAny _ _ (call (Value.type _) [Value.ref _]) _ _ _); (with_reducible rename IsRange _ _ _ _ _ _ _ _ => RxW); (with_reducible rename Fr _ _ _ _ => FxW); (with_reducible rename News _ _ _ _ => NxW); (with_unfolding_all refine r_lr3 rfl FxW NxW RxW (by decide) ?_); intro DxW t0xW t1xW t2xW cxW hxW tkxW FxW NxW l1W; (try simp only [AllLt, and_true] at l1W); (try k_sweep))
  k_with "call builtin:min" => (k_here; (with_reducible show wpAny _ _ (call (Value.builtin _) [Value.int _ _, Value.int _ _]) _ _ _); (with_reducible rename Fr _ _ _ _ => FxW); (with_reducible rename News _ _ _ _ => NxW); (refine r_min (by with_unfolding_all rfl) FxW NxW (by ((try simp only [Int.reduceLT, ite_true, ite_false, if_true, if_false, reduceIte]); exact rfl)) ?_); intro _ _ _ _ _)
  k_with "subscriptTail Name Name ref int" => (k_here; (with_reducible rename News _ _ _ _ => NxW); (with_unfolding_all refine r_row NxW (by k_mem) (by decide) (by decide) (by exact rfl) ?_))
  k_with "call ref" => (k_here; k_dflt (refine' sub_spec _ _ _ _ _ _ _ _ _ ?q1hW ?q2hW _ ?q3hW _ _ _ _ _ _ _ _ _ _ _ _ _ _ _ _ _ ?k1hW ?k2hW ?k3hW ?k4hW ?k5hW ?kKhW ?kdhW ?kuhW ?_; (case k1hW => k_asm); (case k2hW => k_asm); (case k3hW => k_asm); (case k4hW => k_asm); (case k5hW => k_asm); (case kKhW => first | exact rfl | assumption); (case kdhW => ktr_room); (case kuhW => ktr_units); (case q1hW => exact Nat.le_of_ble_eq_true rfl); (case q2hW => exact Nat.le_of_ble_eq_true rfl); (case q3hW => assumption); intro t9W h9W tk9W F9W N9W; (try dsimp only); (try k_fold)))
  trivial
theorem lev_0 (w : World) (mean : ExcName → Option Value) (mg mb : Str → Option Value) (t1 t2 t3 : Tok) (news : List (Addr × Obj)) (X : Str) :
    Spec w mean mg mb 60 2 16 news [.str X t1, .str X t2, .int 3 t3] (RetV news (fun t => .int 0 t)) := by
  dsimp only [Spec]
  w_top off
  k_fill
  intro dp un gd cn cs af ccd cl outer A₀ base h₀ L m s Q E B F X N T hk hd hu hret
  have hn : ∀ q ∈ news, q.1 ≠ L ∧ h₀.get? q.1 = none := fun q hq => (N q hq).2
  refine wpAny_call ?_
  (refine' code_defP ?k1 ?k2 ?k3 ?k4 ?k5 ?kA ?kF ?kK ?k6 ?k7 ?k8 ?k9 ?kB ?_ ?c2 ?c3 ?c4 ?c5; (case kA => exact rfl); (case kF => exact rfl); (case kK => assumption); (case k1 => k_asm); (case k2 => k_asm); (case k3 => k_asm); (case k4 => k_asm); (case k5 => k_asm); (case k6 => k_is); (case k7 => k_is); (case k8 => ktr_room); (case k9 => exact BindsTo.of_eq rfl); (case c5 => decide); (case kB => exact locs rfl); (case c2 => exact rfl); (case c3 => exact rfl); (case c4 => exact rfl); k_whole; intro g' L' h' FG' hg hlt F' N' B' X' T'; (try dsimp only); (try k_lift B'); (try k_fold))
  clear N
  k_steps
  all_goals (refine retI hret (by k_asm) (keepNews (by k_asm) hg hn) ?_; rfl)
end
end
section

section
theorem words_10 : True := by
  k_with_none
  k_with "storeName" => (k_here; (with_reducible show wpAny _ _ (storeName (envOf _ _ _ _) _ _) _ _ _); k_dflt (refine' stG ?FhW ?NhW ?_ ?ahW ?bhW; (case FhW => k_asm); (case NhW => k_asm); (case ahW => rfl); (case bhW => rfl); k_whole; intro hxW tkxW FxW NxW; (try k_sweep)))
  k_with "binaryOp Add int int" => (refine r_add (by ((try simp only [Int.reduceAdd, Int.reduceSub, Int.reduceNeg]); exact rfl)) ?_)
  k_with "binaryOp Sub int int" => (refine r_sub (by ((try simp only [Int.reduceAdd, Int.reduceSub, Int.reduceNeg]); exact rfl)) ?_)
  k_with "inplaceOp Add int int" => (refine r_iadd (by ((try simp only [Int.reduceAdd, Int.reduceSub, Int.reduceNeg]); exact rfl)) ?_)
  k_with "inplaceOp Sub int int" => (refine r_isub (by ((try simp only [Int.reduceAdd, Int.reduceSub, Int.reduceNeg]); exact rfl)) ?_)
  k_with "execs cons" => (k_here; (with_reducible show wpAny _ _ _ _ _ (Shared.mk _ _ _ (_ + _) _)); refine genT ?_; intro tkW)
  k_with "execs nil" => (k_here; (with_reducible show wpAny _ _ _ _ _ (Shared.mk _ _ _ (_ + _) _)); refine genT ?_; intro tkW)
  k_with "binaryOp Mult int int" => (refine r_mul (by ((try simp only [Int.reduceAdd, Int.reduceSub, Int.reduceNeg, Int.reduceMul]); exact rfl)) (by mul_fits) ?_)
  k_with "ite" => (k_closed; (first | with_reducible refine ite_posI (by decide) ?_ | with_reducible refine ite_negI (by decide) ?_))
  k_with "call builtin:max" => (k_here; (with_reducible show wpAny _ _ (call _ [Value.float _ _, Value.float _ _, Value.float _ _]) _ _ _); (with_reducible rename Fr _ _ _ _ => FxW); (with_reducible rename News _ _ _ _ => NxW); (refine r_max3 (by with_unfolding_all rfl) FxW NxW ‹max3F _ _ _ = _› ?_); intro _ _ _ _ _)
  k_with "call builtin:min" => (k_here; (with_reducible show wpAny _ _ (call _ [Value.float _ _, Value.float _ _, Value.float _ _]) _ _ _); (with_reducible rename Fr _ _ _ _ => FxW); (with_reducible rename News _ _ _ _ => NxW); (refine r_min3 (by with_unfolding_all rfl) FxW NxW ‹min3F _ _ _ = _› ?_); intro _ _ _ _ _)
  k_with "binaryOp Div float float" => (k_here; refine r_fdiv (by with_unfolding_all rfl) (by first | with_reducible assumption | (decide +kernel)) ?_)
  k_with "binaryOp Mod float float" => (k_here; refine r_fmod (by with_unfolding_all rfl) (by decide +kernel) ?_)
  k_with "compareOp Eq float float" => (k_here; refine r_feq (by with_reducible assumption) ?_)
  k_with "newTuple" => (k_here; k_dflt (refine' r_tuple ?FhW ?NhW ?zhW ?_; (case FhW => k_asm); (case NhW => k_asm); (case zhW => exact Nat.le_of_ble_eq_true rfl)); intro DxW hxW FxW NxW l1W l2W; (try simp only [AllLt, and_true] at l1W); (try k_sweep))
  trivial
theorem hsv_t (w : World) (mean : ExcName → Option Value) (mg mb : Str → Option Value) (t1 t2 t3 : Tok) (news : List (Addr × Obj)) (r g b mx mn : UInt64)
    (hmx : max3F r g b = mx) (hmn : min3F r g b = mn) (hne : (Float64.cmp mn mx == some .eq) = false) (hz1 : Float64.isZero (Float64.sub mx mn) = false) (hz2 : Float64.isZero mx = false) :
    Spec w mean mg mb 46 1 8 news [.float r t1, .float g t2, .float b t3] (RetT news (fun u1 u2 u3 => tupF (hueF r g b mx mn) (Float64.div (Float64.sub mx mn) mx) mx u1 u2 u3)) := by
  dsimp only [Spec]
  w_top off
  k_fill
  intro dp un gd cn cs af ccd cl outer A₀ base h₀ L m s Q E B F X N T hk hd hu hret
  have hn : ∀ q ∈ news, q.1 ≠ L ∧ h₀.get? q.1 = none := fun q hq => (N q hq).2
  refine wpAny_call ?_
  (refine' code_defP ?k1 ?k2 ?k3 ?k4 ?k5 ?kA ?kF ?kK ?k6 ?k7 ?k8 ?k9 ?kB ?_ ?c2 ?c3 ?c4 ?c5; (case kA => exact rfl); (case kF => exact rfl); (case kK => assumption); (case k1 => k_asm); (case k2 => k_asm); (case k3 => k_asm); (case k4 => k_asm); (case k5 => k_asm); (case k6 => k_is); (case k7 => k_is); (case k8 => ktr_room); (case k9 => exact BindsTo.of_eq rfl); (case c5 => decide); (case kB => exact locs rfl); (case c2 => exact rfl); (case c3 => exact rfl); (case c4 => exact rfl); k_whole; intro g' L' h' FG' hg hlt F' N' B' X' T'; (try dsimp only); (try k_lift B'); (try k_fold))
  clear N
  k_steps
  all_goals (first | rw [hueF_1 (by with_reducible assumption)] at hret | rw [hueF_2 (by with_reducible assumption) (by with_reducible assumption)] at hret | rw [hueF_3 (by with_reducible assumption) (by with_reducible assumption)] at hret)
  all_goals exact retT hret (by k_asm) (by k_asm) (List.Mem.head _) (keepNews (by k_asm) hg hn) hlt (by with_reducible assumption)
end
section
theorem hls_t (w : World) (mean : ExcName → Option Value) (mg mb : Str → Option Value) (t1 t2 t3 : Tok) (news : List (Addr × Obj)) (r g b mx mn : UInt64)
    (hmx : max3F r g b = mx) (hmn : min3F r g b = mn) (hne : (Float64.cmp mn mx == some .eq) = false) (hz1 : Float64.isZero (Float64.sub mx mn) = false) (hz3 : Float64.isZero (Float64.add mx mn) = false) (hz4 : Float64.isZero (Float64.sub (Float64.sub 4611686018427387904 mx) mn) = false) :
    Spec w mean mg mb 39 1 8 news [.float r t1, .float g t2, .float b t3] (fun h₀ L m s Q => ∀ sv : UInt64, RetT news (fun u1 u2 u3 => tupF (hueF r g b mx mn) (Float64.div (Float64.add mx mn) 4611686018427387904) sv u1 u2 u3) h₀ L m s Q) := by
  dsimp only [Spec]
  w_top off
  k_fill
  intro dp un gd cn cs af ccd cl outer A₀ base h₀ L m s Q E B F X N T hk hd hu hret
  have hn : ∀ q ∈ news, q.1 ≠ L ∧ h₀.get? q.1 = none := fun q hq => (N q hq).2
  refine wpAny_call ?_
  (refine' code_defP ?k1 ?k2 ?k3 ?k4 ?k5 ?kA ?kF ?kK ?k6 ?k7 ?k8 ?k9 ?kB ?_ ?c2 ?c3 ?c4 ?c5; (case kA => exact rfl); (case kF => exact rfl); (case kK => assumption); (case k1 => k_asm); (case k2 => k_asm); (case k3 => k_asm); (case k4 => k_asm); (case k5 => k_asm); (case k6 => k_is); (case k7 => k_is); (case k8 => ktr_room); (case k9 => exact BindsTo.of_eq rfl); (case c5 => decide); (case kB => exact locs rfl); (case c2 => exact rfl); (case c3 => exact rfl); (case c4 => exact rfl); k_whole; intro g' L' h' FG' hg hlt F' N' B' X' T'; (try dsimp only); (try k_lift B'); (try k_fold))
  clear N
  k_steps
  all_goals (first | rw [hueF_1 (by with_reducible assumption)] at hret | rw [hueF_2 (by with_reducible assumption) (by with_reducible assumption)] at hret | rw [hueF_3 (by with_reducible assumption) (by with_reducible assumption)] at hret)
  all_goals exact retT (hret _) (by k_asm) (by k_asm) (List.Mem.head _) (keepNews (by k_asm) hg hn) hlt (by with_reducible assumption)
end
end
section
local macro_rules | `(tactic| lcg_off) => `(tactic| assumption)
section

section
theorem words_11 : True := by
  k_with_none
  k_with "storeName" => (k_here; (with_reducible show wpAny _ _ (storeName (envOf _ _ _ _) _ _) _ _ _); k_dflt (refine' stG ?FhW ?NhW ?_ ?ahW ?bhW; (case FhW => k_asm); (case NhW => k_asm); (case ahW => rfl); (case bhW => rfl); k_whole; intro hxW tkxW FxW NxW; (try k_sweep)))
  k_with "binaryOp Add int int" => (refine r_add (by ((try simp only [Int.reduceAdd, Int.reduceSub, Int.reduceNeg]); exact rfl)) ?_)
  k_with "binaryOp Sub int int" => (refine r_sub (by ((try simp only [Int.reduceAdd, Int.reduceSub, Int.reduceNeg]); exact rfl)) ?_)
  k_with "inplaceOp Add int int" => (refine r_iadd (by ((try simp only [Int.reduceAdd, Int.reduceSub, Int.reduceNeg]); exact rfl)) ?_)
  k_with "inplaceOp Sub int int" => (refine r_isub (by ((try simp only [Int.reduceAdd, Int.reduceSub, Int.reduceNeg]); exact rfl)) ?_)
  k_with "execs cons" => (k_here; (with_reducible show wpAny _ _ _ _ _ (Shared.mk _ _ _ (_ + _) _)); refine genT ?_; intro tkW)
  k_with "execs nil" => (k_here; (with_reducible show wpAny _ _ _ _ _ (Shared.mk _ _ _ (_ + _) _)); refine genT ?_; intro tkW)
  k_with "binaryOp Mult int int" => (refine r_mul (by ((try simp only [Int.reduceAdd, Int.reduceSub, Int.reduceNeg, Int.reduceMul]); exact rfl)) (by mul_fits) ?_)
  k_with "ite" => (k_closed; (first | with_reducible refine ite_posI (by decide) ?_ | with_reducible refine ite_negI (by decide) ?_))
  k_with "eval Name" => (k_here; (with_reducible show wpAny _ _ (eval (Expr.Name _ _) (envOfC _ _ _ _ _)) _ _ _); (first | (with_reducible refine' nmC_range (w := _) ?k1hW ?k2hW ?k3hW ?k4hW ?k5hW ?_) | (with_reducible refine' nmC_min (w := _) ?k1hW ?k2hW ?k3hW ?k4hW ?k5hW ?_) | (with_reducible refine' nmC_round (w := _) ?k1hW ?k2hW ?k3hW ?k4hW ?k5hW ?_) | (with_reducible refine' nmC_rgbtohls (w := _) ?k1hW ?k2hW ?k3hW ?k4hW ?k5hW ?_) | (with_reducible refine' nmC_rgbtohsv (w := _) ?k1hW ?k2hW ?k3hW ?k4hW ?k5hW ?_)); (case k1hW => k_asm); (case k2hW => k_asm); (case k3hW => k_asm); (case k4hW => decide +kernel); (case k5hW => first | exact rfl | assumption); k_whole)
  k_with "eval Name" => (k_here; (with_reducible show wpAny _ _ (eval (Expr.Name _ _) (compEnvC _ _ _ _)) _ _ _); (first | (with_reducible refine' nmK_min (w := _) ?k1hW ?k2hW ?k3hW ?k4hW ?k5hW ?k6hW ?k7hW ?_) | (with_reducible refine' nmK_abs (w := _) ?k1hW ?k2hW ?k3hW ?k4hW ?k5hW ?k6hW ?k7hW ?_) | (with_reducible refine' nmK_levenshteindistance (w := _) ?k1hW ?k2hW ?k3hW ?k4hW ?k5hW ?k6hW ?k7hW ?_) | (with_reducible refine' nmK_lawtold (w := _) ?k1hW ?k2hW ?k3hW ?k4hW ?k5hW ?k6hW ?k7hW ?_) | (with_reducible refine' nmK_lawleast (w := _) ?k1hW ?k2hW ?k3hW ?k4hW ?k5hW ?k6hW ?k7hW ?_)); (case k1hW => k_asm); (case k2hW => k_asm); (case k3hW => k_asm); (case k4hW => k_dflt (exact rfl)); (case k5hW => k_dflt (exact rfl)); (case k6hW => k_dflt (exact rfl)); (case k7hW => k_dflt (exact rfl)); k_whole)
  k_with "eval Name" => (k_here; (with_reducible show wpAny _ _ (eval (Expr.Name _ _) (compEnvC _ _ _ _)) _ _ _); k_dflt (refine' kOwn ?k1hW ?k2hW ?k3hW ?k4hW ?k5hW ?k6hW ?k7hW ?_; (case k2hW => exact rfl); (case k1hW => k_asm); (case k3hW => k_mem); (case k4hW => assumption); (case k5hW => assumption); (case k6hW => exact rfl); (case k7hW => decide); k_whole))
  k_with "eval Name" => (k_here; (with_reducible show wpAny _ _ (eval (Expr.Name _ _) (compEnvC _ _ _ _)) _ _ _); k_dflt (refine' kFree ?k1hW ?k2hW ?k3hW ?k4hW ?k5hW ?k6hW ?k7hW ?k8hW ?_; (case k2hW => exact rfl); (case k1hW => k_asm); (case k3hW => exact rfl); (case k4hW => k_mem); (case k5hW => k_asm); (case k6hW => exact rfl); (case k7hW => decide); (case k8hW => decide); k_whole))
  k_with "eval Name" => (k_here; (with_reducible show wpAny _ _ (eval (Expr.Name _ _) (envOfC _ _ _ _ _)) _ _ _); k_dflt (refine' cC ?k1hW ?k2hW ?k3hW ?k4hW ?k5hW ?k6hW ?k7hW ?_; (case k2hW => exact rfl); (case k1hW => k_asm); (case k3hW => exact rfl); (case k4hW => k_mem); (case k5hW => k_asm); (case k6hW => exact rfl); (case k7hW => decide); k_whole))
  k_with "eval Name" => (k_here; (with_reducible show wpAny _ _ (eval (Expr.Name _ _) (envOfC _ _ _ _ _)) _ _ _); k_dflt (refine' cL ?k1hW ?k2hW ?k3hW ?k4hW ?k5hW ?_; (case k2hW => exact rfl); (case k1hW => k_asm); (case k3hW => exact rfl); (case k4hW => exact rfl); (case k5hW => decide); k_whole))
  k_with "storeName" => (k_here; (with_reducible show wpAny _ _ (storeName (envOfC _ _ _ _ _) _ _) _ _ _); k_dflt (refine' sC ?k1hW ?k2hW ?k3hW ?k4hW ?k5hW ?k6hW ?k7hW ?_; (case k3hW => exact rfl); (case k1hW => k_asm); (case k2hW => k_asm); (case k4hW => exact rfl); (case k5hW => k_updF); (case k6hW => k_asm); (case k7hW => exact rfl); k_whole; intro hxW oxW tkxW FxW NxW dxW; (try dsimp only at NxW); (try k_sweep)))
  k_with "storeName" => (k_here; (with_reducible show wpAny _ _ (storeName (envOfC _ _ _ _ _) _ _) _ _ _); k_dflt (refine' sL ?k1hW ?k2hW ?k3hW ?k4hW ?_; (case k3hW => exact rfl); (case k1hW => k_asm); (case k2hW => k_asm); (case k4hW => exact rfl); k_whole; intro hxW tkxW FxW NxW; (try k_sweep)))
  k_with "exec Assign" => (k_here; (with_reducible show wpAny _ _ (exec (Stmt.Assign [Expr.Name _ _] _ _) _) _ _ _); refine wpAny_Assign_Name ?_)
  k_with "exec Assign cons ListComp" => (k_here; (with_reducible show wpAny _ _ (exec (Stmt.Assign [Expr.Name _ _] _ _) (envOfC _ _ _ _ _)) _ _ _); k_dflt (refine' aComp ?k1hW ?_; (case k1hW => exact rfl)))
  k_with "subscriptTail Name Constant ref int" => (k_here; (with_reducible rename News _ _ _ _ => NxW); (with_unfolding_all refine r_rowC NxW (by k_mem) (by decide) (by decide) (by exact rfl) ?_))
  k_with "subscriptTail Name Name ref int" => (k_here; (with_reducible rename News _ _ _ _ => NxW); (with_unfolding_all refine r_rowN NxW (by k_mem) (by decide) (by decide) (by exact rfl) ?_))
  k_with "subscriptTail Constant Name str int" => (k_here; refine r_itemK (by first | exact (by decide : Txt.item (Str.ofString "RGB") 0 = Str.mk #[82]) | exact (by decide : Txt.item (Str.ofString "RGB") 1 = Str.mk #[71]) | exact (by decide : Txt.item (Str.ofString "RGB") 2 = Str.mk #[66]) | exact (by decide : Txt.item (Str.ofString "rgb") 0 = Str.mk #[114]) | exact (by decide : Txt.item (Str.ofString "rgb") 1 = Str.mk #[103]) | exact (by decide : Txt.item (Str.ofString "rgb") 2 = Str.mk #[98])) (by decide) (by decide) (by decide) ?_)
  k_with "CompRest" => (with_unfolding_all first | (refine LCg.CompRest.succ ?_; intro vxW IxW oIxW CxW oCxW DxW mxW hxW tkxW ExW hvxW hCxW hxxW FxW NxW offxW nexW; (obtain ⟨t9xW, hv9xW⟩ := hvxW; subst hv9xW); (try simp only [w00, w01, w02, w03, w04, w05, List.getD_cons_zero, List.getD_cons_succ] at hxxW); (have off9xW := offxW); (try simp only [LCg.Off3, and_true] at offxW)) | refine LCg.CompRest.zero ?_)
  k_with "CompSrc" => (k_here; k_dflt (refine LCg.CompSrc.range (by rfl) (by k_asm) (by k_asm) (by assumption) (by first | decide | rfl) (by first | rfl | decide) (by first | size_fits | exact Nat.le_of_ble_eq_true rfl) ?_; intro gxW; lcg_lit))
  k_with "CompSrc" => (k_here; k_dflt (refine LCg.CompSrc.ledger (by rfl) (by k_asm) (by k_asm) (by k_mem) (by first | size_fits | exact Nat.le_of_ble_eq_true rfl) ?_; intro gxW; lcg_lit))
  k_with "call builtin:max" => (k_here; (with_reducible show wpAny _ _ (call _ [Value.float _ _, Value.float _ _, Value.float _ _]) _ _ _); (with_reducible rename Fr _ _ _ _ => FxW); (with_reducible rename News _ _ _ _ => NxW); (refine r_max3 (by with_unfolding_all rfl) FxW NxW ‹max3F _ _ _ = _› ?_); intro _ _ _ _ _)
  k_with "call builtin:min" => (k_here; (with_reducible show wpAny _ _ (call _ [Value.float _ _, Value.float _ _, Value.float _ _]) _ _ _); (with_reducible rename Fr _ _ _ _ => FxW); (with_reducible rename News _ _ _ _ => NxW); (refine r_min3 (by with_unfolding_all rfl) FxW NxW ‹min3F _ _ _ = _› ?_); intro _ _ _ _ _)
  k_with "binaryOp Div float float" => (k_here; refine r_fdiv (by with_unfolding_all rfl) (by first | with_reducible assumption | (decide +kernel)) ?_)
  k_with "binaryOp Mod float float" => (k_here; refine r_fmod (by with_unfolding_all rfl) (by decide +kernel) ?_)
  k_with "compareOp Eq float float" => (k_here; refine r_feq (by with_reducible assumption) ?_)
  k_with "newTuple" => (k_here; k_dflt (refine' r_tuple ?FhW ?NhW ?zhW ?_; (case FhW => k_asm); (case NhW => k_asm); (case zhW => exact Nat.le_of_ble_eq_true rfl)); intro DxW hxW FxW NxW l1W l2W; (try simp only [AllLt, and_true] at l1W); (try k_sweep))
  k_with "subscriptTail" => (k_here; (with_reducible show wpAny _ _ (subscriptTail (Expr.List _ _) (Expr.BinOp _ _ _ _) (Value.ref _) (Value.int _ _)) _ _ _); (with_reducible rename News _ _ _ _ => NxW); (with_unfolding_all refine r_litem NxW (by k_mem) (by decide) (by decide) (by exact rfl) ?_))
  k_with "binaryOp FloorDiv int int" => (k_here; refine r_fdivI (by decide) (by decide) (by first | with_reducible assumption | exact rfl) ?_)
  k_with "binaryOp Mod int int" => (k_here; refine r_fmodI (by decide) (by first | with_reducible assumption | exact rfl) ?_)
  k_with "binaryOp Div int int" => (k_here; refine r_idiv (by with_unfolding_all rfl) (by decide) (by omega) (by with_reducible assumption) ?_)
  k_with "binaryOp Mult int float" => (k_here; refine r_mulIF (by decide) ?_)
  k_with "call builtin:round" => (k_here; refine r_round (by with_unfolding_all rfl) (by first | with_reducible assumption | decide +kernel) (by first | with_reducible assumption | decide +kernel) ?_)
  k_with "compareOp Gt float float" => (k_here; refine r_fgt (by with_reducible assumption) ?_)
  k_with "call ref" => (k_here; k_dflt (refine' hsv_t _ _ _ _ _ _ _ _ _ _ _ _ _ ‹max3F _ _ _ = _› ‹min3F _ _ _ = _› ?q1hW ?q2hW ?q3hW _ _ _ _ _ _ _ _ _ _ _ _ _ _ _ _ _ ?k1hW ?k2hW ?k3hW ?k4hW ?k5hW ?kKhW ?kdhW ?kuhW ?_; (case k1hW => k_asm); (case k2hW => k_asm); (case k3hW => k_asm); (case k4hW => k_asm); (case k5hW => k_asm); (case kKhW => first | exact rfl | assumption); (case kdhW => ktr_room); (case kuhW => ktr_units); (case q1hW => assumption); (case q2hW => assumption); (case q3hW => assumption); intro D9W u9W v9W w9W h9W tk9W F9W N9W l9W; (try dsimp only); (try simp only [AllLt, and_true] at l9W); (try k_fold)))
  k_with "call ref" => (k_here; k_dflt (refine' hls_t _ _ _ _ _ _ _ _ _ _ _ _ _ ‹max3F _ _ _ = _› ‹min3F _ _ _ = _› ?q1hW ?q2hW ?q3hW ?q4hW _ _ _ _ _ _ _ _ _ _ _ _ _ _ _ _ _ ?k1hW ?k2hW ?k3hW ?k4hW ?k5hW ?kKhW ?kdhW ?kuhW ?_; (case k1hW => k_asm); (case k2hW => k_asm); (case k3hW => k_asm); (case k4hW => k_asm); (case k5hW => k_asm); (case kKhW => first | exact rfl | assumption); (case kdhW => ktr_room); (case kuhW => ktr_units); (case q1hW => assumption); (case q2hW => assumption); (case q3hW => assumption); (case q4hW => assumption); intro sv9W D9W u9W v9W w9W h9W tk9W F9W N9W l9W; (try dsimp only); (try simp only [AllLt, and_true] at l9W); (try k_fold)))
  k_with "eval ListComp" => (k_here; (with_reducible show wpAny _ _ (eval (Expr.ListComp _ [⟨_, Expr.Subscript _ _ _, _, _⟩] _ _) _) _ _ _); k_dflt (refine ListComp_S (F₀ := by k_asm) (by rfl) (by decide) (by rfl) (by decide) (by rfl) ?_))
  k_with "SrcS" => (k_here; k_dflt (refine SrcS.intro (cs := [49, 48, 48]) (n := 3) (by decide) (by rfl) (by k_asm) (by k_asm) (by decide) (by rfl) (by decide) ?_; intro gxW))
  trivial
theorem told_0 (w : World) (mean : ExcName → Option Value) (mg mb : Str → Option Value) (n : Int) (t0 : Tok) (news : List (Addr × Obj)) (l d : Int) (lo hi H : UInt64)
    (hc : n.fmod 6 = 0) (hl : (n.fdiv 6).fmod 8 = l) (hd0 : (n.fdiv 48).fmod 8 = d) (hl0 : 0 ≤ l) (hl1 : l < 8) (hd1 : 0 ≤ d) (hd2 : d < 8)
    (elo : Float64.ofFrac (decide (l < 0) != decide ((16 : Int) < 0)) l.natAbs (16 : Int).natAbs = lo) (ehi : Float64.ofFrac (decide (l + 1 + d < 0) != decide ((16 : Int) < 0)) (l + 1 + d).natAbs (16 : Int).natAbs = hi)
    (hmx : max3F hi lo lo = hi) (hmn : min3F hi lo lo = lo) (hne : (Float64.cmp lo hi == some .eq) = false) (hz1 : Float64.isZero (Float64.sub hi lo) = false) (hz2 : Float64.isZero hi = false)
    (hz3 : Float64.isZero (Float64.add hi lo) = false) (hz4 : Float64.isZero (Float64.sub (Float64.sub 4611686018427387904 hi) lo) = false)
    (hfin : Float64.isFinite (Float64.mul (Float64.ofInt 6) (hueF hi lo lo hi lo)) = true) (hrd : Flt.toInt Float64.nearestOf (Float64.mul (Float64.ofInt 6) (hueF hi lo lo hi lo)) = 0)
    (g1 : (Float64.cmp hi (Float64.div (Float64.add hi lo) 4611686018427387904) == some .gt) = true) (g2 : (Float64.cmp lo (Float64.div (Float64.add hi lo) 4611686018427387904) == some .gt) = false) :
    Spec w mean mg mb 65 3 24 news [.int n t0] (fun h₀ L m s Q => ∀ (D : Addr) (t1 t2 : Tok) (h' : Heap) (tk' : Nat), Fr h₀ L h' m → News h₀ L h' ((D, ({ cls := .type "tuple", data := .seq #[.int 0 t1, .str (Str.ofString "Rgb") t2] } : Obj)) :: news) → AllLt D news → Q (.ref D) { s with heap := h', toks := tk' }) := by
  dsimp only [Spec]
  w_top off
  k_fill
  intro dp un gd cn cs af ccd cl outer A₀ base h₀ L m s Q E B F X N T hk hd hu hret
  have hn : ∀ q ∈ news, q.1 ≠ L ∧ h₀.get? q.1 = none := fun q hq => (N q hq).2
  refine wpAny_call ?_
  (refine' code_defPC ?k1 ?k2 ?k3 ?k4 ?k5 ?kA ?kF ?kK ?k6 ?k7 ?k8 ?k9 ?kB ?kD ?_ ?c2 ?c3 ?c4; (case kA => exact rfl); (case kF => exact rfl); (case kK => assumption); (case k1 => k_asm); (case k2 => k_asm); (case k3 => k_asm); (case k4 => k_asm); (case k5 => k_asm); (case k6 => k_is); (case k7 => k_is); (case k8 => ktr_room); (case k9 => exact BindsTo.of_eq rfl); (case kB => exact rfl); (case kD => decide +kernel); (case c2 => exact rfl); (case c3 => exact rfl); (case c4 => exact rfl); k_whole; intro g' L' h' tk' cells' FG' hg hlt F' N' Y' B' X' T'; k_cells Y'; (try simp only [List.cons_append, List.nil_append] at N'); (try dsimp only); (try k_lift B'); (try k_fold))
  clear N
  k_steps
  all_goals exact hret _ _ _ _ _ (by k_asm) (news_cons (by k_asm) (List.Mem.head _) (keepNews (by k_asm) hg hn)) (allLt_trans hlt (by with_reducible assumption))
end
section
theorem words_12 : True := by
  k_with_none
  k_with "storeName" => (k_here; (with_reducible show wpAny _ _ (storeName (envOf _ _ _ _) _ _) _ _ _); k_dflt (refine' stG ?FhW ?NhW ?_ ?ahW ?bhW; (case FhW => k_asm); (case NhW => k_asm); (case ahW => rfl); (case bhW => rfl); k_whole; intro hxW tkxW FxW NxW; (try k_sweep)))
  k_with "binaryOp Add int int" => (refine r_add (by ((try simp only [Int.reduceAdd, Int.reduceSub, Int.reduceNeg]); exact rfl)) ?_)
  k_with "binaryOp Sub int int" => (refine r_sub (by ((try simp only [Int.reduceAdd, Int.reduceSub, Int.reduceNeg]); exact rfl)) ?_)
  k_with "inplaceOp Add int int" => (refine r_iadd (by ((try simp only [Int.reduceAdd, Int.reduceSub, Int.reduceNeg]); exact rfl)) ?_)
  k_with "inplaceOp Sub int int" => (refine r_isub (by ((try simp only [Int.reduceAdd, Int.reduceSub, Int.reduceNeg]); exact rfl)) ?_)
  k_with "execs cons" => (k_here; (with_reducible show wpAny _ _ _ _ _ (Shared.mk _ _ _ (_ + _) _)); refine genT ?_; intro tkW)
  k_with "execs nil" => (k_here; (with_reducible show wpAny _ _ _ _ _ (Shared.mk _ _ _ (_ + _) _)); refine genT ?_; intro tkW)
  k_with "binaryOp Mult int int" => (refine r_mul (by ((try simp only [Int.reduceAdd, Int.reduceSub, Int.reduceNeg, Int.reduceMul]); exact rfl)) (by mul_fits) ?_)
  k_with "ite" => (k_closed; (first | with_reducible refine ite_posI (by decide) ?_ | with_reducible refine ite_negI (by decide) ?_))
  k_with "eval Name" => (k_here; (with_reducible show wpAny _ _ (eval (Expr.Name _ _) (envOfC _ _ _ _ _)) _ _ _); (first | (with_reducible refine' nmC_range (w := _) ?k1hW ?k2hW ?k3hW ?k4hW ?k5hW ?_) | (with_reducible refine' nmC_min (w := _) ?k1hW ?k2hW ?k3hW ?k4hW ?k5hW ?_) | (with_reducible refine' nmC_round (w := _) ?k1hW ?k2hW ?k3hW ?k4hW ?k5hW ?_) | (with_reducible refine' nmC_rgbtohls (w := _) ?k1hW ?k2hW ?k3hW ?k4hW ?k5hW ?_) | (with_reducible refine' nmC_rgbtohsv (w := _) ?k1hW ?k2hW ?k3hW ?k4hW ?k5hW ?_)); (case k1hW => k_asm); (case k2hW => k_asm); (case k3hW => k_asm); (case k4hW => decide +kernel); (case k5hW => first | exact rfl | assumption); k_whole)
  k_with "eval Name" => (k_here; (with_reducible show wpAny _ _ (eval (Expr.Name _ _) (compEnvC _ _ _ _)) _ _ _); (first | (with_reducible refine' nmK_min (w := _) ?k1hW ?k2hW ?k3hW ?k4hW ?k5hW ?k6hW ?k7hW ?_) | (with_reducible refine' nmK_abs (w := _) ?k1hW ?k2hW ?k3hW ?k4hW ?k5hW ?k6hW ?k7hW ?_) | (with_reducible refine' nmK_levenshteindistance (w := _) ?k1hW ?k2hW ?k3hW ?k4hW ?k5hW ?k6hW ?k7hW ?_) | (with_reducible refine' nmK_lawtold (w := _) ?k1hW ?k2hW ?k3hW ?k4hW ?k5hW ?k6hW ?k7hW ?_) | (with_reducible refine' nmK_lawleast (w := _) ?k1hW ?k2hW ?k3hW ?k4hW ?k5hW ?k6hW ?k7hW ?_)); (case k1hW => k_asm); (case k2hW => k_asm); (case k3hW => k_asm); (case k4hW => k_dflt (exact rfl)); (case k5hW => k_dflt (exact rfl)); (case k6hW => k_dflt (exact rfl)); (case k7hW => k_dflt (exact rfl)); k_whole)
  k_with "eval Name" => (k_here; (with_reducible show wpAny _ _ (eval (Expr.Name _ _) (compEnvC _ _ _ _)) _ _ _); k_dflt (refine' kOwn ?k1hW ?k2hW ?k3hW ?k4hW ?k5hW ?k6hW ?k7hW ?_; (case k2hW => exact rfl); (case k1hW => k_asm); (case k3hW => k_mem); (case k4hW => assumption); (case k5hW => assumption); (case k6hW => exact rfl); (case k7hW => decide); k_whole))
  k_with "eval Name" => (k_here; (with_reducible show wpAny _ _ (eval (Expr.Name _ _) (compEnvC _ _ _ _)) _ _ _); k_dflt (refine' kFree ?k1hW ?k2hW ?k3hW ?k4hW ?k5hW ?k6hW ?k7hW ?k8hW ?_; (case k2hW => exact rfl); (case k1hW => k_asm); (case k3hW => exact rfl); (case k4hW => k_mem); (case k5hW => k_asm); (case k6hW => exact rfl); (case k7hW => decide); (case k8hW => decide); k_whole))
  k_with "eval Name" => (k_here; (with_reducible show wpAny _ _ (eval (Expr.Name _ _) (envOfC _ _ _ _ _)) _ _ _); k_dflt (refine' cC ?k1hW ?k2hW ?k3hW ?k4hW ?k5hW ?k6hW ?k7hW ?_; (case k2hW => exact rfl); (case k1hW => k_asm); (case k3hW => exact rfl); (case k4hW => k_mem); (case k5hW => k_asm); (case k6hW => exact rfl); (case k7hW => decide); k_whole))
  k_with "eval Name" => (k_here; (with_reducible show wpAny _ _ (eval (Expr.Name _ _) (envOfC _ _ _ _ _)) _ _ _); k_dflt (refine' cL ?k1hW ?k2hW ?k3hW ?k4hW ?k5hW ?_; (case k2hW => exact rfl); (case k1hW => k_asm); (case k3hW => exact rfl); (case k4hW => exact rfl); (case k5hW => decide); k_whole))
  k_with "storeName" => (k_here; (with_reducible show wpAny _ _ (storeName (envOfC _ _ _ _ _) _ _) _ _ _); k_dflt (refine' sC ?k1hW ?k2hW ?k3hW ?k4hW ?k5hW ?k6hW ?k7hW ?_; (case k3hW => exact rfl); (case k1hW => k_asm); (case k2hW => k_asm); (case k4hW => exact rfl); (case k5hW => k_updF); (case k6hW => k_asm); (case k7hW => exact rfl); k_whole; intro hxW oxW tkxW FxW NxW dxW; (try dsimp only at NxW); (try k_sweep)))
  k_with "storeName" => (k_here; (with_reducible show wpAny _ _ (storeName (envOfC _ _ _ _ _) _ _) _ _ _); k_dflt (refine' sL ?k1hW ?k2hW ?k3hW ?k4hW ?_; (case k3hW => exact rfl); (case k1hW => k_asm); (case k2hW => k_asm); (case k4hW => exact rfl); k_whole; intro hxW tkxW FxW NxW; (try k_sweep)))
  k_with "exec Assign" => (k_here; (with_reducible show wpAny _ _ (exec (Stmt.Assign [Expr.Name _ _] _ _) _) _ _ _); refine wpAny_Assign_Name ?_)
  k_with "exec Assign cons ListComp" => (k_here; (with_reducible show wpAny _ _ (exec (Stmt.Assign [Expr.Name _ _] _ _) (envOfC _ _ _ _ _)) _ _ _); k_dflt (refine' aComp ?k1hW ?_; (case k1hW => exact rfl)))
  k_with "subscriptTail Name Constant ref int" => (k_here; (with_reducible rename News _ _ _ _ => NxW); (with_unfolding_all refine r_rowC NxW (by k_mem) (by decide) (by decide) (by exact rfl) ?_))
  k_with "subscriptTail Name Name ref int" => (k_here; (with_reducible rename News _ _ _ _ => NxW); (with_unfolding_all refine r_rowN NxW (by k_mem) (by decide) (by decide) (by exact rfl) ?_))
  k_with "subscriptTail Constant Name str int" => (k_here; refine r_itemK (by first | exact (by decide : Txt.item (Str.ofString "RGB") 0 = Str.mk #[82]) | exact (by decide : Txt.item (Str.ofString "RGB") 1 = Str.mk #[71]) | exact (by decide : Txt.item (Str.ofString "RGB") 2 = Str.mk #[66]) | exact (by decide : Txt.item (Str.ofString "rgb") 0 = Str.mk #[114]) | exact (by decide : Txt.item (Str.ofString "rgb") 1 = Str.mk #[103]) | exact (by decide : Txt.item (Str.ofString "rgb") 2 = Str.mk #[98])) (by decide) (by decide) (by decide) ?_)
  k_with "CompRest" => (with_unfolding_all first | (refine LCg.CompRest.succ ?_; intro vxW IxW oIxW CxW oCxW DxW mxW hxW tkxW ExW hvxW hCxW hxxW FxW NxW offxW nexW; (obtain ⟨t9xW, hv9xW⟩ := hvxW; subst hv9xW); (try simp only [w00, w01, w02, w03, w04, w05, List.getD_cons_zero, List.getD_cons_succ] at hxxW); (have off9xW := offxW); (try simp only [LCg.Off3, and_true] at offxW)) | refine LCg.CompRest.zero ?_)
  k_with "CompSrc" => (k_here; k_dflt (refine LCg.CompSrc.range (by rfl) (by k_asm) (by k_asm) (by assumption) (by first | decide | rfl) (by first | rfl | decide) (by first | size_fits | exact Nat.le_of_ble_eq_true rfl) ?_; intro gxW; lcg_lit))
  k_with "CompSrc" => (k_here; k_dflt (refine LCg.CompSrc.ledger (by rfl) (by k_asm) (by k_asm) (by k_mem) (by first | size_fits | exact Nat.le_of_ble_eq_true rfl) ?_; intro gxW; lcg_lit))
  k_with "call builtin:max" => (k_here; (with_reducible show wpAny _ _ (call _ [Value.float _ _, Value.float _ _, Value.float _ _]) _ _ _); (with_reducible rename Fr _ _ _ _ => FxW); (with_reducible rename News _ _ _ _ => NxW); (refine r_max3 (by with_unfolding_all rfl) FxW NxW ‹max3F _ _ _ = _› ?_); intro _ _ _ _ _)
  k_with "call builtin:min" => (k_here; (with_reducible show wpAny _ _ (call _ [Value.float _ _, Value.float _ _, Value.float _ _]) _ _ _); (with_reducible rename Fr _ _ _ _ => FxW); (with_reducible rename News _ _ _ _ => NxW); (refine r_min3 (by with_unfolding_all rfl) FxW NxW ‹min3F _ _ _ = _› ?_); intro _ _ _ _ _)
  k_with "binaryOp Div float float" => (k_here; refine r_fdiv (by with_unfolding_all rfl) (by first | with_reducible assumption | (decide +kernel)) ?_)
  k_with "binaryOp Mod float float" => (k_here; refine r_fmod (by with_unfolding_all rfl) (by decide +kernel) ?_)
  k_with "compareOp Eq float float" => (k_here; refine r_feq (by with_reducible assumption) ?_)
  k_with "newTuple" => (k_here; k_dflt (refine' r_tuple ?FhW ?NhW ?zhW ?_; (case FhW => k_asm); (case NhW => k_asm); (case zhW => exact Nat.le_of_ble_eq_true rfl)); intro DxW hxW FxW NxW l1W l2W; (try simp only [AllLt, and_true] at l1W); (try k_sweep))
  k_with "subscriptTail" => (k_here; (with_reducible show wpAny _ _ (subscriptTail (Expr.List _ _) (Expr.BinOp _ _ _ _) (Value.ref _) (Value.int _ _)) _ _ _); (with_reducible rename News _ _ _ _ => NxW); (with_unfolding_all refine r_litem NxW (by k_mem) (by decide) (by decide) (by exact rfl) ?_))
  k_with "binaryOp FloorDiv int int" => (k_here; refine r_fdivI (by decide) (by decide) (by first | with_reducible assumption | exact rfl) ?_)
  k_with "binaryOp Mod int int" => (k_here; refine r_fmodI (by decide) (by first | with_reducible assumption | exact rfl) ?_)
  k_with "binaryOp Div int int" => (k_here; refine r_idiv (by with_unfolding_all rfl) (by decide) (by omega) (by with_reducible assumption) ?_)
  k_with "binaryOp Mult int float" => (k_here; refine r_mulIF (by decide) ?_)
  k_with "call builtin:round" => (k_here; refine r_round (by with_unfolding_all rfl) (by first | with_reducible assumption | decide +kernel) (by first | with_reducible assumption | decide +kernel) ?_)
  k_with "compareOp Gt float float" => (k_here; refine r_fgt (by with_reducible assumption) ?_)
  k_with "call ref" => (k_here; k_dflt (refine' hsv_t _ _ _ _ _ _ _ _ _ _ _ _ _ ‹max3F _ _ _ = _› ‹min3F _ _ _ = _› ?q1hW ?q2hW ?q3hW _ _ _ _ _ _ _ _ _ _ _ _ _ _ _ _ _ ?k1hW ?k2hW ?k3hW ?k4hW ?k5hW ?kKhW ?kdhW ?kuhW ?_; (case k1hW => k_asm); (case k2hW => k_asm); (case k3hW => k_asm); (case k4hW => k_asm); (case k5hW => k_asm); (case kKhW => first | exact rfl | assumption); (case kdhW => ktr_room); (case kuhW => ktr_units); (case q1hW => assumption); (case q2hW => assumption); (case q3hW => assumption); intro D9W u9W v9W w9W h9W tk9W F9W N9W l9W; (try dsimp only); (try simp only [AllLt, and_true] at l9W); (try k_fold)))
  k_with "call ref" => (k_here; k_dflt (refine' hls_t _ _ _ _ _ _ _ _ _ _ _ _ _ ‹max3F _ _ _ = _› ‹min3F _ _ _ = _› ?q1hW ?q2hW ?q3hW ?q4hW _ _ _ _ _ _ _ _ _ _ _ _ _ _ _ _ _ ?k1hW ?k2hW ?k3hW ?k4hW ?k5hW ?kKhW ?kdhW ?kuhW ?_; (case k1hW => k_asm); (case k2hW => k_asm); (case k3hW => k_asm); (case k4hW => k_asm); (case k5hW => k_asm); (case kKhW => first | exact rfl | assumption); (case kdhW => ktr_room); (case kuhW => ktr_units); (case q1hW => assumption); (case q2hW => assumption); (case q3hW => assumption); (case q4hW => assumption); intro sv9W D9W u9W v9W w9W h9W tk9W F9W N9W l9W; (try dsimp only); (try simp only [AllLt, and_true] at l9W); (try k_fold)))
  k_with "eval ListComp" => (k_here; (with_reducible show wpAny _ _ (eval (Expr.ListComp _ [⟨_, Expr.Subscript _ _ _, _, _⟩] _ _) _) _ _ _); k_dflt (refine ListComp_S (F₀ := by k_asm) (by rfl) (by decide) (by rfl) (by decide) (by rfl) ?_))
  k_with "SrcS" => (k_here; k_dflt (refine SrcS.intro (cs := [49, 49, 48]) (n := 3) (by decide) (by rfl) (by k_asm) (by k_asm) (by decide) (by rfl) (by decide) ?_; intro gxW))
  trivial
theorem told_1 (w : World) (mean : ExcName → Option Value) (mg mb : Str → Option Value) (n : Int) (t0 : Tok) (news : List (Addr × Obj)) (l d : Int) (lo hi H : UInt64)
    (hc : n.fmod 6 = 1) (hl : (n.fdiv 6).fmod 8 = l) (hd0 : (n.fdiv 48).fmod 8 = d) (hl0 : 0 ≤ l) (hl1 : l < 8) (hd1 : 0 ≤ d) (hd2 : d < 8)
    (elo : Float64.ofFrac (decide (l < 0) != decide ((16 : Int) < 0)) l.natAbs (16 : Int).natAbs = lo) (ehi : Float64.ofFrac (decide (l + 1 + d < 0) != decide ((16 : Int) < 0)) (l + 1 + d).natAbs (16 : Int).natAbs = hi)
    (hmx : max3F hi hi lo = hi) (hmn : min3F hi hi lo = lo) (hne : (Float64.cmp lo hi == some .eq) = false) (hz1 : Float64.isZero (Float64.sub hi lo) = false) (hz2 : Float64.isZero hi = false)
    (hz3 : Float64.isZero (Float64.add hi lo) = false) (hz4 : Float64.isZero (Float64.sub (Float64.sub 4611686018427387904 hi) lo) = false)
    (hfin : Float64.isFinite (Float64.mul (Float64.ofInt 6) (hueF hi hi lo hi lo)) = true) (hrd : Flt.toInt Float64.nearestOf (Float64.mul (Float64.ofInt 6) (hueF hi hi lo hi lo)) = 1)
    (g1 : (Float64.cmp hi (Float64.div (Float64.add hi lo) 4611686018427387904) == some .gt) = true) (g2 : (Float64.cmp lo (Float64.div (Float64.add hi lo) 4611686018427387904) == some .gt) = false) :
    Spec w mean mg mb 65 3 24 news [.int n t0] (fun h₀ L m s Q => ∀ (D : Addr) (t1 t2 : Tok) (h' : Heap) (tk' : Nat), Fr h₀ L h' m → News h₀ L h' ((D, ({ cls := .type "tuple", data := .seq #[.int 1 t1, .str (Str.ofString "RGb") t2] } : Obj)) :: news) → AllLt D news → Q (.ref D) { s with heap := h', toks := tk' }) := by
  dsimp only [Spec]
  w_top off
  k_fill
  intro dp un gd cn cs af ccd cl outer A₀ base h₀ L m s Q E B F X N T hk hd hu hret
  have hn : ∀ q ∈ news, q.1 ≠ L ∧ h₀.get? q.1 = none := fun q hq => (N q hq).2
  refine wpAny_call ?_
  (refine' code_defPC ?k1 ?k2 ?k3 ?k4 ?k5 ?kA ?kF ?kK ?k6 ?k7 ?k8 ?k9 ?kB ?kD ?_ ?c2 ?c3 ?c4; (case kA => exact rfl); (case kF => exact rfl); (case kK => assumption); (case k1 => k_asm); (case k2 => k_asm); (case k3 => k_asm); (case k4 => k_asm); (case k5 => k_asm); (case k6 => k_is); (case k7 => k_is); (case k8 => ktr_room); (case k9 => exact BindsTo.of_eq rfl); (case kB => exact rfl); (case kD => decide +kernel); (case c2 => exact rfl); (case c3 => exact rfl); (case c4 => exact rfl); k_whole; intro g' L' h' tk' cells' FG' hg hlt F' N' Y' B' X' T'; k_cells Y'; (try simp only [List.cons_append, List.nil_append] at N'); (try dsimp only); (try k_lift B'); (try k_fold))
  clear N
  k_steps
  all_goals exact hret _ _ _ _ _ (by k_asm) (news_cons (by k_asm) (List.Mem.head _) (keepNews (by k_asm) hg hn)) (allLt_trans hlt (by with_reducible assumption))
end
section
theorem words_13 : True := by
  k_with_none
  k_with "storeName" => (k_here; (with_reducible show wpAny _ _ (storeName (envOf _ _ _ _) _ _) _ _ _); k_dflt (refine' stG ?FhW ?NhW ?_ ?ahW ?bhW; (case FhW => k_asm); (case NhW => k_asm); (case ahW => rfl); (case bhW => rfl); k_whole; intro hxW tkxW FxW NxW; (try k_sweep)))
  k_with "binaryOp Add int int" => (refine r_add (by ((try simp only [Int.reduceAdd, Int.reduceSub, Int.reduceNeg]); exact rfl)) ?_)
  k_with "binaryOp Sub int int" => (refine r_sub (by ((try simp only [Int.reduceAdd, Int.reduceSub, Int.reduceNeg]); exact rfl)) ?_)
  k_with "inplaceOp Add int int" => (refine r_iadd (by ((try simp only [Int.reduceAdd, Int.reduceSub, Int.reduceNeg]); exact rfl)) ?_)
  k_with "inplaceOp Sub int int" => (refine r_isub (by ((try simp only [Int.reduceAdd, Int.reduceSub, Int.reduceNeg]); exact rfl)) ?_)
  k_with "execs cons" => (k_here; (with_reducible show wpAny _ _ _ _ _ (Shared.mk _ _ _ (_ + _) _)); refine genT ?_; intro tkW)
  k_with "execs nil" => (k_here; (with_reducible show wpAny _ _ _ _ _ (Shared.mk _ _ _ (_ + _) _)); refine genT ?_; intro tkW)
  k_with "binaryOp Mult int int" => (refine r_mul (by ((try simp only [Int.reduceAdd, Int.reduceSub, Int.reduceNeg, Int.reduceMul]); exact rfl)) (by mul_fits) ?_)
  k_with "ite" => (k_closed; (first | with_reducible refine ite_posI (by decide) ?_ | with_reducible refine ite_negI (by decide) ?_))
  k_with "eval Name" => (k_here; (with_reducible show wpAny _ _ (eval (Expr.Name _ _) (envOfC _ _ _ _ _)) _ _ _); (first | (with_reducible refine' nmC_range (w := _) ?k1hW ?k2hW ?k3hW ?k4hW ?k5hW ?_) | (with_reducible refine' nmC_min (w := _) ?k1hW ?k2hW ?k3hW ?k4hW ?k5hW ?_) | (with_reducible refine' nmC_round (w := _) ?k1hW ?k2hW ?k3hW ?k4hW ?k5hW ?_) | (with_reducible refine' nmC_rgbtohls (w := _) ?k1hW ?k2hW ?k3hW ?k4hW ?k5hW ?_) | (with_reducible refine' nmC_rgbtohsv (w := _) ?k1hW ?k2hW ?k3hW ?k4hW ?k5hW ?_)); (case k1hW => k_asm); (case k2hW => k_asm); (case k3hW => k_asm); (case k4hW => decide +kernel); (case k5hW => first | exact rfl | assumption); k_whole)
  k_with "eval Name" => (k_here; (with_reducible show wpAny _ _ (eval (Expr.Name _ _) (compEnvC _ _ _ _)) _ _ _); (first | (with_reducible refine' nmK_min (w := _) ?k1hW ?k2hW ?k3hW ?k4hW ?k5hW ?k6hW ?k7hW ?_) | (with_reducible refine' nmK_abs (w := _) ?k1hW ?k2hW ?k3hW ?k4hW ?k5hW ?k6hW ?k7hW ?_) | (with_reducible refine' nmK_levenshteindistance (w := _) ?k1hW ?k2hW ?k3hW ?k4hW ?k5hW ?k6hW ?k7hW ?_) | (with_reducible refine' nmK_lawtold (w := _) ?k1hW ?k2hW ?k3hW ?k4hW ?k5hW ?k6hW ?k7hW ?_) | (with_reducible refine' nmK_lawleast (w := _) ?k1hW ?k2hW ?k3hW ?k4hW ?k5hW ?k6hW ?k7hW ?_)); (case k1hW => k_asm); (case k2hW => k_asm); (case k3hW => k_asm); (case k4hW => k_dflt (exact rfl)); (case k5hW => k_dflt (exact rfl)); (case k6hW => k_dflt (exact rfl)); (case k7hW => k_dflt (exact rfl)); k_whole)
  k_with "eval Name" => (k_here; (with_reducible show wpAny _ _ (eval (Expr.Name _ _) (compEnvC _ _ _ _)) _ _ _); k_dflt (refine' kOwn ?k1hW ?k2hW ?k3hW ?k4hW ?k5hW ?k6hW ?k7hW ?_; (case k2hW => exact rfl); (case k1hW => k_asm); (case k3hW => k_mem); (case k4hW => assumption); (case k5hW => assumption); (case k6hW => exact rfl); (case k7hW => decide); k_whole))
  k_with "eval Name" => (k_here; (with_reducible show wpAny _ _ (eval (Expr.Name _ _) (compEnvC _ _ _ _)) _ _ _); k_dflt (refine' kFree ?k1hW ?k2hW ?k3hW ?k4hW ?k5hW ?k6hW ?k7hW ?k8hW ?_; (case k2hW => exact rfl); (case k1hW => k_asm); (case k3hW => exact rfl); (case k4hW => k_mem); (case k5hW => k_asm); (case k6hW => exact rfl); (case k7hW => decide); (case k8hW => decide); k_whole))
  k_with "eval Name" => (k_here; (with_reducible show wpAny _ _ (eval (Expr.Name _ _) (envOfC _ _ _ _ _)) _ _ _); k_dflt (refine' cC ?k1hW ?k2hW ?k3hW ?k4hW ?k5hW ?k6hW ?k7hW ?_; (case k2hW => exact rfl); (case k1hW => k_asm); (case k3hW => exact rfl); (case k4hW => k_mem); (case k5hW => k_asm); (case k6hW => exact rfl); (case k7hW => decide); k_whole))
  k_with "eval Name" => (k_here; (with_reducible show wpAny _ _ (eval (Expr.Name _ _) (envOfC _ _ _ _ _)) _ _ _); k_dflt (refine' cL ?k1hW ?k2hW ?k3hW ?k4hW ?k5hW ?_; (case k2hW => exact rfl); (case k1hW => k_asm); (case k3hW => exact rfl); (case k4hW => exact rfl); (case k5hW => decide); k_whole))
  k_with "storeName" => (k_here; (with_reducible show wpAny _ _ (storeName (envOfC _ _ _ _ _) _ _) _ _ _); k_dflt (refine' sC ?k1hW ?k2hW ?k3hW ?k4hW ?k5hW ?k6hW ?k7hW ?_; (case k3hW => exact rfl); (case k1hW => k_asm); (case k2hW => k_asm); (case k4hW => exact rfl); (case k5hW => k_updF); (case k6hW => k_asm); (case k7hW => exact rfl); k_whole; intro hxW oxW tkxW FxW NxW dxW; (try dsimp only at NxW); (try k_sweep)))
  k_with "storeName" => (k_here; (with_reducible show wpAny _ _ (storeName (envOfC _ _ _ _ _) _ _) _ _ _); k_dflt (refine' sL ?k1hW ?k2hW ?k3hW ?k4hW ?_; (case k3hW => exact rfl); (case k1hW => k_asm); (case k2hW => k_asm); (case k4hW => exact rfl); k_whole; intro hxW tkxW FxW NxW; (try k_sweep)))
  k_with "exec Assign" => (k_here; (with_reducible show wpAny _ _ (exec (Stmt.Assign [Expr.Name _ _] _ _) _) _ _ _); refine wpAny_Assign_Name ?_)
  k_with "exec Assign cons ListComp" => (k_here; (with_reducible show wpAny _ _ (exec (Stmt.Assign [Expr.Name _ _] _ _) (envOfC _ _ _ _ _)) _ _ _); k_dflt (refine' aComp ?k1hW ?_; (case k1hW => exact rfl)))
  k_with "subscriptTail Name Constant ref int" => (k_here; (with_reducible rename News _ _ _ _ => NxW); (with_unfolding_all refine r_rowC NxW (by k_mem) (by decide) (by decide) (by exact rfl) ?_))
  k_with "subscriptTail Name Name ref int" => (k_here; (with_reducible rename News _ _ _ _ => NxW); (with_unfolding_all refine r_rowN NxW (by k_mem) (by decide) (by decide) (by exact rfl) ?_))
  k_with "subscriptTail Constant Name str int" => (k_here; refine r_itemK (by first | exact (by decide : Txt.item (Str.ofString "RGB") 0 = Str.mk #[82]) | exact (by decide : Txt.item (Str.ofString "RGB") 1 = Str.mk #[71]) | exact (by decide : Txt.item (Str.ofString "RGB") 2 = Str.mk #[66]) | exact (by decide : Txt.item (Str.ofString "rgb") 0 = Str.mk #[114]) | exact (by decide : Txt.item (Str.ofString "rgb") 1 = Str.mk #[103]) | exact (by decide : Txt.item (Str.ofString "rgb") 2 = Str.mk #[98])) (by decide) (by decide) (by decide) ?_)
  k_with "CompRest" => (with_unfolding_all first | (refine LCg.CompRest.succ ?_; intro vxW IxW oIxW CxW oCxW DxW mxW hxW tkxW ExW hvxW hCxW hxxW FxW NxW offxW nexW; (obtain ⟨t9xW, hv9xW⟩ := hvxW; subst hv9xW); (try simp only [w00, w01, w02, w03, w04, w05, List.getD_cons_zero, List.getD_cons_succ] at hxxW); (have off9xW := offxW); (try simp only [LCg.Off3, and_true] at offxW)) | refine LCg.CompRest.zero ?_)
  k_with "CompSrc" => (k_here; k_dflt (refine LCg.CompSrc.range (by rfl) (by k_asm) (by k_asm) (by assumption) (by first | decide | rfl) (by first | rfl | decide) (by first | size_fits | exact Nat.le_of_ble_eq_true rfl) ?_; intro gxW; lcg_lit))
  k_with "CompSrc" => (k_here; k_dflt (refine LCg.CompSrc.ledger (by rfl) (by k_asm) (by k_asm) (by k_mem) (by first | size_fits | exact Nat.le_of_ble_eq_true rfl) ?_; intro gxW; lcg_lit))
  k_with "call builtin:max" => (k_here; (with_reducible show wpAny _ _ (call _ [Value.float _ _, Value.float _ _, Value.float _ _]) _ _ _); (with_reducible rename Fr _ _ _ _ => FxW); (with_reducible rename News _ _ _ _ => NxW); (refine r_max3 (by with_unfolding_all rfl) FxW NxW ‹max3F _ _ _ = _› ?_); intro _ _ _ _ _)
  k_with "call builtin:min" => (k_here; (with_reducible show wpAny _ _ (call _ [Value.float _ _, Value.float _ _, Value.float _ _]) _ _ _); (with_reducible rename Fr _ _ _ _ => FxW); (with_reducible rename News _ _ _ _ => NxW); (refine r_min3 (by with_unfolding_all rfl) FxW NxW ‹min3F _ _ _ = _› ?_); intro _ _ _ _ _)
  k_with "binaryOp Div float float" => (k_here; refine r_fdiv (by with_unfolding_all rfl) (by first | with_reducible assumption | (decide +kernel)) ?_)
  k_with "binaryOp Mod float float" => (k_here; refine r_fmod (by with_unfolding_all rfl) (by decide +kernel) ?_)
  k_with "compareOp Eq float float" => (k_here; refine r_feq (by with_reducible assumption) ?_)
  k_with "newTuple" => (k_here; k_dflt (refine' r_tuple ?FhW ?NhW ?zhW ?_; (case FhW => k_asm); (case NhW => k_asm); (case zhW => exact Nat.le_of_ble_eq_true rfl)); intro DxW hxW FxW NxW l1W l2W; (try simp only [AllLt, and_true] at l1W); (try k_sweep))
  k_with "subscriptTail" => (k_here; (with_reducible show wpAny _ _ (subscriptTail (Expr.List _ _) (Expr.BinOp _ _ _ _) (Value.ref _) (Value.int _ _)) _ _ _); (with_reducible rename News _ _ _ _ => NxW); (with_unfolding_all refine r_litem NxW (by k_mem) (by decide) (by decide) (by exact rfl) ?_))
  k_with "binaryOp FloorDiv int int" => (k_here; refine r_fdivI (by decide) (by decide) (by first | with_reducible assumption | exact rfl) ?_)
  k_with "binaryOp Mod int int" => (k_here; refine r_fmodI (by decide) (by first | with_reducible assumption | exact rfl) ?_)
  k_with "binaryOp Div int int" => (k_here; refine r_idiv (by with_unfolding_all rfl) (by decide) (by omega) (by with_reducible assumption) ?_)
  k_with "binaryOp Mult int float" => (k_here; refine r_mulIF (by decide) ?_)
  k_with "call builtin:round" => (k_here; refine r_round (by with_unfolding_all rfl) (by first | with_reducible assumption | decide +kernel) (by first | with_reducible assumption | decide +kernel) ?_)
  k_with "compareOp Gt float float" => (k_here; refine r_fgt (by with_reducible assumption) ?_)
  k_with "call ref" => (k_here; k_dflt (refine' hsv_t _ _ _ _ _ _ _ _ _ _ _ _ _ ‹max3F _ _ _ = _› ‹min3F _ _ _ = _› ?q1hW ?q2hW ?q3hW _ _ _ _ _ _ _ _ _ _ _ _ _ _ _ _ _ ?k1hW ?k2hW ?k3hW ?k4hW ?k5hW ?kKhW ?kdhW ?kuhW ?_; (case k1hW => k_asm); (case k2hW => k_asm); (case k3hW => k_asm); (case k4hW => k_asm); (case k5hW => k_asm); (case kKhW => first | exact rfl | assumption); (case kdhW => ktr_room); (case kuhW => ktr_units); (case q1hW => assumption); (case q2hW => assumption); (case q3hW => assumption); intro D9W u9W v9W w9W h9W tk9W F9W N9W l9W; (try dsimp only); (try simp only [AllLt, and_true] at l9W); (try k_fold)))
  k_with "call ref" => (k_here; k_dflt (refine' hls_t _ _ _ _ _ _ _ _ _ _ _ _ _ ‹max3F _ _ _ = _› ‹min3F _ _ _ = _› ?q1hW ?q2hW ?q3hW ?q4hW _ _ _ _ _ _ _ _ _ _ _ _ _ _ _ _ _ ?k1hW ?k2hW ?k3hW ?k4hW ?k5hW ?kKhW ?kdhW ?kuhW ?_; (case k1hW => k_asm); (case k2hW => k_asm); (case k3hW => k_asm); (case k4hW => k_asm); (case k5hW => k_asm); (case kKhW => first | exact rfl | assumption); (case kdhW => ktr_room); (case kuhW => ktr_units); (case q1hW => assumption); (case q2hW => assumption); (case q3hW => assumption); (case q4hW => assumption); intro sv9W D9W u9W v9W w9W h9W tk9W F9W N9W l9W; (try dsimp only); (try simp only [AllLt, and_true] at l9W); (try k_fold)))
  k_with "eval ListComp" => (k_here; (with_reducible show wpAny _ _ (eval (Expr.ListComp _ [⟨_, Expr.Subscript _ _ _, _, _⟩] _ _) _) _ _ _); k_dflt (refine ListComp_S (F₀ := by k_asm) (by rfl) (by decide) (by rfl) (by decide) (by rfl) ?_))
  k_with "SrcS" => (k_here; k_dflt (refine SrcS.intro (cs := [48, 49, 48]) (n := 3) (by decide) (by rfl) (by k_asm) (by k_asm) (by decide) (by rfl) (by decide) ?_; intro gxW))
  trivial
theorem told_2 (w : World) (mean : ExcName → Option Value) (mg mb : Str → Option Value) (n : Int) (t0 : Tok) (news : List (Addr × Obj)) (l d : Int) (lo hi H : UInt64)
    (hc : n.fmod 6 = 2) (hl : (n.fdiv 6).fmod 8 = l) (hd0 : (n.fdiv 48).fmod 8 = d) (hl0 : 0 ≤ l) (hl1 : l < 8) (hd1 : 0 ≤ d) (hd2 : d < 8)
    (elo : Float64.ofFrac (decide (l < 0) != decide ((16 : Int) < 0)) l.natAbs (16 : Int).natAbs = lo) (ehi : Float64.ofFrac (decide (l + 1 + d < 0) != decide ((16 : Int) < 0)) (l + 1 + d).natAbs (16 : Int).natAbs = hi)
    (hmx : max3F lo hi lo = hi) (hmn : min3F lo hi lo = lo) (hne : (Float64.cmp lo hi == some .eq) = false) (hz1 : Float64.isZero (Float64.sub hi lo) = false) (hz2 : Float64.isZero hi = false)
    (hz3 : Float64.isZero (Float64.add hi lo) = false) (hz4 : Float64.isZero (Float64.sub (Float64.sub 4611686018427387904 hi) lo) = false)
    (hfin : Float64.isFinite (Float64.mul (Float64.ofInt 6) (hueF lo hi lo hi lo)) = true) (hrd : Flt.toInt Float64.nearestOf (Float64.mul (Float64.ofInt 6) (hueF lo hi lo hi lo)) = 2)
    (g1 : (Float64.cmp hi (Float64.div (Float64.add hi lo) 4611686018427387904) == some .gt) = true) (g2 : (Float64.cmp lo (Float64.div (Float64.add hi lo) 4611686018427387904) == some .gt) = false) :
    Spec w mean mg mb 65 3 24 news [.int n t0] (fun h₀ L m s Q => ∀ (D : Addr) (t1 t2 : Tok) (h' : Heap) (tk' : Nat), Fr h₀ L h' m → News h₀ L h' ((D, ({ cls := .type "tuple", data := .seq #[.int 2 t1, .str (Str.ofString "rGb") t2] } : Obj)) :: news) → AllLt D news → Q (.ref D) { s with heap := h', toks := tk' }) := by
  dsimp only [Spec]
  w_top off
  k_fill
  intro dp un gd cn cs af ccd cl outer A₀ base h₀ L m s Q E B F X N T hk hd hu hret
  have hn : ∀ q ∈ news, q.1 ≠ L ∧ h₀.get? q.1 = none := fun q hq => (N q hq).2
  refine wpAny_call ?_
  (refine' code_defPC ?k1 ?k2 ?k3 ?k4 ?k5 ?kA ?kF ?kK ?k6 ?k7 ?k8 ?k9 ?kB ?kD ?_ ?c2 ?c3 ?c4; (case kA => exact rfl); (case kF => exact rfl); (case kK => assumption); (case k1 => k_asm); (case k2 => k_asm); (case k3 => k_asm); (case k4 => k_asm); (case k5 => k_asm); (case k6 => k_is); (case k7 => k_is); (case k8 => ktr_room); (case k9 => exact BindsTo.of_eq rfl); (case kB => exact rfl); (case kD => decide +kernel); (case c2 => exact rfl); (case c3 => exact rfl); (case c4 => exact rfl); k_whole; intro g' L' h' tk' cells' FG' hg hlt F' N' Y' B' X' T'; k_cells Y'; (try simp only [List.cons_append, List.nil_append] at N'); (try dsimp only); (try k_lift B'); (try k_fold))
  clear N
  k_steps
  all_goals exact hret _ _ _ _ _ (by k_asm) (news_cons (by k_asm) (List.Mem.head _) (keepNews (by k_asm) hg hn)) (allLt_trans hlt (by with_reducible assumption))
end
section
theorem words_14 : True := by
  k_with_none
  k_with "storeName" => (k_here; (with_reducible show wpAny _ _ (storeName (envOf _ _ _ _) _ _) _ _ _); k_dflt (refine' stG ?FhW ?NhW ?_ ?ahW ?bhW; (case FhW => k_asm); (case NhW => k_asm); (case ahW => rfl); (case bhW => rfl); k_whole; intro hxW tkxW FxW NxW; (try k_sweep)))
  k_with "binaryOp Add int int" => (refine r_add (by ((try simp only [Int.reduceAdd, Int.reduceSub, Int.reduceNeg]); exact rfl)) ?_)
  k_with "binaryOp Sub int int" => (refine r_sub (by ((try simp only [Int.reduceAdd, Int.reduceSub, Int.reduceNeg]); exact rfl)) ?_)
  k_with "inplaceOp Add int int" => (refine r_iadd (by ((try simp only [Int.reduceAdd, Int.reduceSub, Int.reduceNeg]); exact rfl)) ?_)
  k_with "inplaceOp Sub int int" => (refine r_isub (by ((try simp only [Int.reduceAdd, Int.reduceSub, Int.reduceNeg]); exact rfl)) ?_)
  k_with "execs cons" => (k_here; (with_reducible show wpAny _ _ _ _ _ (Shared.mk _ _ _ (_ + _) _)); refine genT ?_; intro tkW)
  k_with "execs nil" => (k_here; (with_reducible show wpAny _ _ _ _ _ (Shared.mk _ _ _ (_ + _) _)); refine genT ?_; intro tkW)
  k_with "binaryOp Mult int int" => (refine r_mul (by ((try simp only [Int.reduceAdd, Int.reduceSub, Int.reduceNeg, Int.reduceMul]); exact rfl)) (by mul_fits) ?_)
  k_with "ite" => (k_closed; (first | with_reducible refine ite_posI (by decide) ?_ | with_reducible refine ite_negI (by decide) ?_))
  k_with "eval Name" => (k_here; (with_reducible show wpAny _ _ (eval (Expr.Name _ _) (envOfC _ _ _ _ _)) _ _ _); (first | (with_reducible refine' nmC_range (w := _) ?k1hW ?k2hW ?k3hW ?k4hW ?k5hW ?_) | (with_reducible refine' nmC_min (w := _) ?k1hW ?k2hW ?k3hW ?k4hW ?k5hW ?_) | (with_reducible refine' nmC_round (w := _) ?k1hW ?k2hW ?k3hW ?k4hW ?k5hW ?_) | (with_reducible refine' nmC_rgbtohls (w := _) ?k1hW ?k2hW ?k3hW ?k4hW ?k5hW ?_) | (with_reducible refine' nmC_rgbtohsv (w := _) ?k1hW ?k2hW ?k3hW ?k4hW ?k5hW ?_)); (case k1hW => k_asm); (case k2hW => k_asm); (case k3hW => k_asm); (case k4hW => decide +kernel); (case k5hW => first | exact rfl | assumption); k_whole)
  k_with "eval Name" => (k_here; (with_reducible show wpAny _ _ (eval (Expr.Name _ _) (compEnvC _ _ _ _)) _ _ _); (first | (with_reducible refine' nmK_min (w := _) ?k1hW ?k2hW ?k3hW ?k4hW ?k5hW ?k6hW ?k7hW ?_) | (with_reducible refine' nmK_abs (w := _) ?k1hW ?k2hW ?k3hW ?k4hW ?k5hW ?k6hW ?k7hW ?_) | (with_reducible refine' nmK_levenshteindistance (w := _) ?k1hW ?k2hW ?k3hW ?k4hW ?k5hW ?k6hW ?k7hW ?_) | (with_reducible refine' nmK_lawtold (w := _) ?k1hW ?k2hW ?k3hW ?k4hW ?k5hW ?k6hW ?k7hW ?_) | (with_reducible refine' nmK_lawleast (w := _) ?k1hW ?k2hW ?k3hW ?k4hW ?k5hW ?k6hW ?k7hW ?_)); (case k1hW => k_asm); (case k2hW => k_asm); (case k3hW => k_asm); (case k4hW => k_dflt (exact rfl)); (case k5hW => k_dflt (exact rfl)); (case k6hW => k_dflt (exact rfl)); (case k7hW => k_dflt (exact rfl)); k_whole)
  k_with "eval Name" => (k_here; (with_reducible show wpAny _ _ (eval (Expr.Name _ _) (compEnvC _ _ _ _)) _ _ _); k_dflt (refine' kOwn ?k1hW ?k2hW ?k3hW ?k4hW ?k5hW ?k6hW ?k7hW ?_; (case k2hW => exact rfl); (case k1hW => k_asm); (case k3hW => k_mem); (case k4hW => assumption); (case k5hW => assumption); (case k6hW => exact rfl); (case k7hW => decide); k_whole))
  k_with "eval Name" => (k_here; (with_reducible show wpAny _ _ (eval (Expr.Name _ _) (compEnvC _ _ _ _)) _ _ _); k_dflt (refine' kFree ?k1hW ?k2hW ?k3hW ?k4hW ?k5hW ?k6hW ?k7hW ?k8hW ?_; (case k2hW => exact rfl); (case k1hW => k_asm); (case k3hW => exact rfl); (case k4hW => k_mem); (case k5hW => k_asm); (case k6hW => exact rfl); (case k7hW => decide); (case k8hW => decide); k_whole))
  k_with "eval Name" => (k_here; (with_reducible show wpAny _ _ (eval (Expr.Name _ _) (envOfC _ _ _ _ _)) _ _ _); k_dflt (refine' cC ?k1hW ?k2hW ?k3hW ?k4hW ?k5hW ?k6hW ?k7hW ?_; (case k2hW => exact rfl); (case k1hW => k_asm); (case k3hW => exact rfl); (case k4hW => k_mem); (case k5hW => k_asm); (case k6hW => exact rfl); (case k7hW => decide); k_whole))
  k_with "eval Name" => (k_here; (with_reducible show wpAny _ _ (eval (Expr.Name _ _) (envOfC _ _ _ _ _)) _ _ _); k_dflt (refine' cL ?k1hW ?k2hW ?k3hW ?k4hW ?k5hW ?_; (case k2hW => exact rfl); (case k1hW => k_asm); (case k3hW => exact rfl); (case k4hW => exact rfl); (case k5hW => decide); k_whole))
  k_with "storeName" => (k_here; (with_reducible show wpAny _ _ (storeName (envOfC _ _ _ _ _) _ _) _ _ _); k_dflt (refine' sC ?k1hW ?k2hW ?k3hW ?k4hW ?k5hW ?k6hW ?k7hW ?_; (case k3hW => exact rfl); (case k1hW => k_asm); (case k2hW => k_asm); (case k4hW => exact rfl); (case k5hW => k_updF); (case k6hW => k_asm); (case k7hW => exact rfl); k_whole; intro hxW oxW tkxW FxW NxW dxW; (try dsimp only at NxW); (try k_sweep)))
  k_with "storeName" => (k_here; (with_reducible show wpAny _ _ (storeName (envOfC _ _ _ _ _) _ _) _ _ _); k_dflt (refine' sL ?k1hW ?k2hW ?k3hW ?k4hW ?_; (case k3hW => exact rfl); (case k1hW => k_asm); (case k2hW => k_asm); (case k4hW => exact rfl); k_whole; intro hxW tkxW FxW NxW; (try k_sweep)))
  k_with "exec Assign" => (k_here; (with_reducible show wpAny _ _ (exec (Stmt.Assign [Expr.Name _ _] _ _) _) _ _ _); refine wpAny_Assign_Name ?_)
  k_with "exec Assign cons ListComp" => (k_here; (with_reducible show wpAny _ _ (exec (Stmt.Assign [Expr.Name _ _] _ _) (envOfC _ _ _ _ _)) _ _ _); k_dflt (refine' aComp ?k1hW ?_; (case k1hW => exact rfl)))
  k_with "subscriptTail Name Constant ref int" => (k_here; (with_reducible rename News _ _ _ _ => NxW); (with_unfolding_all refine r_rowC NxW (by k_mem) (by decide) (by decide) (by exact rfl) ?_))
  k_with "subscriptTail Name Name ref int" => (k_here; (with_reducible rename News _ _ _ _ => NxW); (with_unfolding_all refine r_rowN NxW (by k_mem) (by decide) (by decide) (by exact rfl) ?_))
  k_with "subscriptTail Constant Name str int" => (k_here; refine r_itemK (by first | exact (by decide : Txt.item (Str.ofString "RGB") 0 = Str.mk #[82]) | exact (by decide : Txt.item (Str.ofString "RGB") 1 = Str.mk #[71]) | exact (by decide : Txt.item (Str.ofString "RGB") 2 = Str.mk #[66]) | exact (by decide : Txt.item (Str.ofString "rgb") 0 = Str.mk #[114]) | exact (by decide : Txt.item (Str.ofString "rgb") 1 = Str.mk #[103]) | exact (by decide : Txt.item (Str.ofString "rgb") 2 = Str.mk #[98])) (by decide) (by decide) (by decide) ?_)
  k_with "CompRest" => (with_unfolding_all first | (refine LCg.CompRest.succ ?_; intro vxW IxW oIxW CxW oCxW DxW mxW hxW tkxW ExW hvxW hCxW hxxW FxW NxW offxW nexW; (obtain ⟨t9xW, hv9xW⟩ := hvxW; subst hv9xW); (try simp only [w00, w01, w02, w03, w04, w05, List.getD_cons_zero, List.getD_cons_succ] at hxxW); (have off9xW := offxW); (try simp only [LCg.Off3, and_true] at offxW)) | refine LCg.CompRest.zero ?_)
  k_with "CompSrc" => (k_here; k_dflt (refine LCg.CompSrc.range (by rfl) (by k_asm) (by k_asm) (by assumption) (by first | decide | rfl) (by first | rfl | decide) (by first | size_fits | exact Nat.le_of_ble_eq_true rfl) ?_; intro gxW; lcg_lit))
  k_with "CompSrc" => (k_here; k_dflt (refine LCg.CompSrc.ledger (by rfl) (by k_asm) (by k_asm) (by k_mem) (by first | size_fits | exact Nat.le_of_ble_eq_true rfl) ?_; intro gxW; lcg_lit))
  k_with "call builtin:max" => (k_here; (with_reducible show wpAny _ _ (call _ [Value.float _ _, Value.float _ _, Value.float _ _]) _ _ _); (with_reducible rename Fr _ _ _ _ => FxW); (with_reducible rename News _ _ _ _ => NxW); (refine r_max3 (by with_unfolding_all rfl) FxW NxW ‹max3F _ _ _ = _› ?_); intro _ _ _ _ _)
  k_with "call builtin:min" => (k_here; (with_reducible show wpAny _ _ (call _ [Value.float _ _, Value.float _ _, Value.float _ _]) _ _ _); (with_reducible rename Fr _ _ _ _ => FxW); (with_reducible rename News _ _ _ _ => NxW); (refine r_min3 (by with_unfolding_all rfl) FxW NxW ‹min3F _ _ _ = _› ?_); intro _ _ _ _ _)
  k_with "binaryOp Div float float" => (k_here; refine r_fdiv (by with_unfolding_all rfl) (by first | with_reducible assumption | (decide +kernel)) ?_)
  k_with "binaryOp Mod float float" => (k_here; refine r_fmod (by with_unfolding_all rfl) (by decide +kernel) ?_)
  k_with "compareOp Eq float float" => (k_here; refine r_feq (by with_reducible assumption) ?_)
  k_with "newTuple" => (k_here; k_dflt (refine' r_tuple ?FhW ?NhW ?zhW ?_; (case FhW => k_asm); (case NhW => k_asm); (case zhW => exact Nat.le_of_ble_eq_true rfl)); intro DxW hxW FxW NxW l1W l2W; (try simp only [AllLt, and_true] at l1W); (try k_sweep))
  k_with "subscriptTail" => (k_here; (with_reducible show wpAny _ _ (subscriptTail (Expr.List _ _) (Expr.BinOp _ _ _ _) (Value.ref _) (Value.int _ _)) _ _ _); (with_reducible rename News _ _ _ _ => NxW); (with_unfolding_all refine r_litem NxW (by k_mem) (by decide) (by decide) (by exact rfl) ?_))
  k_with "binaryOp FloorDiv int int" => (k_here; refine r_fdivI (by decide) (by decide) (by first | with_reducible assumption | exact rfl) ?_)
  k_with "binaryOp Mod int int" => (k_here; refine r_fmodI (by decide) (by first | with_reducible assumption | exact rfl) ?_)
  k_with "binaryOp Div int int" => (k_here; refine r_idiv (by with_unfolding_all rfl) (by decide) (by omega) (by with_reducible assumption) ?_)
  k_with "binaryOp Mult int float" => (k_here; refine r_mulIF (by decide) ?_)
  k_with "call builtin:round" => (k_here; refine r_round (by with_unfolding_all rfl) (by first | with_reducible assumption | decide +kernel) (by first | with_reducible assumption | decide +kernel) ?_)
  k_with "compareOp Gt float float" => (k_here; refine r_fgt (by with_reducible assumption) ?_)
  k_with "call ref" => (k_here; k_dflt (refine' hsv_t _ _ _ _ _ _ _ _ _ _ _ _ _ ‹max3F _ _ _ = _› ‹min3F _ _ _ = _› ?q1hW ?q2hW ?q3hW _ _ _ _ _ _ _ _ _ _ _ _ _ _ _ _ _ ?k1hW ?k2hW ?k3hW ?k4hW ?k5hW ?kKhW ?kdhW ?kuhW ?_; (case k1hW => k_asm); (case k2hW => k_asm); (case k3hW => k_asm); (case k4hW => k_asm); (case k5hW => k_asm); (case kKhW => first | exact rfl | assumption); (case kdhW => ktr_room); (case kuhW => ktr_units); (case q1hW => assumption); (case q2hW => assumption); (case q3hW => assumption); intro D9W u9W v9W w9W h9W tk9W F9W N9W l9W; (try dsimp only); (try simp only [AllLt, and_true] at l9W); (try k_fold)))
  k_with "call ref" => (k_here; k_dflt (refine' hls_t _ _ _ _ _ _ _ _ _ _ _ _ _ ‹max3F _ _ _ = _› ‹min3F _ _ _ = _› ?q1hW ?q2hW ?q3hW ?q4hW _ _ _ _ _ _ _ _ _ _ _ _ _ _ _ _ _ ?k1hW ?k2hW ?k3hW ?k4hW ?k5hW ?kKhW ?kdhW ?kuhW ?_; (case k1hW => k_asm); (case k2hW => k_asm); (case k3hW => k_asm); (case k4hW => k_asm); (case k5hW => k_asm); (case kKhW => first | exact rfl | assumption); (case kdhW => ktr_room); (case kuhW => ktr_units); (case q1hW => assumption); (case q2hW => assumption); (case q3hW => assumption); (case q4hW => assumption); intro sv9W D9W u9W v9W w9W h9W tk9W F9W N9W l9W; (try dsimp only); (try simp only [AllLt, and_true] at l9W); (try k_fold)))
  k_with "eval ListComp" => (k_here; (with_reducible show wpAny _ _ (eval (Expr.ListComp _ [⟨_, Expr.Subscript _ _ _, _, _⟩] _ _) _) _ _ _); k_dflt (refine ListComp_S (F₀ := by k_asm) (by rfl) (by decide) (by rfl) (by decide) (by rfl) ?_))
  k_with "SrcS" => (k_here; k_dflt (refine SrcS.intro (cs := [48, 49, 49]) (n := 3) (by decide) (by rfl) (by k_asm) (by k_asm) (by decide) (by rfl) (by decide) ?_; intro gxW))
  trivial
theorem told_3 (w : World) (mean : ExcName → Option Value) (mg mb : Str → Option Value) (n : Int) (t0 : Tok) (news : List (Addr × Obj)) (l d : Int) (lo hi H : UInt64)
    (hc : n.fmod 6 = 3) (hl : (n.fdiv 6).fmod 8 = l) (hd0 : (n.fdiv 48).fmod 8 = d) (hl0 : 0 ≤ l) (hl1 : l < 8) (hd1 : 0 ≤ d) (hd2 : d < 8)
    (elo : Float64.ofFrac (decide (l < 0) != decide ((16 : Int) < 0)) l.natAbs (16 : Int).natAbs = lo) (ehi : Float64.ofFrac (decide (l + 1 + d < 0) != decide ((16 : Int) < 0)) (l + 1 + d).natAbs (16 : Int).natAbs = hi)
    (hmx : max3F lo hi hi = hi) (hmn : min3F lo hi hi = lo) (hne : (Float64.cmp lo hi == some .eq) = false) (hz1 : Float64.isZero (Float64.sub hi lo) = false) (hz2 : Float64.isZero hi = false)
    (hz3 : Float64.isZero (Float64.add hi lo) = false) (hz4 : Float64.isZero (Float64.sub (Float64.sub 4611686018427387904 hi) lo) = false)
    (hfin : Float64.isFinite (Float64.mul (Float64.ofInt 6) (hueF lo hi hi hi lo)) = true) (hrd : Flt.toInt Float64.nearestOf (Float64.mul (Float64.ofInt 6) (hueF lo hi hi hi lo)) = 3)
    (g1 : (Float64.cmp hi (Float64.div (Float64.add hi lo) 4611686018427387904) == some .gt) = true) (g2 : (Float64.cmp lo (Float64.div (Float64.add hi lo) 4611686018427387904) == some .gt) = false) :
    Spec w mean mg mb 65 3 24 news [.int n t0] (fun h₀ L m s Q => ∀ (D : Addr) (t1 t2 : Tok) (h' : Heap) (tk' : Nat), Fr h₀ L h' m → News h₀ L h' ((D, ({ cls := .type "tuple", data := .seq #[.int 3 t1, .str (Str.ofString "rGB") t2] } : Obj)) :: news) → AllLt D news → Q (.ref D) { s with heap := h', toks := tk' }) := by
  dsimp only [Spec]
  w_top off
  k_fill
  intro dp un gd cn cs af ccd cl outer A₀ base h₀ L m s Q E B F X N T hk hd hu hret
  have hn : ∀ q ∈ news, q.1 ≠ L ∧ h₀.get? q.1 = none := fun q hq => (N q hq).2
  refine wpAny_call ?_
  (refine' code_defPC ?k1 ?k2 ?k3 ?k4 ?k5 ?kA ?kF ?kK ?k6 ?k7 ?k8 ?k9 ?kB ?kD ?_ ?c2 ?c3 ?c4; (case kA => exact rfl); (case kF => exact rfl); (case kK => assumption); (case k1 => k_asm); (case k2 => k_asm); (case k3 => k_asm); (case k4 => k_asm); (case k5 => k_asm); (case k6 => k_is); (case k7 => k_is); (case k8 => ktr_room); (case k9 => exact BindsTo.of_eq rfl); (case kB => exact rfl); (case kD => decide +kernel); (case c2 => exact rfl); (case c3 => exact rfl); (case c4 => exact rfl); k_whole; intro g' L' h' tk' cells' FG' hg hlt F' N' Y' B' X' T'; k_cells Y'; (try simp only [List.cons_append, List.nil_append] at N'); (try dsimp only); (try k_lift B'); (try k_fold))
  clear N
  k_steps
  all_goals exact hret _ _ _ _ _ (by k_asm) (news_cons (by k_asm) (List.Mem.head _) (keepNews (by k_asm) hg hn)) (allLt_trans hlt (by with_reducible assumption))
end
section
theorem words_15 : True := by
  k_with_none
  k_with "storeName" => (k_here; (with_reducible show wpAny _ _ (storeName (envOf _ _ _ _) _ _) _ _ _); k_dflt (refine' stG ?FhW ?NhW ?_ ?ahW ?bhW; (case FhW => k_asm); (case NhW => k_asm); (case ahW => rfl); (case bhW => rfl); k_whole; intro hxW tkxW FxW NxW; (try k_sweep)))
  k_with "binaryOp Add int int" => (refine r_add (by ((try simp only [Int.reduceAdd, Int.reduceSub, Int.reduceNeg]); exact rfl)) ?_)
  k_with "binaryOp Sub int int" => (refine r_sub (by ((try simp only [Int.reduceAdd, Int.reduceSub, Int.reduceNeg]); exact rfl)) ?_)
  k_with "inplaceOp Add int int" => (refine r_iadd (by ((try simp only [Int.reduceAdd, Int.reduceSub, Int.reduceNeg]); exact rfl)) ?_)
  k_with "inplaceOp Sub int int" => (refine r_isub (by ((try simp only [Int.reduceAdd, Int.reduceSub, Int.reduceNeg]); exact rfl)) ?_)
  k_with "execs cons" => (k_here; (with_reducible show wpAny _ _ _ _ _ (Shared.mk _ _ _ (_ + _) _)); refine genT ?_; intro tkW)
  k_with "execs nil" => (k_here; (with_reducible show wpAny _ _ _ _ _ (Shared.mk _ _ _ (_ + _) _)); refine genT ?_; intro tkW)
  k_with "binaryOp Mult int int" => (refine r_mul (by ((try simp only [Int.reduceAdd, Int.reduceSub, Int.reduceNeg, Int.reduceMul]); exact rfl)) (by mul_fits) ?_)
  k_with "ite" => (k_closed; (first | with_reducible refine ite_posI (by decide) ?_ | with_reducible refine ite_negI (by decide) ?_))
  k_with "eval Name" => (k_here; (with_reducible show wpAny _ _ (eval (Expr.Name _ _) (envOfC _ _ _ _ _)) _ _ _); (first | (with_reducible refine' nmC_range (w := _) ?k1hW ?k2hW ?k3hW ?k4hW ?k5hW ?_) | (with_reducible refine' nmC_min (w := _) ?k1hW ?k2hW ?k3hW ?k4hW ?k5hW ?_) | (with_reducible refine' nmC_round (w := _) ?k1hW ?k2hW ?k3hW ?k4hW ?k5hW ?_) | (with_reducible refine' nmC_rgbtohls (w := _) ?k1hW ?k2hW ?k3hW ?k4hW ?k5hW ?_) | (with_reducible refine' nmC_rgbtohsv (w := _) ?k1hW ?k2hW ?k3hW ?k4hW ?k5hW ?_)); (case k1hW => k_asm); (case k2hW => k_asm); (case k3hW => k_asm); (case k4hW => decide +kernel); (case k5hW => first | exact rfl | assumption); k_whole)
  k_with "eval Name" => (k_here; (with_reducible show wpAny _ _ (eval (Expr.Name _ _) (compEnvC _ _ _ _)) _ _ _); (first | (with_reducible refine' nmK_min (w := _) ?k1hW ?k2hW ?k3hW ?k4hW ?k5hW ?k6hW ?k7hW ?_) | (with_reducible refine' nmK_abs (w := _) ?k1hW ?k2hW ?k3hW ?k4hW ?k5hW ?k6hW ?k7hW ?_) | (with_reducible refine' nmK_levenshteindistance (w := _) ?k1hW ?k2hW ?k3hW ?k4hW ?k5hW ?k6hW ?k7hW ?_) | (with_reducible refine' nmK_lawtold (w := _) ?k1hW ?k2hW ?k3hW ?k4hW ?k5hW ?k6hW ?k7hW ?_) | (with_reducible refine' nmK_lawleast (w := _) ?k1hW ?k2hW ?k3hW ?k4hW ?k5hW ?k6hW ?k7hW ?_)); (case k1hW => k_asm); (case k2hW => k_asm); (case k3hW => k_asm); (case k4hW => k_dflt (exact rfl)); (case k5hW => k_dflt (exact rfl)); (case k6hW => k_dflt (exact rfl)); (case k7hW => k_dflt (exact rfl)); k_whole)
  k_with "eval Name" => (k_here; (with_reducible show wpAny _ _ (eval (Expr.Name _ _) (compEnvC _ _ _ _)) _ _ _); k_dflt (refine' kOwn ?k1hW ?k2hW ?k3hW ?k4hW ?k5hW ?k6hW ?k7hW ?_; (case k2hW => exact rfl); (case k1hW => k_asm); (case k3hW => k_mem); (case k4hW => assumption); (case k5hW => assumption); (case k6hW => exact rfl); (case k7hW => decide); k_whole))
  k_with "eval Name" => (k_here; (with_reducible show wpAny _ _ (eval (Expr.Name _ _) (compEnvC _ _ _ _)) _ _ _); k_dflt (refine' kFree ?k1hW ?k2hW ?k3hW ?k4hW ?k5hW ?k6hW ?k7hW ?k8hW ?_; (case k2hW => exact rfl); (case k1hW => k_asm); (case k3hW => exact rfl); (case k4hW => k_mem); (case k5hW => k_asm); (case k6hW => exact rfl); (case k7hW => decide); (case k8hW => decide); k_whole))
  k_with "eval Name" => (k_here; (with_reducible show wpAny _ _ (eval (Expr.Name _ _) (envOfC _ _ _ _ _)) _ _ _); k_dflt (refine' cC ?k1hW ?k2hW ?k3hW ?k4hW ?k5hW ?k6hW ?k7hW ?_; (case k2hW => exact rfl); (case k1hW => k_asm); (case k3hW => exact rfl); (case k4hW => k_mem); (case k5hW => k_asm); (case k6hW => exact rfl); (case k7hW => decide); k_whole))
  k_with "eval Name" => (k_here; (with_reducible show wpAny _ _ (eval (Expr.Name _ _) (envOfC _ _ _ _ _)) _ _ _); k_dflt (refine' cL ?k1hW ?k2hW ?k3hW ?k4hW ?k5hW ?_; (case k2hW => exact rfl); (case k1hW => k_asm); (case k3hW => exact rfl); (case k4hW => exact rfl); (case k5hW => decide); k_whole))
  k_with "storeName" => (k_here; (with_reducible show wpAny _ _ (storeName (envOfC _ _ _ _ _) _ _) _ _ _); k_dflt (refine' sC ?k1hW ?k2hW ?k3hW ?k4hW ?k5hW ?k6hW ?k7hW ?_; (case k3hW => exact rfl); (case k1hW => k_asm); (case k2hW => k_asm); (case k4hW => exact rfl); (case k5hW => k_updF); (case k6hW => k_asm); (case k7hW => exact rfl); k_whole; intro hxW oxW tkxW FxW NxW dxW; (try dsimp only at NxW); (try k_sweep)))
  k_with "storeName" => (k_here; (with_reducible show wpAny _ _ (storeName (envOfC _ _ _ _ _) _ _) _ _ _); k_dflt (refine' sL ?k1hW ?k2hW ?k3hW ?k4hW ?_; (case k3hW => exact rfl); (case k1hW => k_asm); (case k2hW => k_asm); (case k4hW => exact rfl); k_whole; intro hxW tkxW FxW NxW; (try k_sweep)))
  k_with "exec Assign" => (k_here; (with_reducible show wpAny _ _ (exec (Stmt.Assign [Expr.Name _ _] _ _) _) _ _ _); refine wpAny_Assign_Name ?_)
  k_with "exec Assign cons ListComp" => (k_here; (with_reducible show wpAny _ _ (exec (Stmt.Assign [Expr.Name _ _] _ _) (envOfC _ _ _ _ _)) _ _ _); k_dflt (refine' aComp ?k1hW ?_; (case k1hW => exact rfl)))
  k_with "subscriptTail Name Constant ref int" => (k_here; (with_reducible rename News _ _ _ _ => NxW); (with_unfolding_all refine r_rowC NxW (by k_mem) (by decide) (by decide) (by exact rfl) ?_))
  k_with "subscriptTail Name Name ref int" => (k_here; (with_reducible rename News _ _ _ _ => NxW); (with_unfolding_all refine r_rowN NxW (by k_mem) (by decide) (by decide) (by exact rfl) ?_))
  k_with "subscriptTail Constant Name str int" => (k_here; refine r_itemK (by first | exact (by decide : Txt.item (Str.ofString "RGB") 0 = Str.mk #[82]) | exact (by decide : Txt.item (Str.ofString "RGB") 1 = Str.mk #[71]) | exact (by decide : Txt.item (Str.ofString "RGB") 2 = Str.mk #[66]) | exact (by decide : Txt.item (Str.ofString "rgb") 0 = Str.mk #[114]) | exact (by decide : Txt.item (Str.ofString "rgb") 1 = Str.mk #[103]) | exact (by decide : Txt.item (Str.ofString "rgb") 2 = Str.mk #[98])) (by decide) (by decide) (by decide) ?_)
  k_with "CompRest" => (with_unfolding_all first | (refine LCg.CompRest.succ ?_; intro vxW IxW oIxW CxW oCxW DxW mxW hxW tkxW ExW hvxW hCxW hxxW FxW NxW offxW nexW; (obtain ⟨t9xW, hv9xW⟩ := hvxW; subst hv9xW); (try simp only [w00, w01, w02, w03, w04, w05, List.getD_cons_zero, List.getD_cons_succ] at hxxW); (have off9xW := offxW); (try simp only [LCg.Off3, and_true] at offxW)) | refine LCg.CompRest.zero ?_)
  k_with "CompSrc" => (k_here; k_dflt (refine LCg.CompSrc.range (by rfl) (by k_asm) (by k_asm) (by assumption) (by first | decide | rfl) (by first | rfl | decide) (by first | size_fits | exact Nat.le_of_ble_eq_true rfl) ?_; intro gxW; lcg_lit))
  k_with "CompSrc" => (k_here; k_dflt (refine LCg.CompSrc.ledger (by rfl) (by k_asm) (by k_asm) (by k_mem) (by first | size_fits | exact Nat.le_of_ble_eq_true rfl) ?_; intro gxW; lcg_lit))
  k_with "call builtin:max" => (k_here; (with_reducible show wpAny _ _ (call _ [Value.float _ _, Value.float _ _, Value.float _ _]) _ _ _); (with_reducible rename Fr _ _ _ _ => FxW); (with_reducible rename News _ _ _ _ => NxW); (refine r_max3 (by with_unfolding_all rfl) FxW NxW ‹max3F _ _ _ = _› ?_); intro _ _ _ _ _)
  k_with "call builtin:min" => (k_here; (with_reducible show wpAny _ _ (call _ [Value.float _ _, Value.float _ _, Value.float _ _]) _ _ _); (with_reducible rename Fr _ _ _ _ => FxW); (with_reducible rename News _ _ _ _ => NxW); (refine r_min3 (by with_unfolding_all rfl) FxW NxW ‹min3F _ _ _ = _› ?_); intro _ _ _ _ _)
  k_with "binaryOp Div float float" => (k_here; refine r_fdiv (by with_unfolding_all rfl) (by first | with_reducible assumption | (decide +kernel)) ?_)
  k_with "binaryOp Mod float float" => (k_here; refine r_fmod (by with_unfolding_all rfl) (by decide +kernel) ?_)
  k_with "compareOp Eq float float" => (k_here; refine r_feq (by with_reducible assumption) ?_)
  k_with "newTuple" => (k_here; k_dflt (refine' r_tuple ?FhW ?NhW ?zhW ?_; (case FhW => k_asm); (case NhW => k_asm); (case zhW => exact Nat.le_of_ble_eq_true rfl)); intro DxW hxW FxW NxW l1W l2W; (try simp only [AllLt, and_true] at l1W); (try k_sweep))
  k_with "subscriptTail" => (k_here; (with_reducible show wpAny _ _ (subscriptTail (Expr.List _ _) (Expr.BinOp _ _ _ _) (Value.ref _) (Value.int _ _)) _ _ _); (with_reducible rename News _ _ _ _ => NxW); (with_unfolding_all refine r_litem NxW (by k_mem) (by decide) (by decide) (by exact rfl) ?_))
  k_with "binaryOp FloorDiv int int" => (k_here; refine r_fdivI (by decide) (by decide) (by first | with_reducible assumption | exact rfl) ?_)
  k_with "binaryOp Mod int int" => (k_here; refine r_fmodI (by decide) (by first | with_reducible assumption | exact rfl) ?_)
  k_with "binaryOp Div int int" => (k_here; refine r_idiv (by with_unfolding_all rfl) (by decide) (by omega) (by with_reducible assumption) ?_)
  k_with "binaryOp Mult int float" => (k_here; refine r_mulIF (by decide) ?_)
  k_with "call builtin:round" => (k_here; refine r_round (by with_unfolding_all rfl) (by first | with_reducible assumption | decide +kernel) (by first | with_reducible assumption | decide +kernel) ?_)
  k_with "compareOp Gt float float" => (k_here; refine r_fgt (by with_reducible assumption) ?_)
  k_with "call ref" => (k_here; k_dflt (refine' hsv_t _ _ _ _ _ _ _ _ _ _ _ _ _ ‹max3F _ _ _ = _› ‹min3F _ _ _ = _› ?q1hW ?q2hW ?q3hW _ _ _ _ _ _ _ _ _ _ _ _ _ _ _ _ _ ?k1hW ?k2hW ?k3hW ?k4hW ?k5hW ?kKhW ?kdhW ?kuhW ?_; (case k1hW => k_asm); (case k2hW => k_asm); (case k3hW => k_asm); (case k4hW => k_asm); (case k5hW => k_asm); (case kKhW => first | exact rfl | assumption); (case kdhW => ktr_room); (case kuhW => ktr_units); (case q1hW => assumption); (case q2hW => assumption); (case q3hW => assumption); intro D9W u9W v9W w9W h9W tk9W F9W N9W l9W; (try dsimp only); (try simp only [AllLt, and_true] at l9W); (try k_fold)))
  k_with "call ref" => (k_here; k_dflt (refine' hls_t _ _ _ _ _ _ _ _ _ _ _ _ _ ‹max3F _ _ _ = _› ‹min3F _ _ _ = _› ?q1hW ?q2hW ?q3hW ?q4hW _ _ _ _ _ _ _ _ _ _ _ _ _ _ _ _ _ ?k1hW ?k2hW ?k3hW ?k4hW ?k5hW ?kKhW ?kdhW ?kuhW ?_; (case k1hW => k_asm); (case k2hW => k_asm); (case k3hW => k_asm); (case k4hW => k_asm); (case k5hW => k_asm); (case kKhW => first | exact rfl | assumption); (case kdhW => ktr_room); (case kuhW => ktr_units); (case q1hW => assumption); (case q2hW => assumption); (case q3hW => assumption); (case q4hW => assumption); intro sv9W D9W u9W v9W w9W h9W tk9W F9W N9W l9W; (try dsimp only); (try simp only [AllLt, and_true] at l9W); (try k_fold)))
  k_with "eval ListComp" => (k_here; (with_reducible show wpAny _ _ (eval (Expr.ListComp _ [⟨_, Expr.Subscript _ _ _, _, _⟩] _ _) _) _ _ _); k_dflt (refine ListComp_S (F₀ := by k_asm) (by rfl) (by decide) (by rfl) (by decide) (by rfl) ?_))
  k_with "SrcS" => (k_here; k_dflt (refine SrcS.intro (cs := [48, 48, 49]) (n := 3) (by decide) (by rfl) (by k_asm) (by k_asm) (by decide) (by rfl) (by decide) ?_; intro gxW))
  trivial
theorem told_4 (w : World) (mean : ExcName → Option Value) (mg mb : Str → Option Value) (n : Int) (t0 : Tok) (news : List (Addr × Obj)) (l d : Int) (lo hi H : UInt64)
    (hc : n.fmod 6 = 4) (hl : (n.fdiv 6).fmod 8 = l) (hd0 : (n.fdiv 48).fmod 8 = d) (hl0 : 0 ≤ l) (hl1 : l < 8) (hd1 : 0 ≤ d) (hd2 : d < 8)
    (elo : Float64.ofFrac (decide (l < 0) != decide ((16 : Int) < 0)) l.natAbs (16 : Int).natAbs = lo) (ehi : Float64.ofFrac (decide (l + 1 + d < 0) != decide ((16 : Int) < 0)) (l + 1 + d).natAbs (16 : Int).natAbs = hi)
    (hmx : max3F lo lo hi = hi) (hmn : min3F lo lo hi = lo) (hne : (Float64.cmp lo hi == some .eq) = false) (hz1 : Float64.isZero (Float64.sub hi lo) = false) (hz2 : Float64.isZero hi = false)
    (hz3 : Float64.isZero (Float64.add hi lo) = false) (hz4 : Float64.isZero (Float64.sub (Float64.sub 4611686018427387904 hi) lo) = false)
    (hfin : Float64.isFinite (Float64.mul (Float64.ofInt 6) (hueF lo lo hi hi lo)) = true) (hrd : Flt.toInt Float64.nearestOf (Float64.mul (Float64.ofInt 6) (hueF lo lo hi hi lo)) = 4)
    (g1 : (Float64.cmp hi (Float64.div (Float64.add hi lo) 4611686018427387904) == some .gt) = true) (g2 : (Float64.cmp lo (Float64.div (Float64.add hi lo) 4611686018427387904) == some .gt) = false) :
    Spec w mean mg mb 65 3 24 news [.int n t0] (fun h₀ L m s Q => ∀ (D : Addr) (t1 t2 : Tok) (h' : Heap) (tk' : Nat), Fr h₀ L h' m → News h₀ L h' ((D, ({ cls := .type "tuple", data := .seq #[.int 4 t1, .str (Str.ofString "rgB") t2] } : Obj)) :: news) → AllLt D news → Q (.ref D) { s with heap := h', toks := tk' }) := by
  dsimp only [Spec]
  w_top off
  k_fill
  intro dp un gd cn cs af ccd cl outer A₀ base h₀ L m s Q E B F X N T hk hd hu hret
  have hn : ∀ q ∈ news, q.1 ≠ L ∧ h₀.get? q.1 = none := fun q hq => (N q hq).2
  refine wpAny_call ?_
  (refine' code_defPC ?k1 ?k2 ?k3 ?k4 ?k5 ?kA ?kF ?kK ?k6 ?k7 ?k8 ?k9 ?kB ?kD ?_ ?c2 ?c3 ?c4; (case kA => exact rfl); (case kF => exact rfl); (case kK => assumption); (case k1 => k_asm); (case k2 => k_asm); (case k3 => k_asm); (case k4 => k_asm); (case k5 => k_asm); (case k6 => k_is); (case k7 => k_is); (case k8 => ktr_room); (case k9 => exact BindsTo.of_eq rfl); (case kB => exact rfl); (case kD => decide +kernel); (case c2 => exact rfl); (case c3 => exact rfl); (case c4 => exact rfl); k_whole; intro g' L' h' tk' cells' FG' hg hlt F' N' Y' B' X' T'; k_cells Y'; (try simp only [List.cons_append, List.nil_append] at N'); (try dsimp only); (try k_lift B'); (try k_fold))
  clear N
  k_steps
  all_goals exact hret _ _ _ _ _ (by k_asm) (news_cons (by k_asm) (List.Mem.head _) (keepNews (by k_asm) hg hn)) (allLt_trans hlt (by with_reducible assumption))
end
section
theorem words_16 : True := by
  k_with_none
  k_with "storeName" => (k_here; (with_reducible show wpAny _ _ (storeName (envOf _ _ _ _) _ _) _ _ _); k_dflt (refine' stG ?FhW ?NhW ?_ ?ahW ?bhW; (case FhW => k_asm); (case NhW => k_asm); (case ahW => rfl); (case bhW => rfl); k_whole; intro hxW tkxW FxW NxW; (try k_sweep)))
  k_with "binaryOp Add int int" => (refine r_add (by ((try simp only [Int.reduceAdd, Int.reduceSub, Int.reduceNeg]); exact rfl)) ?_)
  k_with "binaryOp Sub int int" => (refine r_sub (by ((try simp only [Int.reduceAdd, Int.reduceSub, Int.reduceNeg]); exact rfl)) ?_)
  k_with "inplaceOp Add int int" => (refine r_iadd (by ((try simp only [Int.reduceAdd, Int.reduceSub, Int.reduceNeg]); exact rfl)) ?_)
  k_with "inplaceOp Sub int int" => (refine r_isub (by ((try simp only [Int.reduceAdd, Int.reduceSub, Int.reduceNeg]); exact rfl)) ?_)
  k_with "execs cons" => (k_here; (with_reducible show wpAny _ _ _ _ _ (Shared.mk _ _ _ (_ + _) _)); refine genT ?_; intro tkW)
  k_with "execs nil" => (k_here; (with_reducible show wpAny _ _ _ _ _ (Shared.mk _ _ _ (_ + _) _)); refine genT ?_; intro tkW)
  k_with "binaryOp Mult int int" => (refine r_mul (by ((try simp only [Int.reduceAdd, Int.reduceSub, Int.reduceNeg, Int.reduceMul]); exact rfl)) (by mul_fits) ?_)
  k_with "ite" => (k_closed; (first | with_reducible refine ite_posI (by decide) ?_ | with_reducible refine ite_negI (by decide) ?_))
  k_with "eval Name" => (k_here; (with_reducible show wpAny _ _ (eval (Expr.Name _ _) (envOfC _ _ _ _ _)) _ _ _); (first | (with_reducible refine' nmC_range (w := _) ?k1hW ?k2hW ?k3hW ?k4hW ?k5hW ?_) | (with_reducible refine' nmC_min (w := _) ?k1hW ?k2hW ?k3hW ?k4hW ?k5hW ?_) | (with_reducible refine' nmC_round (w := _) ?k1hW ?k2hW ?k3hW ?k4hW ?k5hW ?_) | (with_reducible refine' nmC_rgbtohls (w := _) ?k1hW ?k2hW ?k3hW ?k4hW ?k5hW ?_) | (with_reducible refine' nmC_rgbtohsv (w := _) ?k1hW ?k2hW ?k3hW ?k4hW ?k5hW ?_)); (case k1hW => k_asm); (case k2hW => k_asm); (case k3hW => k_asm); (case k4hW => decide +kernel); (case k5hW => first | exact rfl | assumption); k_whole)
  k_with "eval Name" => (k_here; (with_reducible show wpAny _ _ (eval (Expr.Name _ _) (compEnvC _ _ _ _)) _ _ _); (first | (with_reducible refine' nmK_min (w := _) ?k1hW ?k2hW ?k3hW ?k4hW ?k5hW ?k6hW ?k7hW ?_) | (with_reducible refine' nmK_abs (w := _) ?k1hW ?k2hW ?k3hW ?k4hW ?k5hW ?k6hW ?k7hW ?_) | (with_reducible refine' nmK_levenshteindistance (w := _) ?k1hW ?k2hW ?k3hW ?k4hW ?k5hW ?k6hW ?k7hW ?_) | (with_reducible refine' nmK_lawtold (w := _) ?k1hW ?k2hW ?k3hW ?k4hW ?k5hW ?k6hW ?k7hW ?_) | (with_reducible refine' nmK_lawleast (w := _) ?k1hW ?k2hW ?k3hW ?k4hW ?k5hW ?k6hW ?k7hW ?_)); (case k1hW => k_asm); (case k2hW => k_asm); (case k3hW => k_asm); (case k4hW => k_dflt (exact rfl)); (case k5hW => k_dflt (exact rfl)); (case k6hW => k_dflt (exact rfl)); (case k7hW => k_dflt (exact rfl)); k_whole)
  k_with "eval Name" => (k_here; (with_reducible show wpAny _ _ (eval (Expr.Name _ _) (compEnvC _ _ _ _)) _ _ _); k_dflt (refine' kOwn ?k1hW ?k2hW ?k3hW ?k4hW ?k5hW ?k6hW ?k7hW ?_; (case k2hW => exact rfl); (case k1hW => k_asm); (case k3hW => k_mem); (case k4hW => assumption); (case k5hW => assumption); (case k6hW => exact rfl); (case k7hW => decide); k_whole))
  k_with "eval Name" => (k_here; (with_reducible show wpAny _ _ (eval (Expr.Name _ _) (compEnvC _ _ _ _)) _ _ _); k_dflt (refine' kFree ?k1hW ?k2hW ?k3hW ?k4hW ?k5hW ?k6hW ?k7hW ?k8hW ?_; (case k2hW => exact rfl); (case k1hW => k_asm); (case k3hW => exact rfl); (case k4hW => k_mem); (case k5hW => k_asm); (case k6hW => exact rfl); (case k7hW => decide); (case k8hW => decide); k_whole))
  k_with "eval Name" => (k_here; (with_reducible show wpAny _ _ (eval (Expr.Name _ _) (envOfC _ _ _ _ _)) _ _ _); k_dflt (refine' cC ?k1hW ?k2hW ?k3hW ?k4hW ?k5hW ?k6hW ?k7hW ?_; (case k2hW => exact rfl); (case k1hW => k_asm); (case k3hW => exact rfl); (case k4hW => k_mem); (case k5hW => k_asm); (case k6hW => exact rfl); (case k7hW => decide); k_whole))
  k_with "eval Name" => (k_here; (with_reducible show wpAny _ _ (eval (Expr.Name _ _) (envOfC _ _ _ _ _)) _ _ _); k_dflt (refine' cL ?k1hW ?k2hW ?k3hW ?k4hW ?k5hW ?_; (case k2hW => exact rfl); (case k1hW => k_asm); (case k3hW => exact rfl); (case k4hW => exact rfl); (case k5hW => decide); k_whole))
  k_with "storeName" => (k_here; (with_reducible show wpAny _ _ (storeName (envOfC _ _ _ _ _) _ _) _ _ _); k_dflt (refine' sC ?k1hW ?k2hW ?k3hW ?k4hW ?k5hW ?k6hW ?k7hW ?_; (case k3hW => exact rfl); (case k1hW => k_asm); (case k2hW => k_asm); (case k4hW => exact rfl); (case k5hW => k_updF); (case k6hW => k_asm); (case k7hW => exact rfl); k_whole; intro hxW oxW tkxW FxW NxW dxW; (try dsimp only at NxW); (try k_sweep)))
  k_with "storeName" => (k_here; (with_reducible show wpAny _ _ (storeName (envOfC _ _ _ _ _) _ _) _ _ _); k_dflt (refine' sL ?k1hW ?k2hW ?k3hW ?k4hW ?_; (case k3hW => exact rfl); (case k1hW => k_asm); (case k2hW => k_asm); (case k4hW => exact rfl); k_whole; intro hxW tkxW FxW NxW; (try k_sweep)))
  k_with "exec Assign" => (k_here; (with_reducible show wpAny _ _ (exec (Stmt.Assign [Expr.Name _ _] _ _) _) _ _ _); refine wpAny_Assign_Name ?_)
  k_with "exec Assign cons ListComp" => (k_here; (with_reducible show wpAny _ _ (exec (Stmt.Assign [Expr.Name _ _] _ _) (envOfC _ _ _ _ _)) _ _ _); k_dflt (refine' aComp ?k1hW ?_; (case k1hW => exact rfl)))
  k_with "subscriptTail Name Constant ref int" => (k_here; (with_reducible rename News _ _ _ _ => NxW); (with_unfolding_all refine r_rowC NxW (by k_mem) (by decide) (by decide) (by exact rfl) ?_))
  k_with "subscriptTail Name Name ref int" => (k_here; (with_reducible rename News _ _ _ _ => NxW); (with_unfolding_all refine r_rowN NxW (by k_mem) (by decide) (by decide) (by exact rfl) ?_))
  k_with "subscriptTail Constant Name str int" => (k_here; refine r_itemK (by first | exact (by decide : Txt.item (Str.ofString "RGB") 0 = Str.mk #[82]) | exact (by decide : Txt.item (Str.ofString "RGB") 1 = Str.mk #[71]) | exact (by decide : Txt.item (Str.ofString "RGB") 2 = Str.mk #[66]) | exact (by decide : Txt.item (Str.ofString "rgb") 0 = Str.mk #[114]) | exact (by decide : Txt.item (Str.ofString "rgb") 1 = Str.mk #[103]) | exact (by decide : Txt.item (Str.ofString "rgb") 2 = Str.mk #[98])) (by decide) (by decide) (by decide) ?_)
  k_with "CompRest" => (with_unfolding_all first | (refine LCg.CompRest.succ ?_; intro vxW IxW oIxW CxW oCxW DxW mxW hxW tkxW ExW hvxW hCxW hxxW FxW NxW offxW nexW; (obtain ⟨t9xW, hv9xW⟩ := hvxW; subst hv9xW); (try simp only [w00, w01, w02, w03, w04, w05, List.getD_cons_zero, List.getD_cons_succ] at hxxW); (have off9xW := offxW); (try simp only [LCg.Off3, and_true] at offxW)) | refine LCg.CompRest.zero ?_)
  k_with "CompSrc" => (k_here; k_dflt (refine LCg.CompSrc.range (by rfl) (by k_asm) (by k_asm) (by assumption) (by first | decide | rfl) (by first | rfl | decide) (by first | size_fits | exact Nat.le_of_ble_eq_true rfl) ?_; intro gxW; lcg_lit))
  k_with "CompSrc" => (k_here; k_dflt (refine LCg.CompSrc.ledger (by rfl) (by k_asm) (by k_asm) (by k_mem) (by first | size_fits | exact Nat.le_of_ble_eq_true rfl) ?_; intro gxW; lcg_lit))
  k_with "call builtin:max" => (k_here; (with_reducible show wpAny _ _ (call _ [Value.float _ _, Value.float _ _, Value.float _ _]) _ _ _); (with_reducible rename Fr _ _ _ _ => FxW); (with_reducible rename News _ _ _ _ => NxW); (refine r_max3 (by with_unfolding_all rfl) FxW NxW ‹max3F _ _ _ = _› ?_); intro _ _ _ _ _)
  k_with "call builtin:min" => (k_here; (with_reducible show wpAny _ _ (call _ [Value.float _ _, Value.float _ _, Value.float _ _]) _ _ _); (with_reducible rename Fr _ _ _ _ => FxW); (with_reducible rename News _ _ _ _ => NxW); (refine r_min3 (by with_unfolding_all rfl) FxW NxW ‹min3F _ _ _ = _› ?_); intro _ _ _ _ _)
  k_with "binaryOp Div float float" => (k_here; refine r_fdiv (by with_unfolding_all rfl) (by first | with_reducible assumption | (decide +kernel)) ?_)
  k_with "binaryOp Mod float float" => (k_here; refine r_fmod (by with_unfolding_all rfl) (by decide +kernel) ?_)
  k_with "compareOp Eq float float" => (k_here; refine r_feq (by with_reducible assumption) ?_)
  k_with "newTuple" => (k_here; k_dflt (refine' r_tuple ?FhW ?NhW ?zhW ?_; (case FhW => k_asm); (case NhW => k_asm); (case zhW => exact Nat.le_of_ble_eq_true rfl)); intro DxW hxW FxW NxW l1W l2W; (try simp only [AllLt, and_true] at l1W); (try k_sweep))
  k_with "subscriptTail" => (k_here; (with_reducible show wpAny _ _ (subscriptTail (Expr.List _ _) (Expr.BinOp _ _ _ _) (Value.ref _) (Value.int _ _)) _ _ _); (with_reducible rename News _ _ _ _ => NxW); (with_unfolding_all refine r_litem NxW (by k_mem) (by decide) (by decide) (by exact rfl) ?_))
  k_with "binaryOp FloorDiv int int" => (k_here; refine r_fdivI (by decide) (by decide) (by first | with_reducible assumption | exact rfl) ?_)
  k_with "binaryOp Mod int int" => (k_here; refine r_fmodI (by decide) (by first | with_reducible assumption | exact rfl) ?_)
  k_with "binaryOp Div int int" => (k_here; refine r_idiv (by with_unfolding_all rfl) (by decide) (by omega) (by with_reducible assumption) ?_)
  k_with "binaryOp Mult int float" => (k_here; refine r_mulIF (by decide) ?_)
  k_with "call builtin:round" => (k_here; refine r_round (by with_unfolding_all rfl) (by first | with_reducible assumption | decide +kernel) (by first | with_reducible assumption | decide +kernel) ?_)
  k_with "compareOp Gt float float" => (k_here; refine r_fgt (by with_reducible assumption) ?_)
  k_with "call ref" => (k_here; k_dflt (refine' hsv_t _ _ _ _ _ _ _ _ _ _ _ _ _ ‹max3F _ _ _ = _› ‹min3F _ _ _ = _› ?q1hW ?q2hW ?q3hW _ _ _ _ _ _ _ _ _ _ _ _ _ _ _ _ _ ?k1hW ?k2hW ?k3hW ?k4hW ?k5hW ?kKhW ?kdhW ?kuhW ?_; (case k1hW => k_asm); (case k2hW => k_asm); (case k3hW => k_asm); (case k4hW => k_asm); (case k5hW => k_asm); (case kKhW => first | exact rfl | assumption); (case kdhW => ktr_room); (case kuhW => ktr_units); (case q1hW => assumption); (case q2hW => assumption); (case q3hW => assumption); intro D9W u9W v9W w9W h9W tk9W F9W N9W l9W; (try dsimp only); (try simp only [AllLt, and_true] at l9W); (try k_fold)))
  k_with "call ref" => (k_here; k_dflt (refine' hls_t _ _ _ _ _ _ _ _ _ _ _ _ _ ‹max3F _ _ _ = _› ‹min3F _ _ _ = _› ?q1hW ?q2hW ?q3hW ?q4hW _ _ _ _ _ _ _ _ _ _ _ _ _ _ _ _ _ ?k1hW ?k2hW ?k3hW ?k4hW ?k5hW ?kKhW ?kdhW ?kuhW ?_; (case k1hW => k_asm); (case k2hW => k_asm); (case k3hW => k_asm); (case k4hW => k_asm); (case k5hW => k_asm); (case kKhW => first | exact rfl | assumption); (case kdhW => ktr_room); (case kuhW => ktr_units); (case q1hW => assumption); (case q2hW => assumption); (case q3hW => assumption); (case q4hW => assumption); intro sv9W D9W u9W v9W w9W h9W tk9W F9W N9W l9W; (try dsimp only); (try simp only [AllLt, and_true] at l9W); (try k_fold)))
  k_with "eval ListComp" => (k_here; (with_reducible show wpAny _ _ (eval (Expr.ListComp _ [⟨_, Expr.Subscript _ _ _, _, _⟩] _ _) _) _ _ _); k_dflt (refine ListComp_S (F₀ := by k_asm) (by rfl) (by decide) (by rfl) (by decide) (by rfl) ?_))
  k_with "SrcS" => (k_here; k_dflt (refine SrcS.intro (cs := [49, 48, 49]) (n := 3) (by decide) (by rfl) (by k_asm) (by k_asm) (by decide) (by rfl) (by decide) ?_; intro gxW))
  trivial
theorem told_5 (w : World) (mean : ExcName → Option Value) (mg mb : Str → Option Value) (n : Int) (t0 : Tok) (news : List (Addr × Obj)) (l d : Int) (lo hi H : UInt64)
    (hc : n.fmod 6 = 5) (hl : (n.fdiv 6).fmod 8 = l) (hd0 : (n.fdiv 48).fmod 8 = d) (hl0 : 0 ≤ l) (hl1 : l < 8) (hd1 : 0 ≤ d) (hd2 : d < 8)
    (elo : Float64.ofFrac (decide (l < 0) != decide ((16 : Int) < 0)) l.natAbs (16 : Int).natAbs = lo) (ehi : Float64.ofFrac (decide (l + 1 + d < 0) != decide ((16 : Int) < 0)) (l + 1 + d).natAbs (16 : Int).natAbs = hi)
    (hmx : max3F hi lo hi = hi) (hmn : min3F hi lo hi = lo) (hne : (Float64.cmp lo hi == some .eq) = false) (hz1 : Float64.isZero (Float64.sub hi lo) = false) (hz2 : Float64.isZero hi = false)
    (hz3 : Float64.isZero (Float64.add hi lo) = false) (hz4 : Float64.isZero (Float64.sub (Float64.sub 4611686018427387904 hi) lo) = false)
    (hfin : Float64.isFinite (Float64.mul (Float64.ofInt 6) (hueF hi lo hi hi lo)) = true) (hrd : Flt.toInt Float64.nearestOf (Float64.mul (Float64.ofInt 6) (hueF hi lo hi hi lo)) = 5)
    (g1 : (Float64.cmp hi (Float64.div (Float64.add hi lo) 4611686018427387904) == some .gt) = true) (g2 : (Float64.cmp lo (Float64.div (Float64.add hi lo) 4611686018427387904) == some .gt) = false) :
    Spec w mean mg mb 65 3 24 news [.int n t0] (fun h₀ L m s Q => ∀ (D : Addr) (t1 t2 : Tok) (h' : Heap) (tk' : Nat), Fr h₀ L h' m → News h₀ L h' ((D, ({ cls := .type "tuple", data := .seq #[.int 5 t1, .str (Str.ofString "RgB") t2] } : Obj)) :: news) → AllLt D news → Q (.ref D) { s with heap := h', toks := tk' }) := by
  dsimp only [Spec]
  w_top off
  k_fill
  intro dp un gd cn cs af ccd cl outer A₀ base h₀ L m s Q E B F X N T hk hd hu hret
  have hn : ∀ q ∈ news, q.1 ≠ L ∧ h₀.get? q.1 = none := fun q hq => (N q hq).2
  refine wpAny_call ?_
  (refine' code_defPC ?k1 ?k2 ?k3 ?k4 ?k5 ?kA ?kF ?kK ?k6 ?k7 ?k8 ?k9 ?kB ?kD ?_ ?c2 ?c3 ?c4; (case kA => exact rfl); (case kF => exact rfl); (case kK => assumption); (case k1 => k_asm); (case k2 => k_asm); (case k3 => k_asm); (case k4 => k_asm); (case k5 => k_asm); (case k6 => k_is); (case k7 => k_is); (case k8 => ktr_room); (case k9 => exact BindsTo.of_eq rfl); (case kB => exact rfl); (case kD => decide +kernel); (case c2 => exact rfl); (case c3 => exact rfl); (case c4 => exact rfl); k_whole; intro g' L' h' tk' cells' FG' hg hlt F' N' Y' B' X' T'; k_cells Y'; (try simp only [List.cons_append, List.nil_append] at N'); (try dsimp only); (try k_lift B'); (try k_fold))
  clear N
  k_steps
  all_goals exact hret _ _ _ _ _ (by k_asm) (news_cons (by k_asm) (List.Mem.head _) (keepNews (by k_asm) hg hn)) (allLt_trans hlt (by with_reducible assumption))
end
end
section
noncomputable def wd (c : Int) : Str := if c = 0 then Str.ofString "Rgb" else if c = 1 then Str.ofString "RGb" else if c = 2 then Str.ofString "rGb" else if c = 3 then Str.ofString "rGB" else if c = 4 then Str.ofString "rgB" else Str.ofString "RgB"
noncomputable abbrev tupIS (c : Int) (z : Str) (t1 t2 : Tok) : Obj := { cls := .type "tuple", data := .seq #[.int c t1, .str z t2] }
theorem fmod8 (n : Int) : 0 ≤ n.fmod 8 ∧ n.fmod 8 < 8 := ⟨Int.fmod_nonneg_of_pos _ (by decide), Int.fmod_lt_of_pos _ (by decide)⟩
theorem fmod6 (n : Int) : 0 ≤ n.fmod 6 ∧ n.fmod 6 < 6 := ⟨Int.fmod_nonneg_of_pos _ (by decide), Int.fmod_lt_of_pos _ (by decide)⟩
theorem frac_neg {a : Int} (h : 0 ≤ a) : (decide (a < 0) != decide ((16 : Int) < 0)) = false := by
  have : ¬ a < 0 := by omega
  simp [this]
theorem told_spec (w : World) (mean : ExcName → Option Value) (mg mb : Str → Option Value) (n : Int) (t0 : Tok) (news : List (Addr × Obj)) :
    Spec w mean mg mb 65 3 24 news [.int n t0] (fun h₀ L m s Q => ∀ (D : Addr) (t1 t2 : Tok) (h' : Heap) (tk' : Nat), Fr h₀ L h' m → News h₀ L h' ((D, tupIS (n.fmod 6) (wd (n.fmod 6)) t1 t2) :: news) → AllLt D news → Q (.ref D) { s with heap := h', toks := tk' }) := by
  have hl := fmod8 (n.fdiv 6)
  have hd := fmod8 (n.fdiv 48)
  have h6 := fmod6 n
  generalize el : (n.fdiv 6).fmod 8 = l at hl
  generalize ed : (n.fdiv 48).fmod 8 = d at hd
  have H : LoHi (Float64.ofFrac (decide (l < 0) != decide ((16 : Int) < 0)) l.natAbs (16 : Int).natAbs) (Float64.ofFrac (decide (l + 1 + d < 0) != decide ((16 : Int) < 0)) (l + 1 + d).natAbs (16 : Int).natAbs) := by
    rw [frac_neg hl.1, frac_neg (a := l + 1 + d) (by omega), show (l + 1 + d).natAbs = l.natAbs + 1 + d.natAbs by omega]
    exact lohi (by omega) (by omega)
  generalize elo : Float64.ofFrac (decide (l < 0) != decide ((16 : Int) < 0)) l.natAbs (16 : Int).natAbs = lo at H
  generalize ehi : Float64.ofFrac (decide (l + 1 + d < 0) != decide ((16 : Int) < 0)) (l + 1 + d).natAbs (16 : Int).natAbs = hi at H
  have hne : (Float64.cmp lo hi == some .eq) = false := by rw [H.lh]; rfl
  generalize ec : n.fmod 6 = c at h6
  have : c = 0 ∨ c = 1 ∨ c = 2 ∨ c = 3 ∨ c = 4 ∨ c = 5 := by omega
  rcases this with rfl | rfl | rfl | rfl | rfl | rfl
  · exact told_0 w mean mg mb n t0 news l d lo hi 0 ec el ed hl.1 hl.2 hd.1 hd.2 elo ehi (maxV0 H) (minV0 H) hne H.z1 H.z2 H.z3 H.z4 (by rw [hueV0 H]; exact hueN0.1) (by rw [hueV0 H]; exact hueN0.2) H.g1 H.g2
  · exact told_1 w mean mg mb n t0 news l d lo hi 0 ec el ed hl.1 hl.2 hd.1 hd.2 elo ehi (maxV1 H) (minV1 H) hne H.z1 H.z2 H.z3 H.z4 (by rw [hueV1 H]; exact hueN1.1) (by rw [hueV1 H]; exact hueN1.2) H.g1 H.g2
  · exact told_2 w mean mg mb n t0 news l d lo hi 0 ec el ed hl.1 hl.2 hd.1 hd.2 elo ehi (maxV2 H) (minV2 H) hne H.z1 H.z2 H.z3 H.z4 (by rw [hueV2 H]; exact hueN2.1) (by rw [hueV2 H]; exact hueN2.2) H.g1 H.g2
  · exact told_3 w mean mg mb n t0 news l d lo hi 0 ec el ed hl.1 hl.2 hd.1 hd.2 elo ehi (maxV3 H) (minV3 H) hne H.z1 H.z2 H.z3 H.z4 (by rw [hueV3 H]; exact hueN3.1) (by rw [hueV3 H]; exact hueN3.2) H.g1 H.g2
  · exact told_4 w mean mg mb n t0 news l d lo hi 0 ec el ed hl.1 hl.2 hd.1 hd.2 elo ehi (maxV4 H) (minV4 H) hne H.z1 H.z2 H.z3 H.z4 (by rw [hueV4 H]; exact hueN4.1) (by rw [hueV4 H]; exact hueN4.2) H.g1 H.g2
  · exact told_5 w mean mg mb n t0 news l d lo hi 0 ec el ed hl.1 hl.2 hd.1 hd.2 elo ehi (maxV5 H) (minV5 H) hne H.z1 H.z2 H.z3 H.z4 (by rw [hueV5 H]; exact hueN5.1) (by rw [hueV5 H]; exact hueN5.2) H.g1 H.g2
end
section
noncomputable def distI (i j : Int) : Int := if (j - i).fmod 6 < (i - j).fmod 6 then (j - i).fmod 6 else (i - j).fmod 6
theorem wdm0 : wd 0 = Str.mk #[82, 103, 98] := by decide
theorem wdm1 : wd 1 = Str.mk #[82, 71, 98] := by decide
theorem wdm2 : wd 2 = Str.mk #[114, 71, 98] := by decide
theorem wdm3 : wd 3 = Str.mk #[114, 71, 66] := by decide
theorem wdm4 : wd 4 = Str.mk #[114, 103, 66] := by decide
theorem wdm5 : wd 5 = Str.mk #[82, 103, 66] := by decide
theorem sb_66_66 : subF (Str.mk #[66]) (Str.mk #[66]) = 0 := by decide +kernel
theorem sb_66_71 : subF (Str.mk #[66]) (Str.mk #[71]) = 2 := by decide +kernel
theorem sb_66_82 : subF (Str.mk #[66]) (Str.mk #[82]) = 2 := by decide +kernel
theorem sb_66_98 : subF (Str.mk #[66]) (Str.mk #[98]) = 1 := by decide +kernel
theorem sb_66_103 : subF (Str.mk #[66]) (Str.mk #[103]) = 2 := by decide +kernel
theorem sb_66_114 : subF (Str.mk #[66]) (Str.mk #[114]) = 2 := by decide +kernel
theorem sb_71_66 : subF (Str.mk #[71]) (Str.mk #[66]) = 2 := by decide +kernel
theorem sb_71_71 : subF (Str.mk #[71]) (Str.mk #[71]) = 0 := by decide +kernel
theorem sb_71_82 : subF (Str.mk #[71]) (Str.mk #[82]) = 2 := by decide +kernel
theorem sb_71_98 : subF (Str.mk #[71]) (Str.mk #[98]) = 2 := by decide +kernel
theorem sb_71_103 : subF (Str.mk #[71]) (Str.mk #[103]) = 1 := by decide +kernel
theorem sb_71_114 : subF (Str.mk #[71]) (Str.mk #[114]) = 2 := by decide +kernel
theorem sb_82_66 : subF (Str.mk #[82]) (Str.mk #[66]) = 2 := by decide +kernel
theorem sb_82_71 : subF (Str.mk #[82]) (Str.mk #[71]) = 2 := by decide +kernel
theorem sb_82_82 : subF (Str.mk #[82]) (Str.mk #[82]) = 0 := by decide +kernel
theorem sb_82_98 : subF (Str.mk #[82]) (Str.mk #[98]) = 2 := by decide +kernel
theorem sb_82_103 : subF (Str.mk #[82]) (Str.mk #[103]) = 2 := by decide +kernel
theorem sb_82_114 : subF (Str.mk #[82]) (Str.mk #[114]) = 1 := by decide +kernel
theorem sb_98_66 : subF (Str.mk #[98]) (Str.mk #[66]) = 1 := by decide +kernel
theorem sb_98_71 : subF (Str.mk #[98]) (Str.mk #[71]) = 2 := by decide +kernel
theorem sb_98_82 : subF (Str.mk #[98]) (Str.mk #[82]) = 2 := by decide +kernel
theorem sb_98_98 : subF (Str.mk #[98]) (Str.mk #[98]) = 0 := by decide +kernel
theorem sb_98_103 : subF (Str.mk #[98]) (Str.mk #[103]) = 2 := by decide +kernel
theorem sb_98_114 : subF (Str.mk #[98]) (Str.mk #[114]) = 2 := by decide +kernel
theorem sb_103_66 : subF (Str.mk #[103]) (Str.mk #[66]) = 2 := by decide +kernel
theorem sb_103_71 : subF (Str.mk #[103]) (Str.mk #[71]) = 1 := by decide +kernel
theorem sb_103_82 : subF (Str.mk #[103]) (Str.mk #[82]) = 2 := by decide +kernel
theorem sb_103_98 : subF (Str.mk #[103]) (Str.mk #[98]) = 2 := by decide +kernel
theorem sb_103_103 : subF (Str.mk #[103]) (Str.mk #[103]) = 0 := by decide +kernel
theorem sb_103_114 : subF (Str.mk #[103]) (Str.mk #[114]) = 2 := by decide +kernel
theorem sb_114_66 : subF (Str.mk #[114]) (Str.mk #[66]) = 2 := by decide +kernel
theorem sb_114_71 : subF (Str.mk #[114]) (Str.mk #[71]) = 2 := by decide +kernel
theorem sb_114_82 : subF (Str.mk #[114]) (Str.mk #[82]) = 1 := by decide +kernel
theorem sb_114_98 : subF (Str.mk #[114]) (Str.mk #[98]) = 2 := by decide +kernel
theorem sb_114_103 : subF (Str.mk #[114]) (Str.mk #[103]) = 2 := by decide +kernel
theorem sb_114_114 : subF (Str.mk #[114]) (Str.mk #[114]) = 0 := by decide +kernel
theorem lev_spec (w : World) (mean : ExcName → Option Value) (mg mb : Str → Option Value) (t1 t2 t3 : Tok) (news : List (Addr × Obj)) (i j : Int) (hi : 0 ≤ i ∧ i < 6) (hj : 0 ≤ j ∧ j < 6) :
    Spec w mean mg mb 60 2 16 news [.str (wd i) t1, .str (wd j) t2, .int 3 t3] (RetV news (fun t => .int (distI i j) t)) := by
  have h1 : i = 0 ∨ i = 1 ∨ i = 2 ∨ i = 3 ∨ i = 4 ∨ i = 5 := by omega
  have h2 : j = 0 ∨ j = 1 ∨ j = 2 ∨ j = 3 ∨ j = 4 ∨ j = 5 := by omega
  clear hi hj
  rcases h1 with rfl | rfl | rfl | rfl | rfl | rfl <;> rcases h2 with rfl | rfl | rfl | rfl | rfl | rfl
  · rw [show distI 0 0 = 0 from by decide]; exact lev_0 w mean mg mb t1 t2 t3 news _
  · rw [wdm0, wdm1, show distI 0 1 = 1 from by decide]; exact lev_2 w mean mg mb t1 t2 t3 news 82 103 98 71 (by decide) sb_71_103
  · rw [wdm0, wdm2, show distI 0 2 = 2 from by decide]; exact lev_4 w mean mg mb t1 t2 t3 news 82 103 98 114 71 (by decide) (by decide) sb_114_82 sb_114_103 sb_71_82 sb_71_103
  · rw [wdm0, wdm3, show distI 0 3 = 3 from by decide]; exact lev_67 w mean mg mb t1 t2 t3 news 82 103 98 114 71 66 1 2 3 4 6 (by decide) (by decide) (by decide) (by decide) sb_114_82 sb_114_103 sb_114_98 sb_71_82 sb_71_103 sb_71_98 sb_66_82 sb_66_103 sb_66_98 (by decide) (by decide) (by decide) (by decide) (by decide) (by decide) (by decide) (by decide) (by decide) (by decide)
  · rw [wdm0, wdm4, show distI 0 4 = 2 from by decide]; exact lev_67 w mean mg mb t1 t2 t3 news 82 103 98 114 103 66 0 1 2 3 5 (by decide) (by decide) (by decide) (by decide) sb_114_82 sb_114_103 sb_114_98 sb_103_82 sb_103_103 sb_103_98 sb_66_82 sb_66_103 sb_66_98 (by decide) (by decide) (by decide) (by decide) (by decide) (by decide) (by decide) (by decide) (by decide) (by decide)
  · rw [wdm0, wdm5, show distI 0 5 = 1 from by decide]; exact lev_3 w mean mg mb t1 t2 t3 news 82 103 98 66 (by decide) sb_66_98
  · rw [wdm1, wdm0, show distI 1 0 = 1 from by decide]; exact lev_2 w mean mg mb t1 t2 t3 news 82 71 98 103 (by decide) sb_103_71
  · rw [show distI 1 1 = 0 from by decide]; exact lev_0 w mean mg mb t1 t2 t3 news _
  · rw [wdm1, wdm2, show distI 1 2 = 1 from by decide]; exact lev_1 w mean mg mb t1 t2 t3 news 82 71 98 114 (by decide) sb_114_82
  · rw [wdm1, wdm3, show distI 1 3 = 2 from by decide]; exact lev_67 w mean mg mb t1 t2 t3 news 82 71 98 114 71 66 0 1 2 3 5 (by decide) (by decide) (by decide) (by decide) sb_114_82 sb_114_71 sb_114_98 sb_71_82 sb_71_71 sb_71_98 sb_66_82 sb_66_71 sb_66_98 (by decide) (by decide) (by decide) (by decide) (by decide) (by decide) (by decide) (by decide) (by decide) (by decide)
  · rw [wdm1, wdm4, show distI 1 4 = 3 from by decide]; exact lev_67 w mean mg mb t1 t2 t3 news 82 71 98 114 103 66 1 2 3 4 6 (by decide) (by decide) (by decide) (by decide) sb_114_82 sb_114_71 sb_114_98 sb_103_82 sb_103_71 sb_103_98 sb_66_82 sb_66_71 sb_66_98 (by decide) (by decide) (by decide) (by decide) (by decide) (by decide) (by decide) (by decide) (by decide) (by decide)
  · rw [wdm1, wdm5, show distI 1 5 = 2 from by decide]; exact lev_5 w mean mg mb t1 t2 t3 news 82 71 98 103 66 (by decide) (by decide) sb_103_71 sb_103_98 sb_66_71 sb_66_98
  · rw [wdm2, wdm0, show distI 2 0 = 2 from by decide]; exact lev_4 w mean mg mb t1 t2 t3 news 114 71 98 82 103 (by decide) (by decide) sb_82_114 sb_82_71 sb_103_114 sb_103_71
  · rw [wdm2, wdm1, show distI 2 1 = 1 from by decide]; exact lev_1 w mean mg mb t1 t2 t3 news 114 71 98 82 (by decide) sb_82_114
  · rw [show distI 2 2 = 0 from by decide]; exact lev_0 w mean mg mb t1 t2 t3 news _
  · rw [wdm2, wdm3, show distI 2 3 = 1 from by decide]; exact lev_3 w mean mg mb t1 t2 t3 news 114 71 98 66 (by decide) sb_66_98
  · rw [wdm2, wdm4, show distI 2 4 = 2 from by decide]; exact lev_5 w mean mg mb t1 t2 t3 news 114 71 98 103 66 (by decide) (by decide) sb_103_71 sb_103_98 sb_66_71 sb_66_98
  · rw [wdm2, wdm5, show distI 2 5 = 3 from by decide]; exact lev_67 w mean mg mb t1 t2 t3 news 114 71 98 82 103 66 1 2 3 4 6 (by decide) (by decide) (by decide) (by decide) sb_82_114 sb_82_71 sb_82_98 sb_103_114 sb_103_71 sb_103_98 sb_66_114 sb_66_71 sb_66_98 (by decide) (by decide) (by decide) (by decide) (by decide) (by decide) (by decide) (by decide) (by decide) (by decide)
  · rw [wdm3, wdm0, show distI 3 0 = 3 from by decide]; exact lev_67 w mean mg mb t1 t2 t3 news 114 71 66 82 103 98 1 2 3 4 6 (by decide) (by decide) (by decide) (by decide) sb_82_114 sb_82_71 sb_82_66 sb_103_114 sb_103_71 sb_103_66 sb_98_114 sb_98_71 sb_98_66 (by decide) (by decide) (by decide) (by decide) (by decide) (by decide) (by decide) (by decide) (by decide) (by decide)
  · rw [wdm3, wdm1, show distI 3 1 = 2 from by decide]; exact lev_67 w mean mg mb t1 t2 t3 news 114 71 66 82 71 98 0 1 2 3 5 (by decide) (by decide) (by decide) (by decide) sb_82_114 sb_82_71 sb_82_66 sb_71_114 sb_71_71 sb_71_66 sb_98_114 sb_98_71 sb_98_66 (by decide) (by decide) (by decide) (by decide) (by decide) (by decide) (by decide) (by decide) (by decide) (by decide)
  · rw [wdm3, wdm2, show distI 3 2 = 1 from by decide]; exact lev_3 w mean mg mb t1 t2 t3 news 114 71 66 98 (by decide) sb_98_66
  · rw [show distI 3 3 = 0 from by decide]; exact lev_0 w mean mg mb t1 t2 t3 news _
  · rw [wdm3, wdm4, show distI 3 4 = 1 from by decide]; exact lev_2 w mean mg mb t1 t2 t3 news 114 71 66 103 (by decide) sb_103_71
  · rw [wdm3, wdm5, show distI 3 5 = 2 from by decide]; exact lev_4 w mean mg mb t1 t2 t3 news 114 71 66 82 103 (by decide) (by decide) sb_82_114 sb_82_71 sb_103_114 sb_103_71
  · rw [wdm4, wdm0, show distI 4 0 = 2 from by decide]; exact lev_67 w mean mg mb t1 t2 t3 news 114 103 66 82 103 98 0 1 2 3 5 (by decide) (by decide) (by decide) (by decide) sb_82_114 sb_82_103 sb_82_66 sb_103_114 sb_103_103 sb_103_66 sb_98_114 sb_98_103 sb_98_66 (by decide) (by decide) (by decide) (by decide) (by decide) (by decide) (by decide) (by decide) (by decide) (by decide)
  · rw [wdm4, wdm1, show distI 4 1 = 3 from by decide]; exact lev_67 w mean mg mb t1 t2 t3 news 114 103 66 82 71 98 1 2 3 4 6 (by decide) (by decide) (by decide) (by decide) sb_82_114 sb_82_103 sb_82_66 sb_71_114 sb_71_103 sb_71_66 sb_98_114 sb_98_103 sb_98_66 (by decide) (by decide) (by decide) (by decide) (by decide) (by decide) (by decide) (by decide) (by decide) (by decide)
  · rw [wdm4, wdm2, show distI 4 2 = 2 from by decide]; exact lev_5 w mean mg mb t1 t2 t3 news 114 103 66 71 98 (by decide) (by decide) sb_71_103 sb_71_66 sb_98_103 sb_98_66
  · rw [wdm4, wdm3, show distI 4 3 = 1 from by decide]; exact lev_2 w mean mg mb t1 t2 t3 news 114 103 66 71 (by decide) sb_71_103
  · rw [show distI 4 4 = 0 from by decide]; exact lev_0 w mean mg mb t1 t2 t3 news _
  · rw [wdm4, wdm5, show distI 4 5 = 1 from by decide]; exact lev_1 w mean mg mb t1 t2 t3 news 114 103 66 82 (by decide) sb_82_114
  · rw [wdm5, wdm0, show distI 5 0 = 1 from by decide]; exact lev_3 w mean mg mb t1 t2 t3 news 82 103 66 98 (by decide) sb_98_66
  · rw [wdm5, wdm1, show distI 5 1 = 2 from by decide]; exact lev_5 w mean mg mb t1 t2 t3 news 82 103 66 71 98 (by decide) (by decide) sb_71_103 sb_71_66 sb_98_103 sb_98_66
  · rw [wdm5, wdm2, show distI 5 2 = 3 from by decide]; exact lev_67 w mean mg mb t1 t2 t3 news 82 103 66 114 71 98 1 2 3 4 6 (by decide) (by decide) (by decide) (by decide) sb_114_82 sb_114_103 sb_114_66 sb_71_82 sb_71_103 sb_71_66 sb_98_82 sb_98_103 sb_98_66 (by decide) (by decide) (by decide) (by decide) (by decide) (by decide) (by decide) (by decide) (by decide) (by decide)
  · rw [wdm5, wdm3, show distI 5 3 = 2 from by decide]; exact lev_4 w mean mg mb t1 t2 t3 news 82 103 66 114 71 (by decide) (by decide) sb_114_82 sb_114_103 sb_71_82 sb_71_103
  · rw [wdm5, wdm4, show distI 5 4 = 1 from by decide]; exact lev_1 w mean mg mb t1 t2 t3 news 82 103 66 114 (by decide) sb_114_82
  · rw [show distI 5 5 = 0 from by decide]; exact lev_0 w mean mg mb t1 t2 t3 news _
end
section
theorem words_17 : True := by
  k_with_none
  k_with "storeName" => (k_here; (with_reducible show wpAny _ _ (storeName (envOf _ _ _ _) _ _) _ _ _); k_dflt (refine' stG ?FhW ?NhW ?_ ?ahW ?bhW; (case FhW => k_asm); (case NhW => k_asm); (case ahW => rfl); (case bhW => rfl); k_whole; intro hxW tkxW FxW NxW; (try k_sweep)))
  k_with "binaryOp Add int int" => (refine r_add (by ((try simp only [Int.reduceAdd, Int.reduceSub, Int.reduceNeg]); exact rfl)) ?_)
  k_with "binaryOp Sub int int" => (refine r_sub (by ((try simp only [Int.reduceAdd, Int.reduceSub, Int.reduceNeg]); exact rfl)) ?_)
  k_with "inplaceOp Add int int" => (refine r_iadd (by ((try simp only [Int.reduceAdd, Int.reduceSub, Int.reduceNeg]); exact rfl)) ?_)
  k_with "inplaceOp Sub int int" => (refine r_isub (by ((try simp only [Int.reduceAdd, Int.reduceSub, Int.reduceNeg]); exact rfl)) ?_)
  k_with "execs cons" => (k_here; (with_reducible show wpAny _ _ _ _ _ (Shared.mk _ _ _ (_ + _) _)); refine genT ?_; intro tkW)
  k_with "execs nil" => (k_here; (with_reducible show wpAny _ _ _ _ _ (Shared.mk _ _ _ (_ + _) _)); refine genT ?_; intro tkW)
  k_with "binaryOp Mult int int" => (refine r_mul (by ((try simp only [Int.reduceAdd, Int.reduceSub, Int.reduceNeg, Int.reduceMul]); exact rfl)) (by mul_fits) ?_)
  k_with "ite" => (k_closed; (first | with_reducible refine ite_posI (by decide) ?_ | with_reducible refine ite_negI (by decide) ?_))
  k_with "eval Name" => (k_here; (with_reducible show wpAny _ _ (eval (Expr.Name _ _) (envOfC _ _ _ _ _)) _ _ _); (first | (with_reducible refine' nmC_range (w := _) ?k1hW ?k2hW ?k3hW ?k4hW ?k5hW ?_) | (with_reducible refine' nmC_min (w := _) ?k1hW ?k2hW ?k3hW ?k4hW ?k5hW ?_) | (with_reducible refine' nmC_round (w := _) ?k1hW ?k2hW ?k3hW ?k4hW ?k5hW ?_) | (with_reducible refine' nmC_rgbtohls (w := _) ?k1hW ?k2hW ?k3hW ?k4hW ?k5hW ?_) | (with_reducible refine' nmC_rgbtohsv (w := _) ?k1hW ?k2hW ?k3hW ?k4hW ?k5hW ?_)); (case k1hW => k_asm); (case k2hW => k_asm); (case k3hW => k_asm); (case k4hW => decide +kernel); (case k5hW => first | exact rfl | assumption); k_whole)
  k_with "eval Name" => (k_here; (with_reducible show wpAny _ _ (eval (Expr.Name _ _) (compEnvC _ _ _ _)) _ _ _); (first | (with_reducible refine' nmK_min (w := _) ?k1hW ?k2hW ?k3hW ?k4hW ?k5hW ?k6hW ?k7hW ?_) | (with_reducible refine' nmK_abs (w := _) ?k1hW ?k2hW ?k3hW ?k4hW ?k5hW ?k6hW ?k7hW ?_) | (with_reducible refine' nmK_levenshteindistance (w := _) ?k1hW ?k2hW ?k3hW ?k4hW ?k5hW ?k6hW ?k7hW ?_) | (with_reducible refine' nmK_lawtold (w := _) ?k1hW ?k2hW ?k3hW ?k4hW ?k5hW ?k6hW ?k7hW ?_) | (with_reducible refine' nmK_lawleast (w := _) ?k1hW ?k2hW ?k3hW ?k4hW ?k5hW ?k6hW ?k7hW ?_)); (case k1hW => k_asm); (case k2hW => k_asm); (case k3hW => k_asm); (case k4hW => k_dflt (exact rfl)); (case k5hW => k_dflt (exact rfl)); (case k6hW => k_dflt (exact rfl)); (case k7hW => k_dflt (exact rfl)); k_whole)
  k_with "eval Name" => (k_here; (with_reducible show wpAny _ _ (eval (Expr.Name _ _) (compEnvC _ _ _ _)) _ _ _); k_dflt (refine' kOwn ?k1hW ?k2hW ?k3hW ?k4hW ?k5hW ?k6hW ?k7hW ?_; (case k2hW => exact rfl); (case k1hW => k_asm); (case k3hW => k_mem); (case k4hW => assumption); (case k5hW => assumption); (case k6hW => exact rfl); (case k7hW => decide); k_whole))
  k_with "eval Name" => (k_here; (with_reducible show wpAny _ _ (eval (Expr.Name _ _) (compEnvC _ _ _ _)) _ _ _); k_dflt (refine' kFree ?k1hW ?k2hW ?k3hW ?k4hW ?k5hW ?k6hW ?k7hW ?k8hW ?_; (case k2hW => exact rfl); (case k1hW => k_asm); (case k3hW => exact rfl); (case k4hW => k_mem); (case k5hW => k_asm); (case k6hW => exact rfl); (case k7hW => decide); (case k8hW => decide); k_whole))
  k_with "eval Name" => (k_here; (with_reducible show wpAny _ _ (eval (Expr.Name _ _) (envOfC _ _ _ _ _)) _ _ _); k_dflt (refine' cC ?k1hW ?k2hW ?k3hW ?k4hW ?k5hW ?k6hW ?k7hW ?_; (case k2hW => exact rfl); (case k1hW => k_asm); (case k3hW => exact rfl); (case k4hW => k_mem); (case k5hW => k_asm); (case k6hW => exact rfl); (case k7hW => decide); k_whole))
  k_with "eval Name" => (k_here; (with_reducible show wpAny _ _ (eval (Expr.Name _ _) (envOfC _ _ _ _ _)) _ _ _); k_dflt (refine' cL ?k1hW ?k2hW ?k3hW ?k4hW ?k5hW ?_; (case k2hW => exact rfl); (case k1hW => k_asm); (case k3hW => exact rfl); (case k4hW => exact rfl); (case k5hW => decide); k_whole))
  k_with "storeName" => (k_here; (with_reducible show wpAny _ _ (storeName (envOfC _ _ _ _ _) _ _) _ _ _); k_dflt (refine' sC ?k1hW ?k2hW ?k3hW ?k4hW ?k5hW ?k6hW ?k7hW ?_; (case k3hW => exact rfl); (case k1hW => k_asm); (case k2hW => k_asm); (case k4hW => exact rfl); (case k5hW => k_updF); (case k6hW => k_asm); (case k7hW => exact rfl); k_whole; intro hxW oxW tkxW FxW NxW dxW; (try dsimp only at NxW); (try k_sweep)))
  k_with "storeName" => (k_here; (with_reducible show wpAny _ _ (storeName (envOfC _ _ _ _ _) _ _) _ _ _); k_dflt (refine' sL ?k1hW ?k2hW ?k3hW ?k4hW ?_; (case k3hW => exact rfl); (case k1hW => k_asm); (case k2hW => k_asm); (case k4hW => exact rfl); k_whole; intro hxW tkxW FxW NxW; (try k_sweep)))
  k_with "exec Assign" => (k_here; (with_reducible show wpAny _ _ (exec (Stmt.Assign [Expr.Name _ _] _ _) _) _ _ _); refine wpAny_Assign_Name ?_)
  k_with "exec Assign cons ListComp" => (k_here; (with_reducible show wpAny _ _ (exec (Stmt.Assign [Expr.Name _ _] _ _) (envOfC _ _ _ _ _)) _ _ _); k_dflt (refine' aComp ?k1hW ?_; (case k1hW => exact rfl)))
  k_with "subscriptTail Name Constant ref int" => (k_here; (with_reducible rename News _ _ _ _ => NxW); (with_unfolding_all refine r_rowC NxW (by k_mem) (by decide) (by decide) (by exact rfl) ?_))
  k_with "subscriptTail Name Name ref int" => (k_here; (with_reducible rename News _ _ _ _ => NxW); (with_unfolding_all refine r_rowN NxW (by k_mem) (by decide) (by decide) (by exact rfl) ?_))
  k_with "subscriptTail Constant Name str int" => (k_here; refine r_itemK (by first | exact (by decide : Txt.item (Str.ofString "RGB") 0 = Str.mk #[82]) | exact (by decide : Txt.item (Str.ofString "RGB") 1 = Str.mk #[71]) | exact (by decide : Txt.item (Str.ofString "RGB") 2 = Str.mk #[66]) | exact (by decide : Txt.item (Str.ofString "rgb") 0 = Str.mk #[114]) | exact (by decide : Txt.item (Str.ofString "rgb") 1 = Str.mk #[103]) | exact (by decide : Txt.item (Str.ofString "rgb") 2 = Str.mk #[98])) (by decide) (by decide) (by decide) ?_)
  k_with "CompRest" => (with_unfolding_all first | (refine LCg.CompRest.succ ?_; intro vxW IxW oIxW CxW oCxW DxW mxW hxW tkxW ExW hvxW hCxW hxxW FxW NxW offxW nexW; (obtain ⟨t9xW, hv9xW⟩ := hvxW; subst hv9xW); (try simp only [w00, w01, w02, w03, w04, w05, List.getD_cons_zero, List.getD_cons_succ] at hxxW); (have off9xW := offxW); (try simp only [LCg.Off3, and_true] at offxW)) | refine LCg.CompRest.zero ?_)
  k_with "CompSrc" => (k_here; k_dflt (refine LCg.CompSrc.range (by rfl) (by k_asm) (by k_asm) (by assumption) (by first | decide | rfl) (by first | rfl | decide) (by first | size_fits | exact Nat.le_of_ble_eq_true rfl) ?_; intro gxW; lcg_lit))
  k_with "CompSrc" => (k_here; k_dflt (refine LCg.CompSrc.ledger (by rfl) (by k_asm) (by k_asm) (by k_mem) (by first | size_fits | exact Nat.le_of_ble_eq_true rfl) ?_; intro gxW; lcg_lit))
  k_with "compareOp Eq ref ref" => (k_here; (with_reducible show wpAny _ _ (compareOp CmpOp.Eq (Value.ref _) (Value.ref _)) _ _ _); (with_reducible rename News _ _ _ _ => NxW); k_dflt (refine r_rowsEq NxW (RowsAre.mono (by intro pW hpW; (exact List.mem_cons_of_mem _ (List.mem_cons_of_mem _ (List.mem_cons_of_mem _ ‹_›)))) (by assumption)) (T := _) (U := []) (us := []) trivial (by (first | k_mem | (repeat (first | assumption | refine List.mem_cons_of_mem _ ?_)))) (by (first | k_mem | (repeat (first | assumption | refine List.mem_cons_of_mem _ ?_)))) (by units_room) (by first | (with_reducible assumption) | exact rfl) ?_))
  trivial
theorem least_nil (w : World) (mean : ExcName → Option Value) (mg mb : Str → Option Value) (tb lf : Addr) (n : Nat) (vs : List Value) (T : List (List Int)) (news : List (Addr × Obj)) (hm : (tb, listOf vs.toArray n) ∈ news) (hv : RowsAre news vs T) (hT : decide (T = []) = true) (uN : Nat) (hun : 80 ≤ uN) :
    Spec w mean mg mb 70 2 uN news [.ref tb, .ref lf] (RetV news (fun t => .int 0 t)) := by
  dsimp only [Spec]
  w_top off
  k_fill
  intro dp un gd cn cs af ccd cl outer A₀ base h₀ L m s Q E B F X N Tp hk hd hu hret
  have hu' : un + 80 < cLine := by omega
  refine wpAny_call ?_
  (refine' code_defC ?k1 ?k2 ?k3 ?k4 ?k5 ?kA ?kF ?kK ?k6 ?k7 ?k8 ?k9 ?kB ?kD ?_ ?c2 ?c3 ?c4; (case kA => exact rfl); (case kF => exact rfl); (case kK => assumption); (case k1 => k_asm); (case k2 => k_asm); (case k3 => k_asm); (case k4 => k_asm); (case k5 => k_asm); (case k6 => k_is); (case k7 => k_is); (case k8 => ktr_room); (case k9 => exact BindsTo.of_eq rfl); (case kB => exact rfl); (case kD => decide +kernel); (case c2 => exact rfl); (case c3 => exact rfl); (case c4 => exact rfl); k_whole; intro g' L' h' tk' cells' FG' F' N' Y' B' X' T' l1; k_cells Y'; (try simp only [List.cons_append, List.nil_append] at N'); (try dsimp only); (try k_lift B'); (try k_fold))
  k_steps
  all_goals (refine retI hret (by k_asm) (fun p hp => (‹News h₀ L _ (_ :: _ :: _ :: news)› : News h₀ L _ (_ :: _ :: _ :: news)) p ?_) rfl; exact List.mem_cons_of_mem _ (List.mem_cons_of_mem _ (List.mem_cons_of_mem _ hp)))
theorem words_18 : True := by
  k_with_none
  k_with "storeName" => (k_here; (with_reducible show wpAny _ _ (storeName (envOf _ _ _ _) _ _) _ _ _); k_dflt (refine' stG ?FhW ?NhW ?_ ?ahW ?bhW; (case FhW => k_asm); (case NhW => k_asm); (case ahW => rfl); (case bhW => rfl); k_whole; intro hxW tkxW FxW NxW; (try k_sweep)))
  k_with "binaryOp Add int int" => (refine r_add (by ((try simp only [Int.reduceAdd, Int.reduceSub, Int.reduceNeg]); exact rfl)) ?_)
  k_with "binaryOp Sub int int" => (refine r_sub (by ((try simp only [Int.reduceAdd, Int.reduceSub, Int.reduceNeg]); exact rfl)) ?_)
  k_with "inplaceOp Add int int" => (refine r_iadd (by ((try simp only [Int.reduceAdd, Int.reduceSub, Int.reduceNeg]); exact rfl)) ?_)
  k_with "inplaceOp Sub int int" => (refine r_isub (by ((try simp only [Int.reduceAdd, Int.reduceSub, Int.reduceNeg]); exact rfl)) ?_)
  k_with "execs cons" => (k_here; (with_reducible show wpAny _ _ _ _ _ (Shared.mk _ _ _ (_ + _) _)); refine genT ?_; intro tkW)
  k_with "execs nil" => (k_here; (with_reducible show wpAny _ _ _ _ _ (Shared.mk _ _ _ (_ + _) _)); refine genT ?_; intro tkW)
  k_with "binaryOp Mult int int" => (refine r_mul (by ((try simp only [Int.reduceAdd, Int.reduceSub, Int.reduceNeg, Int.reduceMul]); exact rfl)) (by mul_fits) ?_)
  k_with "ite" => (k_closed; (first | with_reducible refine ite_posI (by decide) ?_ | with_reducible refine ite_negI (by decide) ?_))
  k_with "eval Name" => (k_here; (with_reducible show wpAny _ _ (eval (Expr.Name _ _) (envOfC _ _ _ _ _)) _ _ _); (first | (with_reducible refine' nmC_range (w := _) ?k1hW ?k2hW ?k3hW ?k4hW ?k5hW ?_) | (with_reducible refine' nmC_min (w := _) ?k1hW ?k2hW ?k3hW ?k4hW ?k5hW ?_) | (with_reducible refine' nmC_round (w := _) ?k1hW ?k2hW ?k3hW ?k4hW ?k5hW ?_) | (with_reducible refine' nmC_rgbtohls (w := _) ?k1hW ?k2hW ?k3hW ?k4hW ?k5hW ?_) | (with_reducible refine' nmC_rgbtohsv (w := _) ?k1hW ?k2hW ?k3hW ?k4hW ?k5hW ?_)); (case k1hW => k_asm); (case k2hW => k_asm); (case k3hW => k_asm); (case k4hW => decide +kernel); (case k5hW => first | exact rfl | assumption); k_whole)
  k_with "eval Name" => (k_here; (with_reducible show wpAny _ _ (eval (Expr.Name _ _) (compEnvC _ _ _ _)) _ _ _); (first | (with_reducible refine' nmK_min (w := _) ?k1hW ?k2hW ?k3hW ?k4hW ?k5hW ?k6hW ?k7hW ?_) | (with_reducible refine' nmK_abs (w := _) ?k1hW ?k2hW ?k3hW ?k4hW ?k5hW ?k6hW ?k7hW ?_) | (with_reducible refine' nmK_levenshteindistance (w := _) ?k1hW ?k2hW ?k3hW ?k4hW ?k5hW ?k6hW ?k7hW ?_) | (with_reducible refine' nmK_lawtold (w := _) ?k1hW ?k2hW ?k3hW ?k4hW ?k5hW ?k6hW ?k7hW ?_) | (with_reducible refine' nmK_lawleast (w := _) ?k1hW ?k2hW ?k3hW ?k4hW ?k5hW ?k6hW ?k7hW ?_)); (case k1hW => k_asm); (case k2hW => k_asm); (case k3hW => k_asm); (case k4hW => k_dflt (exact rfl)); (case k5hW => k_dflt (exact rfl)); (case k6hW => k_dflt (exact rfl)); (case k7hW => k_dflt (exact rfl)); k_whole)
  k_with "eval Name" => (k_here; (with_reducible show wpAny _ _ (eval (Expr.Name _ _) (compEnvC _ _ _ _)) _ _ _); k_dflt (refine' kOwn ?k1hW ?k2hW ?k3hW ?k4hW ?k5hW ?k6hW ?k7hW ?_; (case k2hW => exact rfl); (case k1hW => k_asm); (case k3hW => k_mem); (case k4hW => assumption); (case k5hW => assumption); (case k6hW => exact rfl); (case k7hW => decide); k_whole))
  k_with "eval Name" => (k_here; (with_reducible show wpAny _ _ (eval (Expr.Name _ _) (compEnvC _ _ _ _)) _ _ _); k_dflt (refine' kFree ?k1hW ?k2hW ?k3hW ?k4hW ?k5hW ?k6hW ?k7hW ?k8hW ?_; (case k2hW => exact rfl); (case k1hW => k_asm); (case k3hW => exact rfl); (case k4hW => k_mem); (case k5hW => k_asm); (case k6hW => exact rfl); (case k7hW => decide); (case k8hW => decide); k_whole))
  k_with "eval Name" => (k_here; (with_reducible show wpAny _ _ (eval (Expr.Name _ _) (envOfC _ _ _ _ _)) _ _ _); k_dflt (refine' cC ?k1hW ?k2hW ?k3hW ?k4hW ?k5hW ?k6hW ?k7hW ?_; (case k2hW => exact rfl); (case k1hW => k_asm); (case k3hW => exact rfl); (case k4hW => k_mem); (case k5hW => k_asm); (case k6hW => exact rfl); (case k7hW => decide); k_whole))
  k_with "eval Name" => (k_here; (with_reducible show wpAny _ _ (eval (Expr.Name _ _) (envOfC _ _ _ _ _)) _ _ _); k_dflt (refine' cL ?k1hW ?k2hW ?k3hW ?k4hW ?k5hW ?_; (case k2hW => exact rfl); (case k1hW => k_asm); (case k3hW => exact rfl); (case k4hW => exact rfl); (case k5hW => decide); k_whole))
  k_with "storeName" => (k_here; (with_reducible show wpAny _ _ (storeName (envOfC _ _ _ _ _) _ _) _ _ _); k_dflt (refine' sC ?k1hW ?k2hW ?k3hW ?k4hW ?k5hW ?k6hW ?k7hW ?_; (case k3hW => exact rfl); (case k1hW => k_asm); (case k2hW => k_asm); (case k4hW => exact rfl); (case k5hW => k_updF); (case k6hW => k_asm); (case k7hW => exact rfl); k_whole; intro hxW oxW tkxW FxW NxW dxW; (try dsimp only at NxW); (try k_sweep)))
  k_with "storeName" => (k_here; (with_reducible show wpAny _ _ (storeName (envOfC _ _ _ _ _) _ _) _ _ _); k_dflt (refine' sL ?k1hW ?k2hW ?k3hW ?k4hW ?_; (case k3hW => exact rfl); (case k1hW => k_asm); (case k2hW => k_asm); (case k4hW => exact rfl); k_whole; intro hxW tkxW FxW NxW; (try k_sweep)))
  k_with "exec Assign" => (k_here; (with_reducible show wpAny _ _ (exec (Stmt.Assign [Expr.Name _ _] _ _) _) _ _ _); refine wpAny_Assign_Name ?_)
  k_with "exec Assign cons ListComp" => (k_here; (with_reducible show wpAny _ _ (exec (Stmt.Assign [Expr.Name _ _] _ _) (envOfC _ _ _ _ _)) _ _ _); k_dflt (refine' aComp ?k1hW ?_; (case k1hW => exact rfl)))
  k_with "subscriptTail Name Constant ref int" => (k_here; (with_reducible rename News _ _ _ _ => NxW); (with_unfolding_all refine r_rowC NxW (by k_mem) (by decide) (by decide) (by exact rfl) ?_))
  k_with "subscriptTail Name Name ref int" => (k_here; (with_reducible rename News _ _ _ _ => NxW); (with_unfolding_all refine r_rowN NxW (by k_mem) (by decide) (by decide) (by exact rfl) ?_))
  k_with "subscriptTail Constant Name str int" => (k_here; refine r_itemK (by first | exact (by decide : Txt.item (Str.ofString "RGB") 0 = Str.mk #[82]) | exact (by decide : Txt.item (Str.ofString "RGB") 1 = Str.mk #[71]) | exact (by decide : Txt.item (Str.ofString "RGB") 2 = Str.mk #[66]) | exact (by decide : Txt.item (Str.ofString "rgb") 0 = Str.mk #[114]) | exact (by decide : Txt.item (Str.ofString "rgb") 1 = Str.mk #[103]) | exact (by decide : Txt.item (Str.ofString "rgb") 2 = Str.mk #[98])) (by decide) (by decide) (by decide) ?_)
  k_with "CompRest" => (with_unfolding_all first | (refine LCg.CompRest.succ ?_; intro vxW IxW oIxW CxW oCxW DxW mxW hxW tkxW ExW hvxW hCxW hxxW FxW NxW offxW nexW; (obtain ⟨t9xW, hv9xW⟩ := hvxW; subst hv9xW); (try simp only [w00, w01, w02, w03, w04, w05, List.getD_cons_zero, List.getD_cons_succ] at hxxW); (have off9xW := offxW); (try simp only [LCg.Off3, and_true] at offxW)) | refine LCg.CompRest.zero ?_)
  k_with "CompSrc" => (k_here; k_dflt (refine LCg.CompSrc.range (by rfl) (by k_asm) (by k_asm) (by assumption) (by first | decide | rfl) (by first | rfl | decide) (by first | size_fits | exact Nat.le_of_ble_eq_true rfl) ?_; intro gxW; lcg_lit))
  k_with "CompSrc" => (k_here; k_dflt (refine LCg.CompSrc.ledger (by rfl) (by k_asm) (by k_asm) (by k_mem) (by first | size_fits | exact Nat.le_of_ble_eq_true rfl) ?_; intro gxW; lcg_lit))
  k_with "compareOp Eq ref ref" => (k_here; (with_reducible show wpAny _ _ (compareOp CmpOp.Eq (Value.ref _) (Value.ref _)) _ _ _); (with_reducible rename News _ _ _ _ => NxW); k_dflt (refine r_rowsEq NxW (RowsAre.mono (by intro pW hpW; (exact List.mem_cons_of_mem _ (List.mem_cons_of_mem _ (List.mem_cons_of_mem _ ‹_›)))) (by assumption)) (T := _) (U := []) (us := []) trivial (by (first | k_mem | (repeat (first | assumption | refine List.mem_cons_of_mem _ ?_)))) (by (first | k_mem | (repeat (first | assumption | refine List.mem_cons_of_mem _ ?_)))) (by units_room) (by first | (with_reducible assumption) | exact rfl) ?_))
  k_with "eval ListComp" => (k_here; (with_reducible show wpAny _ _ (eval (Expr.ListComp (Expr.BinOp _ _ _ _) [⟨_, Expr.Name _ _, _, _⟩] _ _) _) _ _ _); k_dflt (refine ListComp_C (F₀ := by k_asm) (by with_unfolding_all rfl) (fun _ _ => rfl) (fun _ => rfl) (by rfl) (by decide) (by rfl) ?_))
  k_with "subscriptTail Name Constant ref int" => (k_here; (with_reducible rename News _ _ _ _ => NxW); (with_unfolding_all refine r_rowC NxW (by (first | k_mem | (repeat (first | assumption | refine List.mem_cons_of_mem _ ?_)))) (by decide) (by decide) (by exact rfl) ?_))
  k_with "subscriptTail" => (k_here; (with_reducible show wpAny _ _ (subscriptTail _ (Expr.Name _ _) (Value.ref _) (Value.int _ _)) _ _ _); (with_reducible rename News _ _ _ _ => NxW); k_dflt (refine r_rowI NxW (by (first | k_mem | (repeat (first | assumption | refine List.mem_cons_of_mem _ ?_)))) (by assumption) (by assumption) (by assumption) (by assumption) ?_; intro t9xW))
  k_with "subscriptTail Name Slice ref ref" => (k_here; (with_reducible show wpAny _ _ (subscriptTail _ (PySem.Expr.Slice _ _ none _) (Value.ref _) (Value.ref _)) _ _ _); (with_reducible rename News _ _ _ _ => NxW); k_dflt (refine' kmk_slice_lit ?FhW ?NhW (News.isList NxW (by (first | k_mem | (repeat (first | assumption | refine List.mem_cons_of_mem _ ?_))))) ?phW ?qhW (pick_tail2 _ _) ?_ ?shW ?thW ?zhW; (case FhW => k_asm); (case NhW => k_asm); (case phW => kmk_part); (case qhW => kmk_part); (case shW => with_unfolding_all rfl); (case thW => kmk_pure); (case zhW => assumption)); intro DxW hxW FxW NxW l1W)
  k_with "eval ListComp" => (k_here; (with_reducible show wpAny _ _ (eval (Expr.ListComp (Expr.Name _ _) [⟨_, Expr.Name _ _, [_], _⟩] _ _) _) _ _ _); k_dflt (refine LCt.ListComp_T (F₀ := by k_asm) (by with_unfolding_all rfl) (by decide) (by rfl) (by decide) (by rfl) ?_))
  k_with "CompSrcT" => (k_here; (with_reducible rename News _ _ _ _ => NxW); k_dflt (refine LCt.CompSrcT.ledger (by rfl) (by k_asm) NxW (by (first | k_mem | (repeat (first | assumption | refine List.mem_cons_of_mem _ ?_)))) (by assumption) ?_))
  k_with "call ref" => (k_here; (with_reducible show wpAny _ _ (call (Value.ref 70) _) _ _ _); (with_reducible rename News _ _ _ _ => NxW); (with_reducible rename IntsAre _ _ => hIxW); k_dflt (refine' ‹∀ (news' : List (Addr × Obj)) (tb' lf' : Addr) (n' k' : Nat) (ls' : List Value) (j : Int), j ∈ _ → (tb', listOf (List.toArray _) n') ∈ news' → _› _ _ _ _ _ _ _ (by assumption) (by k_mem) (RowsAre.mono (fun p hp => by (repeat (first | exact hp | refine List.mem_cons_of_mem _ ?_))) (by assumption)) hIxW (by k_mem) _ _ _ _ _ _ _ _ _ _ _ _ _ _ _ _ _ ?k1hW ?k2hW NxW ?k4hW ?k5hW ?kKhW ?kdhW ?kuhW ?_; (case k1hW => k_asm); (case k2hW => k_asm); (case k4hW => k_asm); (case k5hW => k_asm); (case kKhW => first | exact rfl | assumption); (case kdhW => ktr_room); (case kuhW => ktr_units); intro t9W h9W tk9W F9W N9W))
  trivial
theorem least_cons (w : World) (mean : ExcName → Option Value) (mg mb : Str → Option Value) (tb lf : Addr) (n k : Nat) (r : List Int) (T : List (List Int)) (v : Value) (vs ls : List Value) (left : List Int) (news : List (Addr × Obj)) (hm : (tb, listOf (v :: vs).toArray n) ∈ news) (hv : RowsAre news (v :: vs) (r :: T)) (hT : decide (r :: T = []) = false) (uN : Nat) (hun : 80 ≤ uN)
    (hls : IntsAre ls left) (hml : (lf, listOf ls.toArray k) ∈ news) (hlen : left.length ≤ 8) (hne : 0 < left.length) (hj : ∀ j ∈ left, 0 ≤ j ∧ j < r.length) (hr8 : r.length ≤ 100) (hz8 : (v :: vs).toArray.size ≤ sizeLine) (dI : Nat)
    (ih : ∀ (news' : List (Addr × Obj)) (tb' lf' : Addr) (n' k' : Nat) (ls' : List Value) (j : Int), j ∈ left → (tb', listOf vs.toArray n') ∈ news' → RowsAre news' vs T → IntsAre ls' (left.filter fun k => !decide (k = j)) → (lf', listOf ls'.toArray k') ∈ news' →
      Spec w mean mg mb 70 dI uN news' [.ref tb', .ref lf'] (RetV news' (fun t => .int (leastV T (left.filter fun k => !decide (k = j))) t))) :
    Spec w mean mg mb 70 (dI + 1) (uN + 16) news [.ref tb, .ref lf] (RetV news (fun t => .int (leastV (r :: T) left) t)) := by
  dsimp only [Spec]
  w_top off
  k_fill
  intro dp un gd cn cs af ccd cl outer A₀ base h₀ L m s Q E B F X N Tp hk hd hu hret
  obtain ⟨⟨ra, rvs, c, rfl, hra, hri⟩, hv'⟩ := id hv
  have hu' : un + 80 < cLine := by omega
  refine wpAny_call ?_
  (refine' code_defC ?k1 ?k2 ?k3 ?k4 ?k5 ?kA ?kF ?kK ?k6 ?k7 ?k8 ?k9 ?kB ?kD ?_ ?c2 ?c3 ?c4; (case kA => exact rfl); (case kF => exact rfl); (case kK => assumption); (case k1 => k_asm); (case k2 => k_asm); (case k3 => k_asm); (case k4 => k_asm); (case k5 => k_asm); (case k6 => k_is); (case k7 => k_is); (case k8 => ktr_room); (case k9 => exact BindsTo.of_eq rfl); (case kB => exact rfl); (case kD => decide +kernel); (case c2 => exact rfl); (case c3 => exact rfl); (case c4 => exact rfl); k_whole; intro g' L' h' tk' cells' FG' F' N' Y' B' X' T' l1; k_cells Y'; (try simp only [List.cons_append, List.nil_append] at N'); (try dsimp only); (try k_lift B'); (try k_fold))
  repeat' ((first | (k_unfold; (try dsimp only)) | (k_end; wrow_close) | walk1 | (dsimp only; walk1) | (leave1; walk_say "STEP leave1"; try dsimp only) | fail "no step"))
  rename News _ _ _ _ => N5
  refine SrcC.intro (its := ls.toArray) (n := k) (by with_unfolding_all rfl) (by k_asm) N5 (by (first | k_mem | (repeat (first | assumption | refine List.mem_cons_of_mem _ ?_)))) (by rw [List.size_toArray, hls.length, sizeLine_eq]; omega) ?_
  intro g5
  have hsz : ls.toArray.size = left.length := by rw [List.size_toArray, hls.length]
  refine restC_map (by (first | k_mem | (repeat (first | assumption | refine List.mem_cons_of_mem _ ?_)))) (fun i y => ∃ t, y = Value.int (r.getD (left.getD i 0).toNat 0 + leastV T (left.filter fun k => !decide (k = left.getD i 0))) t) ls.toArray.size ?turn ?fin ls.toArray.size 0 [] (by omega) rfl (by intro j y hy; simp at hy)
  case turn =>
    intro i v1 I oI K oK C oC D ys h1 tk1 E' hi hv1 hK F6 N6 off6 ne6
    obtain ⟨j, tj, rfl, hjx⟩ := hls.at i v1 (by simpa using hv1)
    have hjl : j ∈ left := List.mem_of_getElem? hjx
    have hj0 := (hj j hjl).1
    have hj1 := (hj j hjl).2
    have hjd : left.getD i 0 = j := by rw [List.getD_eq_getElem?_getD, hjx]; rfl
    rw [hjd]
    have hz9 : ls.toArray.size ≤ sizeLine := by rw [List.size_toArray, hls.length, sizeLine_eq]; omega
    repeat' ((first | (k_unfold; (try dsimp only)) | (k_end; wrow_close) | walk1 | (dsimp only; walk1) | (leave1; walk_say "STEP leave1"; try dsimp only) | fail "no step"))
    rename News _ _ _ _ => N8
    refine restT_filt (Or.inr ⟨_, by (first | k_mem | (repeat (first | assumption | refine List.mem_cons_of_mem _ ?_))), rfl, _, rfl⟩) (fun k => !decide (k = j)) left ?t1 ?t2 ?hP ?fin2 ls.toArray.size 0 [] (by rw [List.size_toArray, hls.length]; omega) .nil
    case hP =>
      intro i v hi hv
      obtain ⟨z, t, e, hz⟩ := hls.at i v (by simpa using hv)
      exact ⟨z, t, hz, e⟩
    case t1 =>
      intro i2 z2 t2 I2 oI2 C2 oC2 D2 m2 ys2 h2 tk2 E2 hz2 hv2 hC2 hx2 F2 N2 off2 ne2
      k_steps
      all_goals exact EndM.intro (by k_asm) N2 (fun p hp => hp) trivial
    case t2 =>
      intro i2 z2 t2 I2 oI2 C2 oC2 D2 m2 ys2 h2 tk2 E2 hz2 hv2 hC2 hx2 F2 N2 off2 ne2
      k_steps
      all_goals exact EndM.intro (by k_asm) N2 (fun p hp => hp) ⟨_, rfl⟩
    case fin2 =>
      intro ys2 hys2
      k_steps
      rename News _ _ _ _ => N9
      refine' ih _ _ _ _ _ _ j hjl (by k_mem) (RowsAre.mono (fun p hp => ?hsub) hv') hys2 (by k_mem) _ _ _ _ _ _ _ _ _ _ _ _ _ _ _ _ _ ?k1 ?k2 ?k3 N9 ?k5 ?kK ?kd ?ku ?_
      case hsub => (repeat (first | exact hp | refine List.mem_cons_of_mem _ ?_))
      case k1 => k_asm
      case k2 => k_asm
      case k3 => k_asm
      case k5 => k_asm
      case kK => first | exact rfl | assumption
      case kd => ktr_room
      case ku => ktr_units
      intro t9 h9 tk9 F9 N9
      k_steps
      all_goals exact EndM.intro (by k_asm) N9 (fun p hp => List.mem_cons_of_mem _ (List.mem_cons_of_mem _ hp)) ⟨_, rfl⟩
  case fin =>
    intro ys hy hr
    have hyi := intsOf ls.toArray.size ys hy hr
    rw [hsz] at hyi
    rw [range_getD (fun j => r.getD j.toNat 0 + leastV T (left.filter fun k => !decide (k = j))) 0 left] at hyi
    have hyn : (left.map (fun j => r.getD j.toNat 0 + leastV T (left.filter fun k => !decide (k = j)))).length ≤ 8 := by simpa using hlen
    k_steps
    have hMM := minL_eq ‹_ ∈ List.map _ left› (by assumption)
    refine retI hret (by k_asm) (fun p hp => (‹News h₀ L _ (_ :: _ :: _ :: _ :: news)› : News h₀ L _ (_ :: _ :: _ :: _ :: news)) p ?_) hMM.symm
    exact List.mem_cons_of_mem _ (List.mem_cons_of_mem _ (List.mem_cons_of_mem _ (List.mem_cons_of_mem _ hp)))
end
section
theorem Spec_mono {w : World} {mean : ExcName → Option Value} {mg mb : Str → Option Value} {f : Addr} {d d' u u' : Nat} {news : List (Addr × Obj)} {vs : List Value} {R : Heap → Addr → (Str → Option Value) → Shared → (Value → Shared → Prop) → Prop} (h : Spec w mean mg mb f d u news vs R) (hd : d ≤ d') (hu : u ≤ u') : Spec w mean mg mb f d' u' news vs R :=
  fun dp un gd cn cs a ccd cl outer A₀ base h₀ L m s Q E B F X N T hk h1 h2 => h dp un gd cn cs a ccd cl outer A₀ base h₀ L m s Q E B F X N T hk (by omega) (by omega)
theorem filt_len {j : Int} : ∀ {left : List Int}, left.Nodup → j ∈ left → (left.filter fun k => !decide (k = j)).length + 1 = left.length
  | x :: xs, hn, hj => by
    obtain ⟨hx, hn'⟩ := List.nodup_cons.mp hn
    rcases List.mem_cons.mp hj with rfl | hj
    · have : xs.filter (fun k => !decide (k = j)) = xs := List.filter_eq_self.mpr fun a ha => by
        have : a ≠ j := fun e => hx (e ▸ ha)
        simp [this]
      simp [this]
    · have hne : x ≠ j := fun e => hx (e ▸ hj)
      have := filt_len hn' hj
      simp [hne, this]
theorem least_spec (w : World) (mean : ExcName → Option Value) (mg mb : Str → Option Value) : ∀ (T : List (List Int)) (vs : List Value) (left : List Int) (ls : List Value) (tb lf : Addr) (n k : Nat) (news : List (Addr × Obj)),
    (tb, listOf vs.toArray n) ∈ news → RowsAre news vs T → IntsAre ls left → (lf, listOf ls.toArray k) ∈ news → left.Nodup → left.length = T.length → T.length ≤ 8 → (∀ r ∈ T, r.length ≤ 100 ∧ ∀ j ∈ left, 0 ≤ j ∧ j < r.length) →
    Spec w mean mg mb 70 (T.length + 2) (80 + 16 * T.length) news [.ref tb, .ref lf] (RetV news (fun t => .int (leastV T left) t))
  | [], vs, left, ls, tb, lf, n, k, news, hm, hv, hls, hml, hnd, hlen, h8, hr => least_nil w mean mg mb tb lf n vs [] news hm hv rfl _ (by omega)
  | r :: T, [], left, ls, tb, lf, n, k, news, hm, hv, hls, hml, hnd, hlen, h8, hr => hv.elim
  | r :: T, v :: vs, left, ls, tb, lf, n, k, news, hm, hv, hls, hml, hnd, hlen, h8, hr => by
    have hl : T.length + 1 = left.length := by rw [hlen]; rfl
    have hvl : ∀ {vs : List Value} {T : List (List Int)}, RowsAre news vs T → vs.length = T.length := by
      intro vs T h
      induction vs generalizing T with
      | nil => cases T with
        | nil => rfl
        | cons => exact h.elim
      | cons v vs ih => cases T with
        | nil => exact h.elim
        | cons r T => exact congrArg (· + 1) (ih h.2)
    have hz := hvl hv
    have h8' : T.length + 1 ≤ 8 := h8
    refine Spec_mono (least_cons w mean mg mb tb lf n k r T v vs ls left news hm hv (by simp) (80 + 16 * T.length) (by omega) hls hml (by omega) (by omega) (hr r List.mem_cons_self).2 (hr r List.mem_cons_self).1 (by rw [List.size_toArray, hz, sizeLine_eq]; simp; omega) (T.length + 2) ?_) (by simp) (by simp; omega)
    intro news' tb' lf' n' k' ls' j hj h1 h2 h3 h4
    have hfl := filt_len hnd hj
    exact least_spec w mean mg mb T vs _ ls' tb' lf' n' k' news' h1 h2 h3 h4 (hnd.filter _) (by omega) (by omega) (fun r hr' => ⟨(hr r (List.mem_cons_of_mem _ hr')).1, fun j hj => (hr r (List.mem_cons_of_mem _ hr')).2 j (List.mem_filter.mp hj).1⟩)
end
section
section
variable {prog : Program} {w : World} {A : Around} {E : Value → Shared → Prop} {s : Shared} {h₀ : Heap} {L l : Addr} {m : Str → Option Value} {news : List (Addr × Obj)} {vs : List Value} {xs : List Int} {c : Nat} {x : Int} {t : Tok} {Q : Value → Shared → Prop}
theorem r_lslice {elts : List Expr} {e : Expr} {p p2 : Pos} (F : Fr h₀ L s.heap m) (N : News h₀ L s.heap news) (hm : (l, listOf vs.toArray c) ∈ news) (hi : IntsAre vs xs) (hx : 0 ≤ x) (h8 : xs.length ≤ 8)
    (h : ∀ D ws h', Fr h₀ L h' m → News h₀ L h' ((D, listOf (List.toArray ws) 0) :: news) → (∀ p ∈ news, p.1 < D) → IntsAre ws (xs.drop x.toNat) → Q (.ref D) { s with heap := h' }) :
    wpAny (model prog w) A (subscriptTail (.List elts p) (.Slice (some e) none none p2) (.ref l) (.ref s.heap.objs.size)) Q E { s with heap := s.heap.push { cls := .type "slice", data := .fields #[.int x t, .none, .none] } } := by
  refine kba_turn (value' := PySem.Expr.Name (PySem.Str.ofString "_") ⟨0, 0, 0, 0⟩) (fun _ => rfl) ?_
  refine kmk_slice F N (News.isList N hm) (IsPart.int x t) IsPart.none (fun D h' F' N' l1 => h D (slicePick vs.toArray (some x) none none).toList h' F' ?_ l1 (slice_ints_fromW hi hx)) (by with_unfolding_all rfl) (by intro _; with_unfolding_all rfl) (by rw [List.size_toArray, hi.length, sizeLine_eq]; omega)
  rw [Array.toArray_toList]
  exact N'
end
end
section
theorem minL_le {x : Int} : ∀ {l : List Int}, x ∈ l → minL l ≤ x
  | a :: l, h => by
    obtain ⟨h1, h2, _⟩ := foldl_min_le l a
    rcases List.mem_cons.mp h with rfl | h
    · exact h1
    · exact h2 x h
theorem minL_mem : ∀ {l : List Int}, l ≠ [] → minL l ∈ l
  | [], h => absurd rfl h
  | a :: l, _ => by
    obtain ⟨_, _, h | h⟩ := foldl_min_le l a
    · show l.foldl min a ∈ _; rw [h]; exact List.mem_cons_self
    · exact List.mem_cons_of_mem _ h
noncomputable def pairSum : List (List Int) → List Int → Int
  | r :: T, j :: σ => r.getD j.toNat 0 + pairSum T σ
  | _, _ => 0
theorem filt_perm {j : Int} {σ left : List Int} (hn : left.Nodup) (h : (j :: σ).Perm left) : σ.Perm (left.filter fun k => !decide (k = j)) := by
  have h1 := h.filter (fun k => !decide (k = j))
  have hn2 : (j :: σ).Nodup := h.nodup_iff.mpr hn
  have hj := (List.nodup_cons.mp hn2).1
  have : (j :: σ).filter (fun k => !decide (k = j)) = σ := by
    simp
    exact fun a ha e => hj (e ▸ ha)
  rwa [this] at h1
theorem least_le : ∀ (T : List (List Int)) (left σ : List Int), left.Nodup → σ.Perm left → σ.length = T.length → leastV T left ≤ pairSum T σ
  | [], _, _, _, _, _ => by simp [leastV, pairSum]
  | r :: T, left, [], _, _, h => by simp at h
  | r :: T, left, j :: σ, hn, hp, h => by
    have hj : j ∈ left := hp.mem_iff.mp List.mem_cons_self
    have ih := least_le T (left.filter fun k => !decide (k = j)) σ (hn.filter _) (filt_perm hn hp) (by simpa using h)
    have h2 := minL_le (List.mem_map_of_mem (f := fun j => r.getD j.toNat 0 + leastV T (left.filter fun k => !decide (k = j))) hj)
    simp only [leastV, pairSum]
    omega
theorem least_at : ∀ (T : List (List Int)) (left : List Int), left.Nodup → left.length = T.length → ∃ σ : List Int, σ.Perm left ∧ σ.length = T.length ∧ leastV T left = pairSum T σ
  | [], left, _, h => ⟨left, .refl _, h, by simp [leastV, pairSum]⟩
  | r :: T, left, hn, h => by
    have hne : left.map (fun j => r.getD j.toNat 0 + leastV T (left.filter fun k => !decide (k = j))) ≠ [] := by
      intro e
      have := congrArg List.length e
      simp at this; subst this; simp at h
    obtain ⟨j, hj, e⟩ := List.mem_map.mp (minL_mem hne)
    have hp : (j :: left.erase j).Perm left := (List.perm_cons_erase hj).symm
    have hq := filt_perm hn hp
    have hl : (left.erase j).length = T.length := by
      have := hp.length_eq; simp at this; simp at h; omega
    obtain ⟨σ, h1, h2, h3⟩ := least_at T (left.filter fun k => !decide (k = j)) (hn.filter _) (by rw [← hq.length_eq]; exact hl)
    refine ⟨j :: σ, (List.Perm.cons j (h1.trans hq.symm)).trans hp, by simp [h2], ?_⟩
    simp only [leastV, pairSum]
    rw [← e, h3]
/-! the ring -/
noncomputable def eI (x p : Int) : Int := if x ≤ p then 1 else 0
noncomputable def aI (i : Int) : Int := if i < 0 then -i else i
noncomputable def S6 (f : Int → Int) : Int := f 0 + f 1 + f 2 + f 3 + f 4 + f 5
noncomputable def crs (x y w p : Int) : Int := aI (eI x p - eI y p + w)
theorem mem6 {x : Int} (hx : 0 ≤ x ∧ x < 6) : x ∈ ([0, 1, 2, 3, 4, 5] : List Int) := by
  have e : x = (x.toNat : Int) := by omega
  have h : x.toNat < 6 := by omega
  rw [e]
  exact (by decide : ∀ k : Fin 6, (k.1 : Int) ∈ ([0, 1, 2, 3, 4, 5] : List Int)) ⟨x.toNat, h⟩
theorem dist_all : ∀ x ∈ ([0, 1, 2, 3, 4, 5] : List Int), ∀ y ∈ ([0, 1, 2, 3, 4, 5] : List Int), (([-1, 0, 1] : List Int).any fun w => distI x y == S6 (crs x y w)) = true ∧ ∀ w ∈ ([-1, 0, 1] : List Int), distI x y ≤ S6 (crs x y w) := by decide
theorem dist_at {x y : Int} (hx : 0 ≤ x ∧ x < 6) (hy : 0 ≤ y ∧ y < 6) : ∃ w : Int, distI x y = S6 (crs x y w) := by
  obtain ⟨w, _, e⟩ := List.any_eq_true.mp (dist_all x (mem6 hx) y (mem6 hy)).1
  exact ⟨w, beq_iff_eq.mp e⟩
theorem dist_le {x y w : Int} (hx : 0 ≤ x ∧ x < 6) (hy : 0 ≤ y ∧ y < 6) (hw : -1 ≤ w ∧ w ≤ 1) : distI x y ≤ S6 (crs x y w) :=
  (dist_all x (mem6 hx) y (mem6 hy)).2 w (by simp only [List.mem_cons, List.not_mem_nil, or_false]; omega)
theorem S6_mono {f g : Int → Int} (h : ∀ p, f p ≤ g p) : S6 f ≤ S6 g :=
  Int.add_le_add (Int.add_le_add (Int.add_le_add (Int.add_le_add (Int.add_le_add (h 0) (h 1)) (h 2)) (h 3)) (h 4)) (h 5)
theorem S6_add (f g : Int → Int) : S6 (fun p => f p + g p) = S6 f + S6 g := by
  simp only [S6]; omega
theorem S6_add4 (f g h k : Int → Int) : S6 (fun p => f p + g p + h p + k p) = S6 f + S6 g + S6 h + S6 k := by
  rw [S6_add (fun p => f p + g p + h p) k, S6_add (fun p => f p + g p) h, S6_add]
theorem aI2 (a b : Int) : aI (a + b) ≤ aI a + aI b := by
  unfold aI; omega
theorem aI4 (a b c d : Int) : aI (a + b + c + d) ≤ aI a + aI b + aI c + aI d :=
  Int.le_trans (aI2 _ _) (Int.add_le_add_right (Int.le_trans (aI2 _ _) (Int.add_le_add_right (aI2 _ _) _)) _)
noncomputable def cntI (l : List Int) (p : Int) : Int := (l.countP fun x => decide (x ≤ p) : Nat)
theorem cnt4 (a b c d p : Int) : cntI [a, b, c, d] p = eI a p + eI b p + eI c p + eI d p := by
  simp only [cntI, List.countP_cons, List.countP_nil, eI, decide_eq_true_eq]
  split <;> split <;> split <;> split <;> rfl
theorem cnt_perm {l l' : List Int} (h : l.Perm l') (p : Int) : cntI l p = cntI l' p := by
  simp only [cntI, h.countP_eq]
/-- what a matching costs at the least -/
theorem match_ge {x0 x1 x2 x3 y0 y1 y2 y3 : Int} (hx : ∀ x ∈ [x0, x1, x2, x3], 0 ≤ x ∧ x < 6) (hy : ∀ x ∈ [y0, y1, y2, y3], 0 ≤ x ∧ x < 6) :
    ∃ c : Int, S6 (fun p => aI (cntI [x0, x1, x2, x3] p - cntI [y0, y1, y2, y3] p - c)) ≤ distI x0 y0 + distI x1 y1 + distI x2 y2 + distI x3 y3 := by
  obtain ⟨w0, e0⟩ := dist_at (hx x0 (by simp)) (hy y0 (by simp))
  obtain ⟨w1, e1⟩ := dist_at (hx x1 (by simp)) (hy y1 (by simp))
  obtain ⟨w2, e2⟩ := dist_at (hx x2 (by simp)) (hy y2 (by simp))
  obtain ⟨w3, e3⟩ := dist_at (hx x3 (by simp)) (hy y3 (by simp))
  refine ⟨-(w0 + w1 + w2 + w3), ?_⟩
  have key : ∀ p, aI (cntI [x0, x1, x2, x3] p - cntI [y0, y1, y2, y3] p - -(w0 + w1 + w2 + w3)) ≤ crs x0 y0 w0 p + crs x1 y1 w1 p + crs x2 y2 w2 p + crs x3 y3 w3 p := by
    intro p
    rw [cnt4, cnt4]
    have := aI4 (eI x0 p - eI y0 p + w0) (eI x1 p - eI y1 p + w1) (eI x2 p - eI y2 p + w2) (eI x3 p - eI y3 p + w3)
    rw [show eI x0 p + eI x1 p + eI x2 p + eI x3 p - (eI y0 p + eI y1 p + eI y2 p + eI y3 p) - -(w0 + w1 + w2 + w3) = eI x0 p - eI y0 p + w0 + (eI x1 p - eI y1 p + w1) + (eI x2 p - eI y2 p + w2) + (eI x3 p - eI y3 p + w3) by omega]
    exact this
  rw [e0, e1, e2, e3, ← S6_add4]
  exact S6_mono key
/-- sorted heaps, matched with a shift -/
noncomputable def dw (c : Int) (i : Int) : Int := (i - c).fdiv 4
noncomputable def dj (c : Int) (i : Int) : Nat := ((i - c).fmod 4).toNat
theorem step_le {x0 x1 x2 x3 p : Int} (h1 : x0 ≤ x1) (h2 : x1 ≤ x2) (h3 : x2 ≤ x3) : ∃ v ∈ [[0, 0, 0, 0], [1, 0, 0, 0], [1, 1, 0, 0], [1, 1, 1, 0], [1, 1, 1, 1]], ([eI x0 p, eI x1 p, eI x2 p, eI x3 p] : List Int) = v := by
  unfold eI
  by_cases a0 : x0 ≤ p <;> by_cases a1 : x1 ≤ p <;> by_cases a2 : x2 ≤ p <;> by_cases a3 : x3 ≤ p <;> first | omega | simp [a0, a1, a2, a3]
noncomputable abbrev four (f : List Int) (g : List Int) (c i : Int) : Int := aI (f.getD i.toNat 0 - g.getD (dj c i) 0 + dw c i)
theorem four_eq : ∀ f ∈ ([[0, 0, 0, 0], [1, 0, 0, 0], [1, 1, 0, 0], [1, 1, 1, 0], [1, 1, 1, 1]] : List (List Int)), ∀ g ∈ ([[0, 0, 0, 0], [1, 0, 0, 0], [1, 1, 0, 0], [1, 1, 1, 0], [1, 1, 1, 1]] : List (List Int)),
    ∀ c ∈ ([-4, -3, -2, -1, 0, 1, 2, 3, 4] : List Int), four f g c 0 + four f g c 1 + four f g c 2 + four f g c 3 = aI (f.getD 0 0 + f.getD 1 0 + f.getD 2 0 + f.getD 3 0 - (g.getD 0 0 + g.getD 1 0 + g.getD 2 0 + g.getD 3 0) - c) := by decide +kernel
theorem getD_eI {y0 y1 y2 y3 p : Int} {j : Nat} (h : j < 4) : eI ([y0, y1, y2, y3].getD j 0) p = [eI y0 p, eI y1 p, eI y2 p, eI y3 p].getD j 0 := by
  have : j = 0 ∨ j = 1 ∨ j = 2 ∨ j = 3 := by omega
  rcases this with rfl | rfl | rfl | rfl <;> rfl
theorem getD_in {l : List Int} {j : Nat} (h : j < l.length) : l.getD j 0 ∈ l := by
  rw [List.getD_eq_getElem?_getD, List.getElem?_eq_getElem h]; exact List.getElem_mem h
theorem dj_lt (c i : Int) : dj c i < 4 := by
  have h1 := Int.fmod_nonneg_of_pos (i - c) (show (0 : Int) < 4 by decide)
  have h2 := Int.fmod_lt_of_pos (i - c) (show (0 : Int) < 4 by decide)
  unfold dj; omega
theorem dw_in {c i : Int} (hc : -4 ≤ c ∧ c ≤ 4) (hi : 0 ≤ i ∧ i < 4) : -1 ≤ dw c i ∧ dw c i ≤ 1 := by
  unfold dw
  rw [Int.fdiv_eq_ediv_of_nonneg _ (by decide)]
  omega
theorem c9_fin {c : Int} (hc : -4 ≤ c ∧ c ≤ 4) : ∃ k : Fin 9, c = (k.1 : Int) - 4 :=
  ⟨⟨(c + 4).toNat, by omega⟩, by show c = ((c + 4).toNat : Int) - 4; omega⟩
theorem c9_mem {c : Int} (hc : -4 ≤ c ∧ c ≤ 4) : c ∈ ([-4, -3, -2, -1, 0, 1, 2, 3, 4] : List Int) := by
  obtain ⟨k, rfl⟩ := c9_fin hc
  exact (by decide : ∀ k : Fin 9, ((k.1 : Int) - 4) ∈ ([-4, -3, -2, -1, 0, 1, 2, 3, 4] : List Int)) k
theorem dj_perm {c : Int} (hc : -4 ≤ c ∧ c ≤ 4) : ([(dj c 0 : Int), dj c 1, dj c 2, dj c 3]).Perm [0, 1, 2, 3] := by
  obtain ⟨k, rfl⟩ := c9_fin hc
  exact List.isPerm_iff.mp ((by decide : ∀ k : Fin 9, ([(dj ((k.1 : Int) - 4) 0 : Int), dj ((k.1 : Int) - 4) 1, dj ((k.1 : Int) - 4) 2, dj ((k.1 : Int) - 4) 3]).isPerm [0, 1, 2, 3] = true) k)
theorem match_le {x0 x1 x2 x3 y0 y1 y2 y3 c : Int} (hx : ∀ x ∈ [x0, x1, x2, x3], 0 ≤ x ∧ x < 6) (hy : ∀ x ∈ [y0, y1, y2, y3], 0 ≤ x ∧ x < 6)
    (h1 : x0 ≤ x1) (h2 : x1 ≤ x2) (h3 : x2 ≤ x3) (g1 : y0 ≤ y1) (g2 : y1 ≤ y2) (g3 : y2 ≤ y3) (hc : -4 ≤ c ∧ c ≤ 4) :
    distI x0 ([y0, y1, y2, y3].getD (dj c 0) 0) + distI x1 ([y0, y1, y2, y3].getD (dj c 1) 0) + distI x2 ([y0, y1, y2, y3].getD (dj c 2) 0) + distI x3 ([y0, y1, y2, y3].getD (dj c 3) 0) ≤
      S6 (fun p => aI (cntI [x0, x1, x2, x3] p - cntI [y0, y1, y2, y3] p - c)) := by
  have d0 := dist_le (hx x0 (by simp)) (hy _ (getD_in (dj_lt c 0))) (dw_in (i := 0) hc (by decide))
  have d1 := dist_le (hx x1 (by simp)) (hy _ (getD_in (dj_lt c 1))) (dw_in (i := 1) hc (by decide))
  have d2 := dist_le (hx x2 (by simp)) (hy _ (getD_in (dj_lt c 2))) (dw_in (i := 2) hc (by decide))
  have d3 := dist_le (hx x3 (by simp)) (hy _ (getD_in (dj_lt c 3))) (dw_in (i := 3) hc (by decide))
  have hc9 := c9_mem hc
  have key : ∀ p, crs x0 ([y0, y1, y2, y3].getD (dj c 0) 0) (dw c 0) p + crs x1 ([y0, y1, y2, y3].getD (dj c 1) 0) (dw c 1) p + crs x2 ([y0, y1, y2, y3].getD (dj c 2) 0) (dw c 2) p + crs x3 ([y0, y1, y2, y3].getD (dj c 3) 0) (dw c 3) p = aI (cntI [x0, x1, x2, x3] p - cntI [y0, y1, y2, y3] p - c) := by
    intro p
    obtain ⟨f, hf, ef⟩ := step_le (p := p) h1 h2 h3
    obtain ⟨g, hg, eg⟩ := step_le (p := p) g1 g2 g3
    have := four_eq f hf g hg c hc9
    rw [cnt4, cnt4]
    simp only [crs, getD_eI (dj_lt c _)]
    rw [← ef, ← eg] at this
    exact this
  rw [← funext key, S6_add4]
  exact Int.add_le_add (Int.add_le_add (Int.add_le_add d0 d1) d2) d3
theorem sumI_perm {l l' : List Int} (h : l.Perm l') : l.sum = l'.sum := by
  induction h with
  | nil => rfl
  | cons a _ ih => simp [ih]
  | swap a b l => simp only [List.sum_cons]; omega
  | trans _ _ h1 h2 => exact h1.trans h2
noncomputable abbrev L4 : List Int := [0, 1, 2, 3]
theorem len_s {l : List Int} {n : Nat} (h : l.length = n + 1) : ∃ a t, l = a :: t ∧ t.length = n := by
  cases l with
  | nil => cases h
  | cons a t => exact ⟨a, t, rfl, Nat.succ.inj h⟩
theorem len_0 {l : List Int} (h : l.length = 0) : l = [] := List.length_eq_zero_iff.mp h
theorem len4 {l : List Int} (h : l.length = 4) : ∃ a b c d, l = [a, b, c, d] := by
  obtain ⟨a, t1, rfl, h1⟩ := len_s h
  obtain ⟨b, t2, rfl, h2⟩ := len_s h1
  obtain ⟨c, t3, rfl, h3⟩ := len_s h2
  obtain ⟨d, t4, rfl, h4⟩ := len_s h3
  exact ⟨a, b, c, d, by rw [len_0 h4]⟩
theorem inv_perm {P : List Int} (h : P.Perm L4) : ∃ I : List Int, I.Perm L4 ∧ ∀ k ∈ [0, 1, 2, 3], I.getD (P.getD k 0).toNat 0 = k := by
  obtain ⟨a, b, c, d, rfl⟩ := len4 h.length_eq
  have hm : ∀ x ∈ [a, b, c, d], x ∈ L4 := fun x hx => h.mem_iff.mp hx
  have all : ∀ a ∈ L4, ∀ b ∈ L4, ∀ c ∈ L4, ∀ d ∈ L4, [a, b, c, d].isPerm L4 = true → ([1, 2, 3, 0] : List Int).any (fun _ => true) ∧
      (L4.flatMap fun i => L4.flatMap fun j => L4.flatMap fun k => L4.map fun l => [i, j, k, l]).any (fun I => I.isPerm L4 && [0, 1, 2, 3].all fun k => I.getD ([a, b, c, d].getD k 0).toNat 0 == (k : Int)) := by decide +kernel
  have h2 := (all a (hm a (by simp)) b (hm b (by simp)) c (hm c (by simp)) d (hm d (by simp)) (List.isPerm_iff.mpr h)).2
  obtain ⟨I, _, hI⟩ := List.any_eq_true.mp h2
  rw [Bool.and_eq_true] at hI
  refine ⟨I, List.isPerm_iff.mp hI.1, fun k hk => ?_⟩
  have := List.all_eq_true.mp hI.2 k hk
  simpa using this
theorem sort_perm (f : Int → Int) : ∃ a b c d, [a, b, c, d].Perm L4 ∧ f a ≤ f b ∧ f b ≤ f c ∧ f c ≤ f d := by
  have hp := List.mergeSort_perm L4 (fun i j => decide (f i ≤ f j))
  have hs := List.pairwise_mergeSort (le := fun i j => decide (f i ≤ f j)) (by intro a b c; simp; omega) (by intro a b; simp; omega) L4
  obtain ⟨a, b, c, d, e⟩ := len4 hp.length_eq
  rw [e] at hp hs
  refine ⟨a, b, c, d, hp, ?_⟩
  simp only [List.pairwise_cons, decide_eq_true_eq] at hs
  exact ⟨hs.1 b (by simp), hs.2.1 c (by simp), hs.2.2.1 d (by simp)⟩
noncomputable abbrev tab4 (xs ys : List Int) : List (List Int) := xs.map fun x => ys.map fun y => distI x y
theorem row_getD {x : Int} {ys : List Int} {j : Int} (h : 0 ≤ j ∧ j < ys.length) : (ys.map fun y => distI x y).getD j.toNat 0 = distI x (ys.getD j.toNat 0) := by
  have : j.toNat < ys.length := by omega
  simp [List.getD_eq_getElem?_getD, List.getElem?_eq_getElem this]
theorem pair4 {x0 x1 x2 x3 j0 j1 j2 j3 : Int} {ys : List Int} (hl : ys.length = 4) (h : ∀ j ∈ [j0, j1, j2, j3], j ∈ L4) :
    pairSum (tab4 [x0, x1, x2, x3] ys) [j0, j1, j2, j3] = distI x0 (ys.getD j0.toNat 0) + distI x1 (ys.getD j1.toNat 0) + distI x2 (ys.getD j2.toNat 0) + distI x3 (ys.getD j3.toNat 0) := by
  have hb : ∀ j ∈ [j0, j1, j2, j3], 0 ≤ j ∧ j < ys.length := fun j hj => by
    have := h j hj
    simp only [L4, List.mem_cons, List.not_mem_nil, or_false] at this
    omega
  simp only [tab4, List.map_cons, List.map_nil, pairSum]
  rw [row_getD (hb j0 (by simp)), row_getD (hb j1 (by simp)), row_getD (hb j2 (by simp)), row_getD (hb j3 (by simp))]
  omega
theorem map_L4 {l : List Int} (h : l.length = 4) : (L4.map fun k => l.getD k.toNat 0) = l := by
  obtain ⟨a, b, c, d, rfl⟩ := len4 h; rfl
/-- any two orders of the heaps, matched -/
theorem least_two {xs ys P R : List Int} (hx : xs.length = 4) (hy : ys.length = 4) (hP : P.Perm L4) (hR : R.Perm L4) :
    leastV (tab4 xs ys) L4 ≤ (L4.map fun k => distI (xs.getD (P.getD k.toNat 0).toNat 0) (ys.getD (R.getD k.toNat 0).toNat 0)).sum := by
  obtain ⟨I, hI, hk⟩ := inv_perm hP
  have lP := hP.length_eq
  have lR := hR.length_eq
  have lI := hI.length_eq
  have hσ : (I.map fun k => R.getD k.toNat 0).Perm L4 := by
    have := hI.map (fun k => R.getD k.toNat 0)
    rw [map_L4 lR] at this
    exact this.trans hR
  have h1 := least_le (tab4 xs ys) L4 _ (by decide) hσ (by simp [lI, tab4, hx])
  refine Int.le_trans h1 (Int.le_of_eq ?_)
  have hg := sumI_perm (hP.map fun i => distI (xs.getD i.toNat 0) (ys.getD (R.getD (I.getD i.toNat 0).toNat 0).toNat 0))
  have e1 : (L4.map fun k => distI (xs.getD (P.getD k.toNat 0).toNat 0) (ys.getD (R.getD k.toNat 0).toNat 0)).sum = (P.map fun i => distI (xs.getD i.toNat 0) (ys.getD (R.getD (I.getD i.toNat 0).toNat 0).toNat 0)).sum := by
    obtain ⟨a, b, c, d, rfl⟩ := len4 lP
    have k0 := hk 0 (by simp); have k1 := hk 1 (by simp); have k2 := hk 2 (by simp); have k3 := hk 3 (by simp)
    simp only [List.getD_cons_zero, List.getD_cons_succ] at k0 k1 k2 k3
    simp only [List.map_cons, List.map_nil, L4]
    rw [k0, k1, k2, k3]
    rfl
  rw [e1, hg]
  have hm : ∀ j ∈ I.map (fun k => R.getD k.toNat 0), j ∈ L4 := fun j hj => hσ.mem_iff.mp hj
  obtain ⟨a, b, c, d, rfl⟩ := len4 lI
  obtain ⟨x0, x1, x2, x3, rfl⟩ := len4 hx
  rw [show ([a, b, c, d].map fun k => R.getD k.toNat 0) = [R.getD a.toNat 0, R.getD b.toNat 0, R.getD c.toNat 0, R.getD d.toNat 0] from rfl] at hm ⊢
  rw [pair4 hy hm]
  simp only [L4, List.map_cons, List.map_nil, List.sum_cons, List.sum_nil]
  show distI x0 (ys.getD (R.getD a.toNat 0).toNat 0) + distI x1 (ys.getD (R.getD b.toNat 0).toNat 0) + distI x2 (ys.getD (R.getD c.toNat 0).toNat 0) + distI x3 (ys.getD (R.getD d.toNat 0).toNat 0) = distI x0 (ys.getD (R.getD a.toNat 0).toNat 0) + (distI x1 (ys.getD (R.getD b.toNat 0).toNat 0) + (distI x2 (ys.getD (R.getD c.toNat 0).toNat 0) + (distI x3 (ys.getD (R.getD d.toNat 0).toNat 0) + 0)))
  omega
noncomputable abbrev FI (xs ys : List Int) (p : Int) : Int := cntI xs p - cntI ys p
theorem cnt_le {l : List Int} (h : l.length = 4) (p : Int) : 0 ≤ cntI l p ∧ cntI l p ≤ 4 := by
  have := List.countP_le_length (p := fun x => decide (x ≤ p)) (l := l)
  unfold cntI; omega
theorem least_up {xs ys : List Int} (hx : xs.length = 4) (hy : ys.length = 4) (vx : ∀ x ∈ xs, 0 ≤ x ∧ x < 6) (vy : ∀ x ∈ ys, 0 ≤ x ∧ x < 6) {c : Int} (hc : -4 ≤ c ∧ c ≤ 4) :
    leastV (tab4 xs ys) L4 ≤ S6 fun p => aI (FI xs ys p - c) := by
  obtain ⟨p0, p1, p2, p3, hP, a1, a2, a3⟩ := sort_perm (fun i => xs.getD i.toNat 0)
  obtain ⟨q0, q1, q2, q3, hQ, b1, b2, b3⟩ := sort_perm (fun i => ys.getD i.toNat 0)
  have hpx := hP.map (fun i => xs.getD i.toNat 0)
  have hqy := hQ.map (fun i => ys.getD i.toNat 0)
  rw [map_L4 hx] at hpx
  rw [map_L4 hy] at hqy
  simp only [List.map_cons, List.map_nil] at hpx hqy
  have hm := match_le (c := c) (fun x h => vx x (hpx.mem_iff.mp h)) (fun x h => vy x (hqy.mem_iff.mp h)) a1 a2 a3 b1 b2 b3 hc
  have hF : (S6 fun p => aI (FI xs ys p - c)) = S6 fun p => aI (cntI [xs.getD p0.toNat 0, xs.getD p1.toNat 0, xs.getD p2.toNat 0, xs.getD p3.toNat 0] p - cntI [ys.getD q0.toNat 0, ys.getD q1.toNat 0, ys.getD q2.toNat 0, ys.getD q3.toNat 0] p - c) := by
    simp only [FI, cnt_perm hpx, cnt_perm hqy]
  rw [hF]
  refine Int.le_trans ?_ hm
  have hR : ([[q0, q1, q2, q3].getD (dj c 0) 0, [q0, q1, q2, q3].getD (dj c 1) 0, [q0, q1, q2, q3].getD (dj c 2) 0, [q0, q1, q2, q3].getD (dj c 3) 0]).Perm L4 := by
    have e : ([(dj c 0 : Int), dj c 1, dj c 2, dj c 3]).Perm L4 := dj_perm hc
    have := e.map (fun k => [q0, q1, q2, q3].getD k.toNat 0)
    rw [map_L4 (l := [q0, q1, q2, q3]) rfl] at this
    exact this.trans hQ
  refine Int.le_trans (least_two hx hy hP hR) (Int.le_of_eq ?_)
  have gy : ∀ j, j < 4 → ys.getD ([q0, q1, q2, q3].getD j 0).toNat 0 = [ys.getD q0.toNat 0, ys.getD q1.toNat 0, ys.getD q2.toNat 0, ys.getD q3.toNat 0].getD j 0 := by
    intro j hj
    have : j = 0 ∨ j = 1 ∨ j = 2 ∨ j = 3 := by omega
    rcases this with rfl | rfl | rfl | rfl <;> rfl
  rw [← gy _ (dj_lt c 0), ← gy _ (dj_lt c 1), ← gy _ (dj_lt c 2), ← gy _ (dj_lt c 3)]
  simp only [L4, List.map_cons, List.map_nil, List.sum_cons, List.sum_nil]
  rw [Int.add_zero, ← Int.add_assoc, ← Int.add_assoc]
  rfl
theorem least_lo {xs ys : List Int} (hx : xs.length = 4) (hy : ys.length = 4) (vx : ∀ x ∈ xs, 0 ≤ x ∧ x < 6) (vy : ∀ x ∈ ys, 0 ≤ x ∧ x < 6) :
    ∃ c : Int, (S6 fun p => aI (FI xs ys p - c)) ≤ leastV (tab4 xs ys) L4 := by
  obtain ⟨σ, hσ, hl, e⟩ := least_at (tab4 xs ys) L4 (by decide) (by simp [tab4, hx])
  obtain ⟨j0, j1, j2, j3, rfl⟩ := len4 hσ.length_eq
  obtain ⟨x0, x1, x2, x3, rfl⟩ := len4 hx
  have hpy := hσ.map (fun i => ys.getD i.toNat 0)
  rw [map_L4 hy] at hpy
  simp only [List.map_cons, List.map_nil] at hpy
  rw [e, pair4 hy (fun j hj => hσ.mem_iff.mp hj)]
  obtain ⟨c, hc⟩ := match_ge vx (fun y h => vy y (hpy.mem_iff.mp h))
  refine ⟨c, Int.le_trans (Int.le_of_eq ?_) hc⟩
  simp only [FI, cnt_perm hpy]
theorem med6 {m0 m1 m2 m3 m4 m5 c : Int} (h1 : m0 ≤ m1) (h2 : m1 ≤ m2) (h3 : m2 ≤ m3) (h4 : m3 ≤ m4) (h5 : m4 ≤ m5) :
    aI (m0 - m3) + aI (m1 - m3) + aI (m2 - m3) + aI (m3 - m3) + aI (m4 - m3) + aI (m5 - m3) ≤ aI (m0 - c) + aI (m1 - c) + aI (m2 - c) + aI (m3 - c) + aI (m4 - c) + aI (m5 - c) := by
  have l : ∀ z, z ≤ aI z ∧ -z ≤ aI z := fun z => by unfold aI; omega
  have u : ∀ z, 0 ≤ z → aI z = z := fun z h => by unfold aI; omega
  have n : ∀ z, z ≤ 0 → aI z = -z := fun z h => by unfold aI; omega
  rw [n (m0 - m3) (by omega), n (m1 - m3) (by omega), n (m2 - m3) (by omega), u (m3 - m3) (by omega), u (m4 - m3) (by omega), u (m5 - m3) (by omega)]
  have := l (m0 - c); have := l (m1 - c); have := l (m2 - c); have := l (m3 - c); have := l (m4 - c); have := l (m5 - c)
  omega
theorem plain_law {xs ys m : List Int} (hx : xs.length = 4) (hy : ys.length = 4) (vx : ∀ x ∈ xs, 0 ≤ x ∧ x < 6) (vy : ∀ x ∈ ys, 0 ≤ x ∧ x < 6)
    (hm : m.Perm [FI xs ys 0, FI xs ys 1, FI xs ys 2, FI xs ys 3, FI xs ys 4, FI xs ys 5]) (hs : m.Pairwise (· ≤ ·)) :
    leastV (tab4 xs ys) L4 = (m.map fun c => aI (c - m.getD 3 0)).sum := by
  have hS : ∀ c, (S6 fun p => aI (FI xs ys p - c)) = (m.map fun z => aI (z - c)).sum := fun c => by
    rw [sumI_perm (hm.map fun z => aI (z - c))]
    simp only [S6, List.map_cons, List.map_nil, List.sum_cons, List.sum_nil]
    omega
  have hml := hm.length_eq
  obtain ⟨m0, m1, m2, m3, m4, m5, rfl⟩ : ∃ a b c d e f, m = [a, b, c, d, e, f] := by
    obtain ⟨a, t1, rfl, h1⟩ := len_s (show m.length = 5 + 1 from hml)
    obtain ⟨b, t2, rfl, h2⟩ := len_s (show t1.length = 4 + 1 from h1)
    obtain ⟨c, d, e, f, rfl⟩ := len4 h2
    exact ⟨a, b, c, d, e, f, rfl⟩
  show _ = (List.map (fun c => aI (c - m3)) _).sum
  have hr : -4 ≤ m3 ∧ m3 ≤ 4 := by
    have hin : m3 ∈ [FI xs ys 0, FI xs ys 1, FI xs ys 2, FI xs ys 3, FI xs ys 4, FI xs ys 5] := hm.mem_iff.mp (by simp)
    have hb : ∀ p, -4 ≤ FI xs ys p ∧ FI xs ys p ≤ 4 := fun p => by
      have := cnt_le hx p; have := cnt_le hy p; unfold FI; omega
    simp only [List.mem_cons, List.not_mem_nil, or_false] at hin
    rcases hin with h | h | h | h | h | h <;> (rw [h]; exact hb _)
  simp only [List.pairwise_cons] at hs
  apply Int.le_antisymm
  · rw [← hS]; exact least_up hx hy vx vy hr
  · obtain ⟨c, hc⟩ := least_lo hx hy vx vy
    refine Int.le_trans ?_ hc
    rw [hS]
    have := med6 (c := c) (hs.1 m1 (by simp)) (hs.2.1 m2 (by simp)) (hs.2.2.1 m3 (by simp)) (hs.2.2.2.1 m4 (by simp)) (hs.2.2.2.2.1 m5 (by simp))
    simp only [List.map_cons, List.map_nil, List.sum_cons, List.sum_nil]
    omega
theorem cnt_split {x : Int} : ∀ {xs : List Int}, xs.Pairwise (· ≤ ·) → (∀ i, i < xs.countP (fun a => decide (a ≤ x)) → xs.getD i 0 ≤ x) ∧ (∀ i, xs.countP (fun a => decide (a ≤ x)) ≤ i → i < xs.length → x < xs.getD i 0)
  | [], _ => ⟨fun i h => by simp at h, fun i _ h => by simp at h⟩
  | a :: l, h => by
    obtain ⟨h1, h2⟩ := List.pairwise_cons.mp h
    by_cases ha : a ≤ x
    · obtain ⟨i1, i2⟩ := cnt_split h2
      rw [List.countP_cons_of_pos (by simpa using ha)]
      refine ⟨fun i hi => ?_, fun i hi hl => ?_⟩
      · cases i with
        | zero => exact ha
        | succ i => exact i1 i (by omega)
      · cases i with
        | zero => omega
        | succ i => exact i2 i (by omega) (by simpa using hl)
    · have hz : (a :: l).countP (fun b => decide (b ≤ x)) = 0 := by
        rw [List.countP_eq_zero]
        intro b hb
        rcases List.mem_cons.mp hb with rfl | hb
        · simpa using ha
        · have := h1 b hb; simp; omega
      rw [hz]
      refine ⟨fun i hi => by omega, fun i _ hl => ?_⟩
      have : (a :: l).getD i 0 ∈ a :: l := by
        rw [List.getD_eq_getElem?_getD, List.getElem?_eq_getElem hl]; exact List.getElem_mem hl
      rcases List.mem_cons.mp this with e | hb
      · rw [e]; omega
      · have := h1 _ hb; omega
theorem bis_cnt {xs : List Int} {x : Int} (h : xs.Pairwise (· ≤ ·)) : BisR xs x (cntI xs x) := by
  obtain ⟨h1, h2⟩ := cnt_split (x := x) h
  have := List.countP_le_length (p := fun a => decide (a ≤ x)) (l := xs)
  unfold cntI
  exact ⟨by omega, by omega, fun i h0 hi => h1 _ (by omega), fun i hi hl => h2 _ (by omega) (by omega)⟩
noncomputable def insI (xs : List Int) (x : Int) : List Int := xs.take (xs.countP fun a => decide (a ≤ x)) ++ x :: xs.drop (xs.countP fun a => decide (a ≤ x))
theorem insI_perm (xs : List Int) (x : Int) : (insI xs x).Perm (x :: xs) := by
  unfold insI
  refine List.perm_middle.trans ?_
  rw [List.take_append_drop]
theorem insI_sorted {xs : List Int} {x : Int} (h : xs.Pairwise (· ≤ ·)) : (insI xs x).Pairwise (· ≤ ·) := by
  obtain ⟨h1, h2⟩ := cnt_split (x := x) h
  unfold insI
  have ht : ∀ a ∈ xs.take (xs.countP fun a => decide (a ≤ x)), a ≤ x := by
    intro a ha
    obtain ⟨i, hi, e⟩ := List.mem_iff_getElem.mp ha
    have hi' : i < xs.countP (fun a => decide (a ≤ x)) := by simp at hi; omega
    have hl : i < xs.length := by simp at hi; omega
    have := h1 i hi'
    rw [List.getD_eq_getElem?_getD, List.getElem?_eq_getElem hl] at this
    rw [← e, List.getElem_take]; exact this
  have hd : ∀ a ∈ xs.drop (xs.countP fun a => decide (a ≤ x)), x < a := by
    intro a ha
    obtain ⟨i, hi, e⟩ := List.mem_iff_getElem.mp ha
    have hl : xs.countP (fun a => decide (a ≤ x)) + i < xs.length := by simp at hi; omega
    have := h2 (xs.countP (fun a => decide (a ≤ x)) + i) (by omega) hl
    rw [List.getD_eq_getElem?_getD, List.getElem?_eq_getElem hl] at this
    rw [← e, List.getElem_drop]; exact this
  rw [List.pairwise_append, List.pairwise_cons]
  refine ⟨h.sublist (List.take_sublist ..), ⟨fun a ha => Int.le_of_lt (hd a ha), h.sublist (List.drop_sublist ..)⟩, fun a ha b hb => ?_⟩
  rcases List.mem_cons.mp hb with rfl | hb
  · exact ht a ha
  · exact Int.le_trans (ht a ha) (Int.le_of_lt (hd b hb))
theorem insI_length (xs : List Int) (x : Int) : (insI xs x).length = xs.length + 1 := by
  rw [(insI_perm xs x).length_eq]; rfl
end
section
noncomputable def lawFn : List Stmt × Scope :=
  match PySem.Challenge.pw_pg0171_01.main.body.getLast? with
  | some (.FunctionDef _ _ b _ _ _ sc _ _ _) => (b, sc)
  | _ => ([], default)
noncomputable def lawFor (k : Nat) : List Stmt :=
  match lawFn.1[k]? with
  | some (.For _ _ b _ _) => b
  | _ => []
noncomputable abbrev lawNm : Str := Str.ofString "law"
noncomputable abbrev lawEnv (L af : Addr) (ccd : Value) : Env := envOfC lawNm lawFn.2 L af ccd
/- lawFor9 -/
/-- from the k-th statement of law on, the call ends and gives True -/
noncomputable abbrev LawAt (w : World) (mean : ExcName → Option Value) (mg mb : Str → Option Value) (dp un : Nat) (gd : Option (List Code)) (af : Addr) (ccd : Value) (outer : List Env) (A₀ : Around) (base h₀ : Heap) (L : Addr) (Q E : Value → Shared → Prop) (QF : Flow → Shared → Prop) (k : Nat) (m : Str → Option Value) (news : List (Addr × Obj)) : Prop :=
  ∀ (s : Shared), Below A₀ base outer h₀ → Fr h₀ L s.heap m → (hd.heap_39 w.params).In h₀ → News h₀ L s.heap news → Top hd.view_39 (looseW hd.view_39 [Str.ofString "insort_right", Str.ofString "bisect_right"]) mean mg mb h₀ →
    dp + 12 < recursionLimit → un + 300 < cLine → PassesOwn (model PySem.Challenge.rw_pg0171_01.row.prog w) (ktrTop dp un gd lawNm lawFn.2 L af ccd (cellsFrom (L + 1) lawFn.2.names []) outer) (lawEnv L af ccd) E → (∀ (s' : Shared) m', Fr h₀ L s'.heap m' → s'.gens = s.gens → s'.drawn = s.drawn → s'.os = s.os → QF (.ret (.bool true)) s') →
    wpAny (model PySem.Challenge.rw_pg0171_01.row.prog w) (ktrTop dp un gd lawNm lawFn.2 L af ccd (cellsFrom (L + 1) lawFn.2.names []) outer) (execs (lawFn.1.drop k) (lawEnv L af ccd)) QF E s
section
variable {M : Model} {A : Around} {E : Value → Shared → Prop} {s : Shared} {w : World} {h₀ : Heap} {L a : Addr} {m mg mb : Str → Option Value} {cs : Scope} {ccd v : Value} {p : Program} {loose : List Str} {pos : Pos} {Q : Value → Shared → Prop} {QU : Unit → Shared → Prop} {news : List (Addr × Obj)} {o : Obj} {g : Obj → List (Addr × Obj)} {v₀ : Option Value}
theorem lwG_len (hc : cs = lawFn.2) (F : Fr h₀ L s.heap m) (X : (hd.heap_39 w.params).In h₀) (T : TopRead p loose mg mb h₀) (h : Q (.builtin "len") s) : wpAny M A (eval (.Name (Str.ofString "len") pos) (envOfC lawNm cs L a ccd)) Q E s := by
  subst hc
  exact nmC_len F X T (by decide +kernel) rfl h
theorem lwG_range (hc : cs = lawFn.2) (F : Fr h₀ L s.heap m) (X : (hd.heap_39 w.params).In h₀) (T : TopRead p loose mg mb h₀) (h : Q (.type "range") s) : wpAny M A (eval (.Name (Str.ofString "range") pos) (envOfC lawNm cs L a ccd)) Q E s := by
  subst hc
  exact nmC_range F X T (by decide +kernel) rfl h
theorem lwG_sum (hc : cs = lawFn.2) (F : Fr h₀ L s.heap m) (X : (hd.heap_39 w.params).In h₀) (T : TopRead p loose mg mb h₀) (h : Q (.builtin "sum") s) : wpAny M A (eval (.Name (Str.ofString "sum") pos) (envOfC lawNm cs L a ccd)) Q E s := by
  subst hc
  exact nmC_sum F X T (by decide +kernel) rfl h
theorem lwG_lawleast (hc : cs = lawFn.2) (F : Fr h₀ L s.heap m) (X : (hd.heap_39 w.params).In h₀) (T : TopRead p loose mg mb h₀) (h : Q (.ref 70) s) : wpAny M A (eval (.Name (Str.ofString "_law_least") pos) (envOfC lawNm cs L a ccd)) Q E s := by
  subst hc
  exact nmC_lawleast F X T (by decide +kernel) rfl h
theorem lwG_insortright (hc : cs = lawFn.2) (F : Fr h₀ L s.heap m) (X : (hd.heap_39 w.params).In h₀) (T : TopRead p loose mg mb h₀) (h : Q (.ref 23) s) : wpAny M A (eval (.Name (Str.ofString "insort_right") pos) (envOfC lawNm cs L a ccd)) Q E s := by
  subst hc
  exact nmC_insortright F X T (by decide +kernel) rfl h
theorem lwG_bisectright (hc : cs = lawFn.2) (F : Fr h₀ L s.heap m) (X : (hd.heap_39 w.params).In h₀) (T : TopRead p loose mg mb h₀) (h : Q (.ref 32) s) : wpAny M A (eval (.Name (Str.ofString "bisect_right") pos) (envOfC lawNm cs L a ccd)) Q E s := by
  subst hc
  exact nmC_bisectright F X T (by decide +kernel) rfl h
theorem lwL_script (hc : cs = lawFn.2) (F : Fr h₀ L s.heap m) (hv : m (Str.ofString "script") = some v) (h : Q v s) : wpAny M A (eval (.Name (Str.ofString "script") pos) (envOfC lawNm cs L a ccd)) Q E s := by
  subst hc
  exact cL F (by decide +kernel) hv rfl (by decide) h
theorem lwS_script (hc : cs = lawFn.2) (F : Fr h₀ L s.heap m) (N : News h₀ L s.heap news)
    (h : ∀ h' tk, Fr h₀ L h' (fun y => if y = Str.ofString "script" then some v else m y) → News h₀ L h' news → QU () { s with heap := h', toks := tk }) : wpAny M A (storeName (envOfC lawNm cs L a ccd) (Str.ofString "script") v) QU E s := by
  subst hc
  exact sL F N (by decide +kernel) rfl h
theorem lwL_numbers (hc : cs = lawFn.2) (F : Fr h₀ L s.heap m) (hv : m (Str.ofString "numbers") = some v) (h : Q v s) : wpAny M A (eval (.Name (Str.ofString "numbers") pos) (envOfC lawNm cs L a ccd)) Q E s := by
  subst hc
  exact cL F (by decide +kernel) hv rfl (by decide) h
theorem lwS_numbers (hc : cs = lawFn.2) (F : Fr h₀ L s.heap m) (N : News h₀ L s.heap news)
    (h : ∀ h' tk, Fr h₀ L h' (fun y => if y = Str.ofString "numbers" then some v else m y) → News h₀ L h' news → QU () { s with heap := h', toks := tk }) : wpAny M A (storeName (envOfC lawNm cs L a ccd) (Str.ofString "numbers") v) QU E s := by
  subst hc
  exact sL F N (by decide +kernel) rfl h
theorem lwL_ones (hc : cs = lawFn.2) (F : Fr h₀ L s.heap m) (hv : m (Str.ofString "ones") = some v) (h : Q v s) : wpAny M A (eval (.Name (Str.ofString "ones") pos) (envOfC lawNm cs L a ccd)) Q E s := by
  subst hc
  exact cL F (by decide +kernel) hv rfl (by decide) h
theorem lwS_ones (hc : cs = lawFn.2) (F : Fr h₀ L s.heap m) (N : News h₀ L s.heap news)
    (h : ∀ h' tk, Fr h₀ L h' (fun y => if y = Str.ofString "ones" then some v else m y) → News h₀ L h' news → QU () { s with heap := h', toks := tk }) : wpAny M A (storeName (envOfC lawNm cs L a ccd) (Str.ofString "ones") v) QU E s := by
  subst hc
  exact sL F N (by decide +kernel) rfl h
theorem lwL_rows (hc : cs = lawFn.2) (F : Fr h₀ L s.heap m) (hv : m (Str.ofString "rows") = some v) (h : Q v s) : wpAny M A (eval (.Name (Str.ofString "rows") pos) (envOfC lawNm cs L a ccd)) Q E s := by
  subst hc
  exact cL F (by decide +kernel) hv rfl (by decide) h
theorem lwS_rows (hc : cs = lawFn.2) (F : Fr h₀ L s.heap m) (N : News h₀ L s.heap news)
    (h : ∀ h' tk, Fr h₀ L h' (fun y => if y = Str.ofString "rows" then some v else m y) → News h₀ L h' news → QU () { s with heap := h', toks := tk }) : wpAny M A (storeName (envOfC lawNm cs L a ccd) (Str.ofString "rows") v) QU E s := by
  subst hc
  exact sL F N (by decide +kernel) rfl h
theorem lwL_k (hc : cs = lawFn.2) (F : Fr h₀ L s.heap m) (hv : m (Str.ofString "k") = some v) (h : Q v s) : wpAny M A (eval (.Name (Str.ofString "k") pos) (envOfC lawNm cs L a ccd)) Q E s := by
  subst hc
  exact cL F (by decide +kernel) hv rfl (by decide) h
theorem lwS_k (hc : cs = lawFn.2) (F : Fr h₀ L s.heap m) (N : News h₀ L s.heap news)
    (h : ∀ h' tk, Fr h₀ L h' (fun y => if y = Str.ofString "k" then some v else m y) → News h₀ L h' news → QU () { s with heap := h', toks := tk }) : wpAny M A (storeName (envOfC lawNm cs L a ccd) (Str.ofString "k") v) QU E s := by
  subst hc
  exact sL F N (by decide +kernel) rfl h
theorem lwL_table (hc : cs = lawFn.2) (F : Fr h₀ L s.heap m) (hv : m (Str.ofString "table") = some v) (h : Q v s) : wpAny M A (eval (.Name (Str.ofString "table") pos) (envOfC lawNm cs L a ccd)) Q E s := by
  subst hc
  exact cL F (by decide +kernel) hv rfl (by decide) h
theorem lwS_table (hc : cs = lawFn.2) (F : Fr h₀ L s.heap m) (N : News h₀ L s.heap news)
    (h : ∀ h' tk, Fr h₀ L h' (fun y => if y = Str.ofString "table" then some v else m y) → News h₀ L h' news → QU () { s with heap := h', toks := tk }) : wpAny M A (storeName (envOfC lawNm cs L a ccd) (Str.ofString "table") v) QU E s := by
  subst hc
  exact sL F N (by decide +kernel) rfl h
theorem lwL_count (hc : cs = lawFn.2) (F : Fr h₀ L s.heap m) (hv : m (Str.ofString "count") = some v) (h : Q v s) : wpAny M A (eval (.Name (Str.ofString "count") pos) (envOfC lawNm cs L a ccd)) Q E s := by
  subst hc
  exact cL F (by decide +kernel) hv rfl (by decide) h
theorem lwS_count (hc : cs = lawFn.2) (F : Fr h₀ L s.heap m) (N : News h₀ L s.heap news)
    (h : ∀ h' tk, Fr h₀ L h' (fun y => if y = Str.ofString "count" then some v else m y) → News h₀ L h' news → QU () { s with heap := h', toks := tk }) : wpAny M A (storeName (envOfC lawNm cs L a ccd) (Str.ofString "count") v) QU E s := by
  subst hc
  exact sL F N (by decide +kernel) rfl h
theorem lwL_others (hc : cs = lawFn.2) (N : News h₀ L s.heap news) (hm : (L + 1, o) ∈ news) (ho : o.data = .cell (some v)) (h : Q v s) : wpAny M A (eval (.Name (Str.ofString "others") pos) (envOfC lawNm cs L a ccd)) Q E s := by
  subst hc
  exact cC N (by decide +kernel) (c := L + 1) rfl hm ho rfl (by decide) h
theorem lwS_others (hc : cs = lawFn.2) (F : Fr h₀ L s.heap m) (N : News h₀ L s.heap news) (U : UpdF (L + 1) o news g) (ho : o.data = .cell v₀)
    (h : ∀ h' o' tk, Fr h₀ L h' m → News h₀ L h' (g o') → o'.data = .cell (some v) → QU () { s with heap := h', toks := tk }) : wpAny M A (storeName (envOfC lawNm cs L a ccd) (Str.ofString "others") v) QU E s := by
  subst hc
  exact sC F N (by decide +kernel) (c := L + 1) rfl U ho rfl h
theorem lwL_twos (hc : cs = lawFn.2) (N : News h₀ L s.heap news) (hm : (L + 1 + 1, o) ∈ news) (ho : o.data = .cell (some v)) (h : Q v s) : wpAny M A (eval (.Name (Str.ofString "twos") pos) (envOfC lawNm cs L a ccd)) Q E s := by
  subst hc
  exact cC N (by decide +kernel) (c := L + 1 + 1) rfl hm ho rfl (by decide) h
theorem lwS_twos (hc : cs = lawFn.2) (F : Fr h₀ L s.heap m) (N : News h₀ L s.heap news) (U : UpdF (L + 1 + 1) o news g) (ho : o.data = .cell v₀)
    (h : ∀ h' o' tk, Fr h₀ L h' m → News h₀ L h' (g o') → o'.data = .cell (some v) → QU () { s with heap := h', toks := tk }) : wpAny M A (storeName (envOfC lawNm cs L a ccd) (Str.ofString "twos") v) QU E s := by
  subst hc
  exact sC F N (by decide +kernel) (c := L + 1 + 1) rfl U ho rfl h
theorem lwL_more (hc : cs = lawFn.2) (N : News h₀ L s.heap news) (hm : (L + 1 + 1 + 1, o) ∈ news) (ho : o.data = .cell (some v)) (h : Q v s) : wpAny M A (eval (.Name (Str.ofString "more") pos) (envOfC lawNm cs L a ccd)) Q E s := by
  subst hc
  exact cC N (by decide +kernel) (c := L + 1 + 1 + 1) rfl hm ho rfl (by decide) h
theorem lwS_more (hc : cs = lawFn.2) (F : Fr h₀ L s.heap m) (N : News h₀ L s.heap news) (U : UpdF (L + 1 + 1 + 1) o news g) (ho : o.data = .cell v₀)
    (h : ∀ h' o' tk, Fr h₀ L h' m → News h₀ L h' (g o') → o'.data = .cell (some v) → QU () { s with heap := h', toks := tk }) : wpAny M A (storeName (envOfC lawNm cs L a ccd) (Str.ofString "more") v) QU E s := by
  subst hc
  exact sC F N (by decide +kernel) (c := L + 1 + 1 + 1) rfl U ho rfl h
theorem lwL_place (hc : cs = lawFn.2) (N : News h₀ L s.heap news) (hm : (L + 1 + 1 + 1 + 1, o) ∈ news) (ho : o.data = .cell (some v)) (h : Q v s) : wpAny M A (eval (.Name (Str.ofString "place") pos) (envOfC lawNm cs L a ccd)) Q E s := by
  subst hc
  exact cC N (by decide +kernel) (c := L + 1 + 1 + 1 + 1) rfl hm ho rfl (by decide) h
theorem lwS_place (hc : cs = lawFn.2) (F : Fr h₀ L s.heap m) (N : News h₀ L s.heap news) (U : UpdF (L + 1 + 1 + 1 + 1) o news g) (ho : o.data = .cell v₀)
    (h : ∀ h' o' tk, Fr h₀ L h' m → News h₀ L h' (g o') → o'.data = .cell (some v) → QU () { s with heap := h', toks := tk }) : wpAny M A (storeName (envOfC lawNm cs L a ccd) (Str.ofString "place") v) QU E s := by
  subst hc
  exact sC F N (by decide +kernel) (c := L + 1 + 1 + 1 + 1) rfl U ho rfl h
end
section
variable {prog : Program} {w : World} {A : Around} {E : Value → Shared → Prop} {s : Shared} {h₀ : Heap} {L D : Addr} {news : List (Addr × Obj)} {vs : List Value} {xs : List Int} {c : Nat} {a : Int} {u : Tok} {Q : Value → Shared → Prop}
theorem r_rowIC {elts : Expr} {cc : Const} {kk : Nat} {px : Pos} (N : News h₀ L s.heap news) (hm : (D, listOf vs.toArray c) ∈ news) (hi : IntsAre vs xs) (h0 : 0 ≤ a) (h1 : a < xs.length) (h2 : xs.length ≤ 100) (h : ∀ t, Q (.int (xs.getD a.toNat 0) t) s) :
    wpAny (model prog w) A (subscriptTail elts (.Constant cc kk px) (.ref D) (.int a u)) Q E s := by
  have hx : a.toNat < xs.length := by omega
  obtain ⟨t, e⟩ := IntsAre.get hi a.toNat (xs.getD a.toNat 0) (by rw [List.getD_eq_getElem?_getD, List.getElem?_eq_getElem hx]; rfl)
  exact tail_any (News.isList N hm).typeIs slot_list_getitem.lookup (wpAny_getItem_list (News.isList N hm) h0 (by omega) (by simpa using e) (h t)) (by with_unfolding_all rfl)
end
theorem kCell {M : Model} {A : Around} {E : Value → Shared → Prop} {s : Shared} {h₀ : Heap} {L C c : Addr} {cs : Scope} {v : Value} {cl : List (Str × Addr)} {pos : Pos} {Q : Value → Shared → Prop} {news : List (Addr × Obj)} {o : Obj} {x : Str} {env : Env} (N : News h₀ L s.heap news) (hx : (compEnvC cs cl C env).kindOf x = some .cell) (hc : cl.lookup x = some c) (hm : (c, o) ∈ news) (ho : o.data = .cell (some v)) (hk : (compEnvC cs cl C env).scope.kind = .function) (hd : (x == ("__debug__" : Str)) = false) (h : Q v s) : wpAny M A (eval (.Name x pos) (compEnvC cs cl C env)) Q E s :=
  lcf_cell N hc hm ho h hk hx hd
theorem ins_ints {vs : List Value} {xs : List Int} {x : Int} {t : Tok} (h : IntsAre vs xs) : IntsAre (kl_ins vs (cntI xs x) (.int x t)) (insI xs x) := by
  have hl := h.length
  have hc := List.countP_le_length (p := fun a => decide (a ≤ x)) (l := xs)
  have h0 : ¬ cntI xs x < 0 := by unfold cntI; omega
  have hm : min (cntI xs x).toNat vs.length = xs.countP (fun a => decide (a ≤ x)) := by unfold cntI; omega
  unfold kl_ins insI
  rw [if_neg h0, hm]
  exact IntsAre.append (h.take _) (.cons _ _ (h.drop _))
end
section
open PyProof.Rows.LCg in
section
variable {prog : Program} {w : World} {A : Around} {E : Value → Shared → Prop} {s : Shared} {h₀ : Heap} {L : Addr} {m : Str → Option Value} {env : Env}
noncomputable def SrcCA (prog : Program) (w : World) (A : Around) (h₀ : Heap) (L : Addr) (m : Str → Option Value) (env : Env) (elt : Expr) (x : Str) (scope : Scope) (cl : List (Str × Addr)) (Fin : Shared → List Value → List (Addr × Obj) → Prop) (xv : Value) (s₁ : Shared) : Prop :=
  ∃ ax its n news, xv = .ref ax ∧ A.handled = none ∧ Fr h₀ L s₁.heap m ∧ News h₀ L s₁.heap news ∧ (ax, listOf its n) ∈ news ∧ its.size ≤ sizeLine ∧
      ∀ s₂ : Shared, (∃ h, s₂ = { s₁ with heap := h }) → CompRestC prog w A h₀ L m env elt x scope cl s₂ (fun nw => (ax, listOf its n) ∈ nw) (fun i v => its[i]? = some v) (Fin s₂) its.size 0 [] news
theorem SrcCA.intro {elt : Expr} {x : Str} {scope : Scope} {cl : List (Str × Addr)} {Fin : Shared → List Value → List (Addr × Obj) → Prop} {ax : Addr} {its : Array Value} {n : Nat} {news : List (Addr × Obj)} {s₁ : Shared}
    (hh : A.handled = none) (F : Fr h₀ L s₁.heap m) (N : News h₀ L s₁.heap news) (hm : (ax, listOf its n) ∈ news) (hsz : its.size ≤ sizeLine)
    (h : ∀ g, CompRestC prog w A h₀ L m env elt x scope cl { s₁ with heap := g } (fun nw => (ax, listOf its n) ∈ nw) (fun i v => its[i]? = some v) (Fin { s₁ with heap := g }) its.size 0 [] news) :
    SrcCA prog w A h₀ L m env elt x scope cl Fin (.ref ax) s₁ := ⟨ax, its, n, news, rfl, hh, F, N, hm, hsz, fun _ ⟨g, e⟩ => e ▸ h g⟩
theorem Assign_ListComp_C {elt iter : Expr} {x y : Str} {px py : Pos} {scope : Scope} {cl : List (Str × Addr)} {pos spos : Pos} {Q : Flow → Shared → Prop} (F₀ : Fr h₀ L s.heap m) (hLe : env.locals = L)
    (hsw : swapsWith (.ListComp elt [⟨.Name x px, iter, [], 0⟩] scope pos) (some (.Name y py)) spos.line env = pure true)
    (hy : env.kindOf y = some .local) (hp : (env.scope.kind == .class || (env.scope.kind == .module && env.locals != env.globals)) = false)
    (hclos : closureFor scope env = pure cl) (hcf : ∀ n acc, cellsFrom n scope.names acc = (x, n) :: acc) (hpc : ∀ h, pushCells h scope.names = h.push { cls := .type "cell", data := .cell none }) (hkind : scope.kind = .function)
    (hnames : ∀ y ∈ scope.names, y.2 = .local → scope.names.lookup y.1 = some .local) (hx : scope.names.lookup x = some .cell)
    (h : wpAny (model prog w) A (eval iter env) (SrcCA prog w A h₀ L m env elt x scope cl (fun s₂ => FinA h₀ L m s₂ y Q)) E s)
    (hs : ∀ x, foldedSetIterable iter env x = pure x := by intro _; rfl) :
    wpAny (model prog w) A (exec (.Assign [.Name y py] (.ListComp elt [⟨.Name x px, iter, [], 0⟩] scope pos) spos) env) Q E s := by
  subst hLe
  rw [exec_Assign_Name_used _ _ _ _ hsw]
  refine wpAny_bind (wpAny_standAt (wpAny_bind ?_))
  show wpAny _ A (do let _ ← comprehension (.ListComp elt [⟨.Name x px, iter, [], 0⟩] scope pos) scope env _ (newList []) false (eval iter env) (some (assign (.Name y py) env))) _ _ s
  refine wpAny_bind (wpAny_mono (wpAny_comprehension_free (use := some (assign (.Name y py) env)) (Q := fun _ s' => Q .next s') rfl hs hclos hkind hnames
    (wpAny_mono h (fun xv s₁ h₁ => ?_) fun _ _ e => e)) (fun _ s' hq => wpAny_pure (wpAny_pure hq)) fun _ _ e => e)
  obtain ⟨ax, its, n, news, rfl, hh, F, N, hax, hsz, R⟩ := h₁
  refine wpAny_pyIter_list (N.isList hax) ?_
  have axlt : ax < s₁.heap.objs.size := Heap.lt_size (N _ hax).1
  have up : ∀ b o, s₁.heap.get? b = some o → (s₁.heap.push { cls := .type "list_iterator", data := .fields #[.ref ax, .int 0 0] }).get? b = some o := fun b o e => Heap.get?_push_of_some _ e
  have R := R _ ⟨s₁.heap.push { cls := .type "list_iterator", data := .fields #[.ref ax, .int 0 0] }, rfl⟩
  have Ilt : env.locals < s₁.heap.objs.size := F.ns.lt
  have fresh₀ : ∀ a, s₁.heap.objs.size ≤ a → h₀.get? a = none := fun a ha => by
    cases e : h₀.get? a with
    | none => rfl
    | some o' => exact absurd (Heap.lt_size (F.keep a o' e)) (Nat.not_lt.mpr ha)
  have nlt : ∀ p ∈ news, p.1 < s₁.heap.objs.size := fun p hp => Heap.lt_size (N p hp).1
  refine wpAny_newObj_type (newEnv_cell1 hcf hpc ?_)
  dsimp only
  have e1 : (s₁.heap.push { cls := .type "list_iterator", data := .fields #[.ref ax, .int 0 0] }).objs.size = s₁.heap.objs.size + 1 := Heap.size_push ..
  have e2 : ((s₁.heap.push { cls := .type "list_iterator", data := .fields #[.ref ax, .int 0 0] }).push { cls := .type "list", dict := none, data := .seq ([] : List Value).toArray }).objs.size = s₁.heap.objs.size + 2 := by rw [Heap.size_push, e1]
  have e3 : (((s₁.heap.push { cls := .type "list_iterator", data := .fields #[.ref ax, .int 0 0] }).push { cls := .type "list", dict := none, data := .seq ([] : List Value).toArray }).push { cls := .type "dict", data := .dict #[] }).objs.size = s₁.heap.objs.size + 3 := by rw [Heap.size_push, e2]
  have g0 : s₁.heap.push { cls := .type "list_iterator", data := .fields #[.ref ax, .int 0 0] } = s₁.heap.push { cls := .type "list_iterator", data := .fields #[.ref ax, .int 0 0] } := rfl
  rw [e1, e2]
  have up4 : ∀ b o, s₁.heap.get? b = some o → ((((s₁.heap.push { cls := .type "list_iterator", data := .fields #[.ref ax, .int 0 0] }).push { cls := .type "list", dict := none, data := .seq ([] : List Value).toArray }).push { cls := .type "dict", data := .dict #[] }).push { cls := .type "cell", data := .cell none }).get? b = some o :=
    fun b o e => Heap.get?_push_of_some _ (Heap.get?_push_of_some _ (Heap.get?_push_of_some _ (Heap.get?_push_of_some _ e)))
  have gI : ((((s₁.heap.push { cls := .type "list_iterator", data := .fields #[.ref ax, .int 0 0] }).push { cls := .type "list", dict := none, data := .seq ([] : List Value).toArray }).push { cls := .type "dict", data := .dict #[] }).push { cls := .type "cell", data := .cell none }).get? s₁.heap.objs.size = some { cls := .type "list_iterator", data := .fields #[.ref ax, .int 0 0] } :=
    Heap.get?_push_of_some _ (Heap.get?_push_of_some _ (Heap.get?_push_of_some _ (Heap.get?_push_size _ rfl)))
  have gD : ((((s₁.heap.push { cls := .type "list_iterator", data := .fields #[.ref ax, .int 0 0] }).push { cls := .type "list", dict := none, data := .seq ([] : List Value).toArray }).push { cls := .type "dict", data := .dict #[] }).push { cls := .type "cell", data := .cell none }).get? (s₁.heap.objs.size + 1) = some (lst []) :=
    Heap.get?_push_of_some _ (Heap.get?_push_of_some _ (e1 ▸ Heap.get?_push_size _ rfl))
  have gC : ((((s₁.heap.push { cls := .type "list_iterator", data := .fields #[.ref ax, .int 0 0] }).push { cls := .type "list", dict := none, data := .seq ([] : List Value).toArray }).push { cls := .type "dict", data := .dict #[] }).push { cls := .type "cell", data := .cell none }).get? (s₁.heap.objs.size + 2) = some { cls := .type "dict", data := .dict #[] } :=
    Heap.get?_push_of_some _ (e2 ▸ Heap.get?_push_size _ rfl)
  have gK : ((((s₁.heap.push { cls := .type "list_iterator", data := .fields #[.ref ax, .int 0 0] }).push { cls := .type "list", dict := none, data := .seq ([] : List Value).toArray }).push { cls := .type "dict", data := .dict #[] }).push { cls := .type "cell", data := .cell none }).get? (s₁.heap.objs.size + 3) = some { cls := .type "cell", data := .cell none } :=
    e3 ▸ Heap.get?_push_size _ rfl
  generalize hH : ((((s₁.heap.push { cls := .type "list_iterator", data := .fields #[.ref ax, .int 0 0] }).push { cls := .type "list", dict := none, data := .seq ([] : List Value).toArray }).push { cls := .type "dict", data := .dict #[] }).push { cls := .type "cell", data := .cell none }) = H at *
  have lp : ∀ s', s' = { s₁ with heap := H } → codeAny (model prog w) A (.compLoop (.ListComp elt [⟨.Name x px, iter, [], 0⟩] scope pos) 0 (.ref s₁.heap.objs.size) (.ref (s₁.heap.objs.size + 1)) (compEnvC scope ((x, s₁.heap.objs.size + 2 + 1) :: cl) (s₁.heap.objs.size + 2) env))
      (compPost (model prog w) A E (some (assign (.Name y py) env)) (fun _ s' => Q .next s') (.ref (s₁.heap.objs.size + 1)) (s₁.heap.objs.size + 2)) s' := by
    rintro _ rfl
    refine loop_C (s₂ := { s₁ with heap := s₁.heap.push { cls := .type "list_iterator", data := .fields #[.ref ax, .int 0 0] } }) (ax := ax) (its := its) (n := n) hh (neC_of _)
      ⟨Nat.ne_of_lt Ilt, Nat.ne_of_lt (Nat.lt_of_lt_of_le Ilt (le_k3 _)), Nat.ne_of_lt (Nat.lt_of_lt_of_le Ilt (le_k2 _)), Nat.ne_of_lt (Nat.lt_of_lt_of_le Ilt (le_k1 _))⟩ (fun b hb => fresh₀ b ?_) hkind hx hsz (Nat.ne_of_lt axlt) ?_ (its.size + 1) _
      ⟨H, _, 0, [], news, { cls := .type "list_iterator", data := .fields #[.ref ax, .int 0 0] }, { cls := .type "cell", data := .cell none }, { cls := .type "dict", data := .dict #[] }, none, rfl, Nat.zero_le _, rfl, rfl, ⟨_, gI, rfl, rfl⟩, F.keeps up4, fun p hp => ?_, rfl, ?_, fun p hp => ?_, hax, R⟩
    · simp only [List.mem_cons, List.not_mem_nil, or_false] at hb
      rcases hb with rfl | rfl | rfl | rfl <;> first | exact Nat.le_refl _ | exact le_k1 _ | exact le_k2 _ | exact le_k3 _
    · intro h tk ys news' oC F' N' o1 hC gC' hNs fin
      obtain ⟨m', hm'⟩ := hNs
      have hCL : s₁.heap.objs.size + 2 ≠ env.locals := Nat.ne_of_gt (Nat.lt_of_lt_of_le Ilt (le_k2 _))
      have hn := hm'.ns gC'
      show wpAny _ A (assign (.Name y py) env (.ref (s₁.heap.objs.size + 1))) _ _ _
      refine wpAny_assign_Name (wpAny_storeName_local hy F'.ns (fun h₂ hn₂ hs₂ => ?_) hp)
      have hL₀ : h₀.get? env.locals = none := Heap.get?_none_of_le F'.above
      have F₂ : Fr h₀ env.locals h₂ (fun z => if z = y then some (.ref (s₁.heap.objs.size + 1)) else m z) := ⟨hn₂, fun b o e => hs₂.extBut b o (fun q => by rw [q, hL₀] at e; cases e) (F'.keep b o e), F'.above⟩
      refine ⟨m', hn.sameBut hs₂ hCL, fun h'' hs'' => fin _ h'' _ (F₂.change hs'' hCL (fresh₀ _ (le_k2 _))) (fun p hp => ?_) o1⟩
      have z : h₂.get? p.1 = some p.2 := hs₂.extBut _ _ (N' p hp).2.1 (N' p hp).1
      exact ⟨hs''.extBut _ _ (hC p hp) z, (N' p hp).2⟩
    · simp only [List.mem_cons] at hp
      have hLn : ∀ a, s₁.heap.objs.size ≤ a → a ≠ env.locals ∧ h₀.get? a = none := fun a ha => ⟨Nat.ne_of_gt (Nat.lt_of_lt_of_le Ilt ha), fresh₀ a ha⟩
      rcases hp with rfl | rfl | rfl | rfl | hp
      · exact ⟨gI, hLn _ (Nat.le_refl _)⟩
      · exact ⟨gK, hLn _ (le_k3 _)⟩
      · exact ⟨gC, hLn _ (le_k2 _)⟩
      · exact ⟨gD, hLn _ (le_k1 _)⟩
      · exact ⟨up4 _ _ (N p hp).1, (N p hp).2⟩
    · exact ⟨fun _ => none, _, _, rfl, by intro x hx; simp at hx, fun _ => rfl⟩
    · have : @LT.lt Nat _ p.1 s₁.heap.objs.size := nlt p hp
      exact ⟨Nat.ne_of_lt this, Nat.ne_of_lt (Nat.lt_of_lt_of_le this (le_k3 _)), Nat.ne_of_lt (Nat.lt_of_lt_of_le this (le_k2 _)), Nat.ne_of_lt (Nat.lt_of_lt_of_le this (le_k1 _))⟩
  have W := Walks.list (prog := prog) (w := w) hh s₁.heap.objs.size ax (Nat.ne_of_lt axlt) its
  exact codeAny_compStart_list (lp _ rfl) (W.self 0 _ _ _ ⟨⟨_, gI, rfl, rfl⟩, ⟨_, up4 _ _ (N _ hax).1, rfl, _, rfl⟩⟩ (lp _ rfl))
theorem restC_inv {elt : Expr} {x : Str} {scope : Scope} {cl : List (Str × Addr)} {s : Shared} {S : List (Addr × Obj) → Prop} {P : Nat → Value → Prop} {Fin : List Value → List (Addr × Obj) → Prop} (K : Nat → List Value → List (Addr × Obj) → Prop) (n : Nat)
    (turn : ∀ i v I oI Kc oK C oC D ys news h tk (E' : Value → Shared → Prop), i < n → K i ys news → P i v → oK.data = .cell (some v) → Fr h₀ L h m → News h₀ L h ((I, oI) :: (Kc, oK) :: (C, oC) :: (D, lst ys) :: news) → Off4 I Kc C D news → NeC I Kc C D →
      wpAny (model prog w) A (eval elt (compEnvC scope ((x, Kc) :: cl) C env)) (CompEndC h₀ L m { s with heap := h, toks := tk } I oI Kc oK C oC D (lst ys) S (fun y news' => K (i + 1) (ys ++ [y]) news')) E' { s with heap := h, toks := tk })
    (fin : ∀ ys news, K n ys news → Fin ys news) :
    ∀ k i (ys : List Value) (news : List (Addr × Obj)), i + k = n → K i ys news → CompRestC prog w A h₀ L m env elt x scope cl s S P Fin k i ys news
  | 0, i, ys, news, hk, hK => fin ys news (by rw [show n = i by omega]; exact hK)
  | k + 1, i, ys, news, hk, hK => by
    intro v I oI Kc oK C oC D h tk E' hP ho F N off ne
    refine wpAny_mono (turn i v I oI Kc oK C oC D ys news h tk E' (by omega) hK hP ho F N off ne) (fun y s' hy' => ?_) fun _ _ e => e
    obtain ⟨h', tk', news', e, F', N', off', hS, r⟩ := hy'
    exact ⟨h', tk', news', e, F', N', off', hS, restC_inv K n turn fin k (i + 1) (ys ++ [y]) news' (by omega) r⟩
theorem rest_inv {elt : Expr} {x : Str} {scope : Scope} {cl : List (Str × Addr)} {s : Shared} {S : List (Addr × Obj) → Prop} {P : Nat → Value → Prop} {Fin : List Value → List (Addr × Obj) → Prop} (K : Nat → List Value → List (Addr × Obj) → Prop) (n : Nat)
    (turn : ∀ i v I oI C oC D m₂ ys news h tk (E' : Value → Shared → Prop), i < n → K i ys news → P i v → NsObj oC m₂ → m₂ x = some v → Fr h₀ L h m → News h₀ L h ((I, oI) :: (C, oC) :: (D, lst ys) :: news) → Off3 I C D news → ((@Ne Nat I C) ∧ (@Ne Nat I D) ∧ (@Ne Nat C D)) →
      wpAny (model prog w) A (eval elt (compEnvC scope cl C env)) (CompEnd h₀ L m { s with heap := h, toks := tk } I oI C oC D (lst ys) S (fun y news' => K (i + 1) (ys ++ [y]) news')) E' { s with heap := h, toks := tk })
    (fin : ∀ ys news, K n ys news → Fin ys news) :
    ∀ k i (ys : List Value) (news : List (Addr × Obj)), i + k = n → K i ys news → CompRest prog w A h₀ L m env elt x scope cl s S P Fin k i ys news
  | 0, i, ys, news, hk, hK => fin ys news (by rw [show n = i by omega]; exact hK)
  | k + 1, i, ys, news, hk, hK => by
    intro v I oI C oC D m₂ h tk E' hP hC hx F N off ne
    refine wpAny_mono (turn i v I oI C oC D m₂ ys news h tk E' (by omega) hK hP hC hx F N off ne) (fun y s' hy' => ?_) fun _ _ e => e
    obtain ⟨h', tk', news', e, F', N', off', hS, r⟩ := hy'
    exact ⟨h', tk', news', e, F', N', off', hS, rest_inv K n turn fin k (i + 1) (ys ++ [y]) news' (by omega) r⟩
end
end
section
noncomputable abbrev TupsAt (news : List (Addr × Obj)) (vs : List Value) (as : List Int) : Prop :=
  vs.length = as.length ∧ ∀ i v, vs[i]? = some v → ∃ ra t1 t2, v = .ref ra ∧ (ra, tupIS (as.getD i 0) (wd (as.getD i 0)) t1 t2) ∈ news
theorem RowsAre.snoc {l : List (Addr × Obj)} {ra : Addr} {rvs : List Value} {c : Nat} {r : List Int} (hm : (ra, listOf rvs.toArray c) ∈ l) (hi : IntsAre rvs r) : ∀ {vs : List Value} {T : List (List Int)}, RowsAre l vs T → RowsAre l (vs ++ [.ref ra]) (T ++ [r])
  | [], [], _ => ⟨⟨ra, rvs, c, rfl, hm, hi⟩, trivial⟩
  | _ :: _, _ :: _, ⟨h, r'⟩ => ⟨h, RowsAre.snoc hm hi r'⟩
section
variable {prog : Program} {w : World} {A : Around} {E : Value → Shared → Prop} {s : Shared} {h₀ : Heap} {L ra : Addr} {news : List (Addr × Obj)} {a : Int} {z : Str} {t1 t2 u : Tok} {Q : Value → Shared → Prop} {elts : Expr} {cc : Const} {kk : Nat} {px : Pos}
theorem r_tup1 (N : News h₀ L s.heap news) (hm : (ra, tupIS a z t1 t2) ∈ news) (h : Q (.str z t2) s) :
    wpAny (model prog w) A (subscriptTail elts (.Constant cc kk px) (.ref ra) (.int 1 u)) Q E s :=
  item_tupleT (l := [.int a t1, .str z t2]) ⟨_, (N _ hm).1, rfl, _, rfl⟩ (by decide) (by decide) (j := 1) (by rfl) (by rfl) h
theorem r_tup0 (N : News h₀ L s.heap news) (hm : (ra, tupIS a z t1 t2) ∈ news) (h : Q (.int a t1) s) :
    wpAny (model prog w) A (subscriptTail elts (.Constant cc kk px) (.ref ra) (.int 0 u)) Q E s :=
  item_tupleT (l := [.int a t1, .str z t2]) ⟨_, (N _ hm).1, rfl, _, rfl⟩ (by decide) (by decide) (j := 0) (by rfl) (by rfl) h
end
theorem fm6 (x y : Int) : (x.fmod 6 - y.fmod 6).fmod 6 = (x - y).fmod 6 := by
  simp only [Int.fmod_eq_emod_of_nonneg _ (show (0 : Int) ≤ 6 by decide)]
  omega
theorem distI_mod (x y : Int) : distI (x.fmod 6) (y.fmod 6) = distI x y := by
  unfold distI
  rw [fm6, fm6]
theorem off1_ne {D : Addr} : ∀ {l : List (Addr × Obj)}, LCg.Off1 D l → ∀ p ∈ l, (@Ne Nat p.1 D)
  | [], _ => fun _ h => nomatch h
  | q :: r, h => fun p hp => by
    rcases List.mem_cons.mp hp with rfl | hp
    · exact h.1
    · exact off1_ne h.2 p hp
noncomputable abbrev TupsF (news : List (Addr × Obj)) (vs : List Value) (f : Nat → Int) : Prop :=
  ∀ i v, vs[i]? = some v → ∃ ra t1 t2, v = .ref ra ∧ (ra, tupIS (f i) (wd (f i)) t1 t2) ∈ news
theorem tups_snoc {l l' : List (Addr × Obj)} {vs : List Value} {f : Nat → Int} {i : Nat} {D : Addr} {t1 t2 : Tok} (hs : ∀ p ∈ l, p ∈ l') (hl : vs.length = i) (hm : (D, tupIS (f i) (wd (f i)) t1 t2) ∈ l') (h : TupsF l vs f) : TupsF l' (vs ++ [.ref D]) f := by
  intro j v hv
  by_cases hj : j < vs.length
  · rw [List.getElem?_append_left hj] at hv
    obtain ⟨ra, a, b, e, hm⟩ := h j v hv
    exact ⟨ra, a, b, e, hs _ hm⟩
  · rw [List.getElem?_append_right (by omega)] at hv
    have hj' : j - vs.length = 0 := by
      cases e : j - vs.length with
      | zero => rfl
      | succ q => rw [e] at hv; simp at hv
    rw [hj'] at hv
    simp at hv
    have : j = i := by omega
    subst hv; subst this
    exact ⟨D, t1, t2, rfl, hm⟩
theorem tups_map {l : List (Addr × Obj)} {vs : List Value} {ns : List Int} (hl : vs.length = ns.length) (h : TupsF l vs fun j => (ns.getD j 0).fmod 6) : TupsAt l vs (ns.map fun x => x.fmod 6) := by
  refine ⟨by simpa using hl, fun i v hv => ?_⟩
  have e : (ns.map fun x => x.fmod 6).getD i 0 = (ns.getD i 0).fmod 6 := by
    rw [List.getD_eq_getElem?_getD, List.getD_eq_getElem?_getD, List.getElem?_map]
    cases ns[i]? <;> rfl
  rw [e]
  exact h i v hv
theorem len_mix (a b : List Int) (hb : b.length = 4) : (a.take 4 ++ b.drop ((a.length : Nat) : Int).toNat).length = 4 := by
  simp only [List.length_append, List.length_take, List.length_drop, Int.toNat_natCast]
  omega
theorem len_mix2 (a b : List Int) (hb : b.length = 4) : ((a.drop 4).take (min 8 a.length - 4) ++ b.drop (((a.drop 4).length : Nat) : Int).toNat).length = 4 := by
  simp only [List.length_append, List.length_take, List.length_drop, Int.toNat_natCast]
  omega
theorem neqA (L : Nat) : L + 1 + 1 ≠ L + 1 := by omega
theorem neqB (L : Nat) : L + 1 + 1 + 1 ≠ L + 1 := by omega
theorem neqC (L : Nat) : L + 1 + 1 + 1 + 1 ≠ L + 1 := by omega
end
section
section
variable {prog : Program} {w : World} {A : Around} {E : Value → Shared → Prop} {s : Shared} {env : Env} {h₀ : Heap} {x : Str} {px : Pos} {body : List Stmt} {Q : Flow → Shared → Prop}
noncomputable def TPost (h₀ : Heap) (L : Addr) (I : Addr) (oI : Obj) (Jn : (Str → Option Value) → List (Addr × Obj) → Prop) (s₁ : Shared) (f : Flow) (s₂ : Shared) : Prop :=
  f = .next ∧ ∃ h' tk m' news', s₂ = { s₁ with heap := h', toks := tk } ∧ Fr h₀ L h' m' ∧ News h₀ L h' ((I, oI) :: news') ∧ (∀ p ∈ news', p.1 ≠ I) ∧ Jn m' news'
theorem iter_rangeT {r : Addr} {b₀ : Int} {t₀ u₀ v₀ : Tok} {n : Nat} {m₀ : Str → Option Value} {news : List (Addr × Obj)} (J : Nat → (Str → Option Value) → List (Addr × Obj) → Prop)
    (hh : A.handled = none) (hr : IsRange s.heap r 0 b₀ 1 t₀ u₀ v₀) (hsmall : Builtin.Range.small 0 b₀ 1 = true) (hn : Builtin.Range.rangeSize 0 b₀ 1 = (n : Int)) (F : Fr h₀ env.locals s.heap m₀) (N : News h₀ env.locals s.heap news) (h0 : J 0 m₀ news)
    (turn : ∀ (I : Addr) (oI : Obj) (i : Nat) (t : Tok) m₁ news₁ (s₁ : Shared), i < n → J i m₁ news₁ → (∀ p ∈ news₁, p.1 ≠ I) → Fr h₀ env.locals s₁.heap m₁ → News h₀ env.locals s₁.heap ((I, oI) :: news₁) →
      wpAny (model prog w) A (assign (.Name x px) env (.int (i : Int) t)) (fun _ s₃ => wpAny (model prog w) A (execs body env) (TPost h₀ env.locals I oI (J (i + 1)) s₁) E s₃) E s₁)
    (done : ∀ h' tk m' news', Fr h₀ env.locals h' m' → News h₀ env.locals h' news' → J n m' news' → Q .next { s with heap := h', toks := tk }) :
    wpAny (model prog w) A (pyIter (.ref r)) (fun it s₂ => LoopAtT prog w A h₀ env (.Name x px) body Q E it s₂) E s := by
  refine wpAny_pyIter_range hr hsmall ?_
  have W : Walks prog w A s.heap.objs.size [s.heap.objs.size] [s.heap.objs.size] n (fun i v => i < n ∧ ∃ t, v = .int (0 + i * 1) t)
      (fun i h => IsRangeIter h s.heap.objs.size (0 + (i : Nat) * 1) ((n : Int) - (i : Nat)) 1) := (Walks.range hh _ 0 1 n).bound
  have hnew := next_is_new F
  refine ⟨_, _, _, n, _, _, m₀, news, J, rfl, W, ?_, ?_, ?_, (by show IsRangeIter _ _ _ _ _; rw [hn]; simpa using Heap.get?_push_size _ rfl), F.push _, (fun p hp => ⟨Heap.get?_push_of_some _ (N p hp).1, (N p hp).2⟩), (fun i s' v Q' _ hQ => wpAny_of_eq (a := ()) rfl hQ), h0, ?_, ?_⟩
  · intro hm
    exact absurd F.ns.lt ((List.mem_singleton.mp hm) ▸ Nat.lt_irrefl _)
  · intro b hb
    rw [List.mem_singleton.mp hb]
    exact hnew
  · intro p hp hI
    exact absurd (Heap.lt_size (N p hp).1) ((List.mem_singleton.mp hI) ▸ Nat.lt_irrefl _)
  · rintro i v m₁ news₁ s₁ own hin ⟨_, t, rfl⟩ hJ hoff hown hget hall hst F₁ N₁
    have hst' : s₁.heap.get? s.heap.objs.size = some (itR (0 + ((i + 1 : Nat) : Int)) ((n : Int) - ((i + 1 : Nat) : Int))) := by
      have q : IsRangeIter s₁.heap s.heap.objs.size (0 + ((i + 1 : Nat) : Int) * 1) ((n : Int) - ((i + 1 : Nat) : Int)) 1 := hst
      rw [Int.mul_one] at q
      exact q
    have hmem := hall s.heap.objs.size (List.mem_singleton.mpr rfl) hnew _ hst'
    have e1 : (0 : Int) + (i : Int) * 1 = (i : Int) := by omega
    rw [e1]
    have N₂ : News h₀ env.locals s₁.heap ((s.heap.objs.size, itR (0 + ((i + 1 : Nat) : Int)) ((n : Int) - ((i + 1 : Nat) : Int))) :: news₁) := fun p hp => by
      rcases List.mem_cons.mp hp with rfl | hp
      · exact N₁ _ (List.mem_append_left _ hmem)
      · exact N₁ _ (List.mem_append_right _ hp)
    refine wpAny_mono (turn s.heap.objs.size _ i t m₁ news₁ s₁ hin hJ (fun p hp e => hoff p hp (List.mem_singleton.mpr e)) F₁ N₂) (fun _ s₃ h₃ => wpAny_mono h₃ (fun f s₄ h₄ => ?_) fun _ _ e => e) fun _ _ e => e
    obtain ⟨ef, h', tk, m', news', e, F', N', ho, r⟩ := h₄
    refine ⟨ef, h', tk, m', news', e, F', fun p hp => ?_, fun p hp hI => ho p hp (List.mem_singleton.mp hI), r⟩
    rcases List.mem_append.mp hp with hp | hp
    · have h1 : p.1 = s.heap.objs.size := List.mem_singleton.mp (hown p hp)
      have h2 : s₁.heap.get? p.1 = some p.2 := hget p hp
      have h3 : p = (s.heap.objs.size, itR (0 + ((i + 1 : Nat) : Int)) ((n : Int) - ((i + 1 : Nat) : Int))) := by
        rw [h1, hst'] at h2
        exact Prod.ext h1 (Option.some.inj h2).symm
      rw [h3]; exact N' _ (List.mem_cons_self ..)
    · exact N' _ (List.mem_cons_of_mem _ hp)
  · rintro h' tk m' news' F' N' _ hJ
    exact done h' tk m' news' F' N' hJ
end
end
section

section
theorem words_19 : True := by
  k_with_none
  k_with "storeName" => (k_here; (with_reducible show wpAny _ _ (storeName (envOf _ _ _ _) _ _) _ _ _); k_dflt (refine' stG ?FhW ?NhW ?_ ?ahW ?bhW; (case FhW => k_asm); (case NhW => k_asm); (case ahW => rfl); (case bhW => rfl); k_whole; intro hxW tkxW FxW NxW; (try k_sweep)))
  k_with "binaryOp Add int int" => (refine r_add (by ((try simp only [Int.reduceAdd, Int.reduceSub, Int.reduceNeg]); exact rfl)) ?_)
  k_with "binaryOp Sub int int" => (refine r_sub (by ((try simp only [Int.reduceAdd, Int.reduceSub, Int.reduceNeg]); exact rfl)) ?_)
  k_with "inplaceOp Add int int" => (refine r_iadd (by ((try simp only [Int.reduceAdd, Int.reduceSub, Int.reduceNeg]); exact rfl)) ?_)
  k_with "inplaceOp Sub int int" => (refine r_isub (by ((try simp only [Int.reduceAdd, Int.reduceSub, Int.reduceNeg]); exact rfl)) ?_)
  k_with "execs cons" => (k_here; (with_reducible show wpAny _ _ _ _ _ (Shared.mk _ _ _ (_ + _) _)); refine genT ?_; intro tkW)
  k_with "execs nil" => (k_here; (with_reducible show wpAny _ _ _ _ _ (Shared.mk _ _ _ (_ + _) _)); refine genT ?_; intro tkW)
  k_with "binaryOp Mult int int" => (refine r_mul (by ((try simp only [Int.reduceAdd, Int.reduceSub, Int.reduceNeg, Int.reduceMul]); exact rfl)) (by mul_fits) ?_)
  k_with "ite" => (k_closed; (first | with_reducible refine ite_posI (by decide) ?_ | with_reducible refine ite_negI (by decide) ?_))
  k_with "eval Name" => (k_here; (with_reducible show wpAny _ _ (eval (Expr.Name _ _) (envOfC _ _ _ _ _)) _ _ _); (first | (with_reducible refine' nmC_range (w := _) ?k1hW ?k2hW ?k3hW ?k4hW ?k5hW ?_) | (with_reducible refine' nmC_min (w := _) ?k1hW ?k2hW ?k3hW ?k4hW ?k5hW ?_) | (with_reducible refine' nmC_round (w := _) ?k1hW ?k2hW ?k3hW ?k4hW ?k5hW ?_) | (with_reducible refine' nmC_rgbtohls (w := _) ?k1hW ?k2hW ?k3hW ?k4hW ?k5hW ?_) | (with_reducible refine' nmC_rgbtohsv (w := _) ?k1hW ?k2hW ?k3hW ?k4hW ?k5hW ?_)); (case k1hW => k_asm); (case k2hW => k_asm); (case k3hW => k_asm); (case k4hW => decide +kernel); (case k5hW => first | exact rfl | assumption); k_whole)
  k_with "eval Name" => (k_here; (with_reducible show wpAny _ _ (eval (Expr.Name _ _) (compEnvC _ _ _ _)) _ _ _); (first | (with_reducible refine' nmK_min (w := _) ?k1hW ?k2hW ?k3hW ?k4hW ?k5hW ?k6hW ?k7hW ?_) | (with_reducible refine' nmK_abs (w := _) ?k1hW ?k2hW ?k3hW ?k4hW ?k5hW ?k6hW ?k7hW ?_) | (with_reducible refine' nmK_levenshteindistance (w := _) ?k1hW ?k2hW ?k3hW ?k4hW ?k5hW ?k6hW ?k7hW ?_) | (with_reducible refine' nmK_lawtold (w := _) ?k1hW ?k2hW ?k3hW ?k4hW ?k5hW ?k6hW ?k7hW ?_) | (with_reducible refine' nmK_lawleast (w := _) ?k1hW ?k2hW ?k3hW ?k4hW ?k5hW ?k6hW ?k7hW ?_)); (case k1hW => k_asm); (case k2hW => k_asm); (case k3hW => k_asm); (case k4hW => k_dflt (exact rfl)); (case k5hW => k_dflt (exact rfl)); (case k6hW => k_dflt (exact rfl)); (case k7hW => k_dflt (exact rfl)); k_whole)
  k_with "eval Name" => (k_here; (with_reducible show wpAny _ _ (eval (Expr.Name _ _) (compEnvC _ _ _ _)) _ _ _); k_dflt (refine' kOwn ?k1hW ?k2hW ?k3hW ?k4hW ?k5hW ?k6hW ?k7hW ?_; (case k2hW => exact rfl); (case k1hW => k_asm); (case k3hW => k_mem); (case k4hW => assumption); (case k5hW => assumption); (case k6hW => exact rfl); (case k7hW => decide); k_whole))
  k_with "eval Name" => (k_here; (with_reducible show wpAny _ _ (eval (Expr.Name _ _) (compEnvC _ _ _ _)) _ _ _); k_dflt (refine' kFree ?k1hW ?k2hW ?k3hW ?k4hW ?k5hW ?k6hW ?k7hW ?k8hW ?_; (case k2hW => exact rfl); (case k1hW => k_asm); (case k3hW => exact rfl); (case k4hW => k_mem); (case k5hW => k_asm); (case k6hW => exact rfl); (case k7hW => decide); (case k8hW => decide); k_whole))
  k_with "eval Name" => (k_here; (with_reducible show wpAny _ _ (eval (Expr.Name _ _) (envOfC _ _ _ _ _)) _ _ _); k_dflt (refine' cC ?k1hW ?k2hW ?k3hW ?k4hW ?k5hW ?k6hW ?k7hW ?_; (case k2hW => exact rfl); (case k1hW => k_asm); (case k3hW => exact rfl); (case k4hW => k_mem); (case k5hW => k_asm); (case k6hW => exact rfl); (case k7hW => decide); k_whole))
  k_with "eval Name" => (k_here; (with_reducible show wpAny _ _ (eval (Expr.Name _ _) (envOfC _ _ _ _ _)) _ _ _); k_dflt (refine' cL ?k1hW ?k2hW ?k3hW ?k4hW ?k5hW ?_; (case k2hW => exact rfl); (case k1hW => k_asm); (case k3hW => exact rfl); (case k4hW => exact rfl); (case k5hW => decide); k_whole))
  k_with "storeName" => (k_here; (with_reducible show wpAny _ _ (storeName (envOfC _ _ _ _ _) _ _) _ _ _); k_dflt (refine' sC ?k1hW ?k2hW ?k3hW ?k4hW ?k5hW ?k6hW ?k7hW ?_; (case k3hW => exact rfl); (case k1hW => k_asm); (case k2hW => k_asm); (case k4hW => exact rfl); (case k5hW => k_updF); (case k6hW => k_asm); (case k7hW => exact rfl); k_whole; intro hxW oxW tkxW FxW NxW dxW; (try dsimp only at NxW); (try k_sweep)))
  k_with "storeName" => (k_here; (with_reducible show wpAny _ _ (storeName (envOfC _ _ _ _ _) _ _) _ _ _); k_dflt (refine' sL ?k1hW ?k2hW ?k3hW ?k4hW ?_; (case k3hW => exact rfl); (case k1hW => k_asm); (case k2hW => k_asm); (case k4hW => exact rfl); k_whole; intro hxW tkxW FxW NxW; (try k_sweep)))
  k_with "exec Assign" => (k_here; (with_reducible show wpAny _ _ (exec (Stmt.Assign [Expr.Name _ _] _ _) _) _ _ _); refine wpAny_Assign_Name ?_)
  k_with "exec Assign cons ListComp" => (k_here; (with_reducible show wpAny _ _ (exec (Stmt.Assign [Expr.Name _ _] _ _) (envOfC _ _ _ _ _)) _ _ _); k_dflt (refine' aComp ?k1hW ?_; (case k1hW => exact rfl)))
  k_with "subscriptTail Name Constant ref int" => (k_here; (with_reducible rename News _ _ _ _ => NxW); (with_unfolding_all refine r_rowC NxW (by k_mem) (by decide) (by decide) (by exact rfl) ?_))
  k_with "subscriptTail Name Name ref int" => (k_here; (with_reducible rename News _ _ _ _ => NxW); (with_unfolding_all refine r_rowN NxW (by k_mem) (by decide) (by decide) (by exact rfl) ?_))
  k_with "subscriptTail Constant Name str int" => (k_here; refine r_itemK (by first | exact (by decide : Txt.item (Str.ofString "RGB") 0 = Str.mk #[82]) | exact (by decide : Txt.item (Str.ofString "RGB") 1 = Str.mk #[71]) | exact (by decide : Txt.item (Str.ofString "RGB") 2 = Str.mk #[66]) | exact (by decide : Txt.item (Str.ofString "rgb") 0 = Str.mk #[114]) | exact (by decide : Txt.item (Str.ofString "rgb") 1 = Str.mk #[103]) | exact (by decide : Txt.item (Str.ofString "rgb") 2 = Str.mk #[98])) (by decide) (by decide) (by decide) ?_)
  k_with "CompRest" => (with_unfolding_all first | (refine LCg.CompRest.succ ?_; intro vxW IxW oIxW CxW oCxW DxW mxW hxW tkxW ExW hvxW hCxW hxxW FxW NxW offxW nexW; (obtain ⟨t9xW, hv9xW⟩ := hvxW; subst hv9xW); (try simp only [w00, w01, w02, w03, w04, w05, List.getD_cons_zero, List.getD_cons_succ] at hxxW); (have off9xW := offxW); (try simp only [LCg.Off3, and_true] at offxW)) | refine LCg.CompRest.zero ?_)
  k_with "CompSrc" => (k_here; k_dflt (refine LCg.CompSrc.range (by rfl) (by k_asm) (by k_asm) (by assumption) (by first | decide | rfl) (by first | rfl | decide) (by first | size_fits | exact Nat.le_of_ble_eq_true rfl) ?_; intro gxW; lcg_lit))
  k_with "CompSrc" => (k_here; k_dflt (refine LCg.CompSrc.ledger (by rfl) (by k_asm) (by k_asm) (by k_mem) (by first | size_fits | exact Nat.le_of_ble_eq_true rfl) ?_; intro gxW; lcg_lit))
  k_with "eval Name" => (k_here; (with_reducible show wpAny _ _ (eval (Expr.Name _ _) (compEnvC _ _ _ _)) _ _ _); k_dflt (refine' kCell ?k1hW ?k2hW ?k3hW ?k4hW ?k5hW ?k6hW ?k7hW ?_; (case k2hW => exact rfl); (case k1hW => k_asm); (case k3hW => exact rfl); (case k4hW => (first | k_mem | (repeat (first | assumption | refine List.mem_cons_of_mem _ ?_)))); (case k5hW => k_asm); (case k6hW => exact rfl); (case k7hW => decide); k_whole))
  k_with "eval Name" => (k_here; (with_reducible show wpAny _ _ (eval (Expr.Name _ _) (envOfC _ _ _ _ _)) _ _ _); (first | (with_reducible refine' lwG_len (w := _) ?hchW ?k1hW ?k2hW ?k3hW ?_) | (with_reducible refine' lwG_range (w := _) ?hchW ?k1hW ?k2hW ?k3hW ?_) | (with_reducible refine' lwG_sum (w := _) ?hchW ?k1hW ?k2hW ?k3hW ?_) | (with_reducible refine' lwG_lawleast (w := _) ?hchW ?k1hW ?k2hW ?k3hW ?_) | (with_reducible refine' lwG_insortright (w := _) ?hchW ?k1hW ?k2hW ?k3hW ?_) | (with_reducible refine' lwG_bisectright (w := _) ?hchW ?k1hW ?k2hW ?k3hW ?_)); (case hchW => with_reducible assumption); (case k1hW => k_asm); (case k2hW => k_asm); (case k3hW => k_asm); k_whole)
  k_with "eval Name" => (k_here; (with_reducible show wpAny _ _ (eval (Expr.Name _ _) (envOfC _ _ _ _ _)) _ _ _); (first | (with_reducible refine' lwL_others ?hchW ?k1hW ?k2hW ?k3hW ?_) | (with_reducible refine' lwL_twos ?hchW ?k1hW ?k2hW ?k3hW ?_) | (with_reducible refine' lwL_more ?hchW ?k1hW ?k2hW ?k3hW ?_) | (with_reducible refine' lwL_place ?hchW ?k1hW ?k2hW ?k3hW ?_)); (case hchW => with_reducible assumption); (case k1hW => k_asm); (case k2hW => (first | k_mem | (repeat (first | assumption | refine List.mem_cons_of_mem _ ?_)))); (case k3hW => k_asm); k_whole)
  k_with "eval Name" => (k_here; (with_reducible show wpAny _ _ (eval (Expr.Name _ _) (envOfC _ _ _ _ _)) _ _ _); (first | (with_reducible refine' lwL_script ?hchW ?k1hW ?k2hW ?_) | (with_reducible refine' lwL_numbers ?hchW ?k1hW ?k2hW ?_) | (with_reducible refine' lwL_ones ?hchW ?k1hW ?k2hW ?_) | (with_reducible refine' lwL_rows ?hchW ?k1hW ?k2hW ?_) | (with_reducible refine' lwL_k ?hchW ?k1hW ?k2hW ?_) | (with_reducible refine' lwL_table ?hchW ?k1hW ?k2hW ?_) | (with_reducible refine' lwL_count ?hchW ?k1hW ?k2hW ?_)); (case hchW => with_reducible assumption); (case k1hW => k_asm); (case k2hW => first | exact rfl | assumption); k_whole)
  k_with "storeName" => (k_here; (with_reducible show wpAny _ _ (storeName (envOfC _ _ _ _ _) _ _) _ _ _); (first | (with_reducible refine' lwS_script ?hchW ?k1hW ?k2hW ?_) | (with_reducible refine' lwS_numbers ?hchW ?k1hW ?k2hW ?_) | (with_reducible refine' lwS_ones ?hchW ?k1hW ?k2hW ?_) | (with_reducible refine' lwS_rows ?hchW ?k1hW ?k2hW ?_) | (with_reducible refine' lwS_k ?hchW ?k1hW ?k2hW ?_) | (with_reducible refine' lwS_table ?hchW ?k1hW ?k2hW ?_) | (with_reducible refine' lwS_count ?hchW ?k1hW ?k2hW ?_)); (case hchW => with_reducible assumption); (case k1hW => k_asm); (case k2hW => k_asm); k_whole; intro hxW tkxW FxW NxW; (try k_sweep))
  k_with "storeName" => (k_here; (with_reducible show wpAny _ _ (storeName (envOfC _ _ _ _ _) _ _) _ _ _); (first | (with_reducible refine' lwS_others ?hchW ?k1hW ?k2hW ?k5hW ?k6hW ?_) | (with_reducible refine' lwS_twos ?hchW ?k1hW ?k2hW ?k5hW ?k6hW ?_) | (with_reducible refine' lwS_more ?hchW ?k1hW ?k2hW ?k5hW ?k6hW ?_) | (with_reducible refine' lwS_place ?hchW ?k1hW ?k2hW ?k5hW ?k6hW ?_)); (case hchW => with_reducible assumption); (case k1hW => k_asm); (case k2hW => k_asm); (case k5hW => k_updF); (case k6hW => k_asm); k_whole; intro hxW oxW tkxW FxW NxW dxW; (try dsimp only at NxW); (try k_sweep))
  k_with "subscriptTail Name Constant ref int" => (k_here; (with_reducible rename News _ _ _ _ => NxW); k_dflt (refine r_rowIC NxW (by (first | k_mem | (repeat (first | assumption | refine List.mem_cons_of_mem _ ?_)))) (by assumption) (by decide) (by omega) (by omega) ?_; intro t9xW))
  k_with "subscriptTail Name Constant ref int" => (k_here; (with_reducible rename News _ _ _ _ => NxW); (with_unfolding_all refine r_rowC NxW (by (first | k_mem | (repeat (first | assumption | refine List.mem_cons_of_mem _ ?_)))) (by decide) (by decide) (by exact rfl) ?_))
  k_with "eval ListComp" => (k_here; (with_reducible show wpAny _ _ (eval (Expr.ListComp (Expr.Name _ _) [⟨_, Expr.Name _ _, [_], _⟩] _ _) _) _ _ _); k_dflt (refine LCt.ListComp_T (F₀ := by k_asm) (by with_unfolding_all rfl) (by decide) (by rfl) (by decide) (by rfl) ?_))
  k_with "CompSrcT" => (k_here; (with_reducible rename News _ _ _ _ => NxW); k_dflt (refine LCt.CompSrcT.ledger (by rfl) (by k_asm) NxW (by (first | k_mem | (repeat (first | assumption | refine List.mem_cons_of_mem _ ?_)))) (by assumption) ?_))
  k_with "call builtin:len" => (k_here; (with_reducible show wpAny _ _ (call (Value.builtin _) [Value.ref _]) _ _ _); k_dflt (refine len_mem (by k_asm) (by (first | k_mem | (repeat (first | assumption | refine List.mem_cons_of_mem _ ?_)))) (by assumption) (by assumption) ?_))
  k_with "subscriptTail Name Constant ref int" => (k_here; (with_reducible show wpAny _ _ (subscriptTail _ _ (Value.ref _) (Value.int 1 _)) _ _ _); (with_reducible rename News _ _ _ _ => NxW); k_dflt (refine r_tup1 NxW (by (first | k_mem | (repeat (first | assumption | refine List.mem_cons_of_mem _ ?_)))) ?_))
  k_with "subscriptTail Subscript Name Name Constant ref int" => (k_here; (with_reducible show wpAny _ _ (subscriptTail _ _ (Value.ref _) (Value.int 0 _)) _ _ _); (with_reducible rename News _ _ _ _ => NxW); k_dflt (refine r_tup0 NxW (by (first | k_mem | (repeat (first | assumption | refine List.mem_cons_of_mem _ ?_)))) ?_))
  k_with "subscriptTail Name Name ref int" => (k_here; (with_reducible rename News _ _ _ _ => NxW); k_dflt (refine r_rowN NxW (by (first | k_mem | (repeat (first | assumption | refine List.mem_cons_of_mem _ ?_)))) (by omega) (by omega) (by assumption) ?_))
  trivial

theorem law10 (w : World) (mean : ExcName → Option Value) (mg mb : Str → Option Value) (dp un : Nat) (gd : Option (List Code)) (af : Addr) (ccd : Value) (outer : List Env) (A₀ : Around) (base h₀ : Heap) (L : Addr) (E : Value → Shared → Prop) (QF : Flow → Shared → Prop) (m : Str → Option Value) (news : List (Addr × Obj)) (tb mo : Addr) (tvs mvs : List Value) (T : List (List Int)) (ms : List Int) (n c : Nat) (o3 : Obj)
    (hm : m (Str.ofString "table") = some (.ref tb)) (ht : (tb, listOf tvs.toArray n) ∈ news) (hT : RowsAre news tvs T) (hTl : T.length = 4) (hTr : ∀ r ∈ T, r.length = 4) (h3 : (L + 1 + 1 + 1, o3) ∈ news) (d3 : o3.data = .cell (some (.ref mo)))
    (hmo : (mo, listOf mvs.toArray c) ∈ news) (hms : IntsAre mvs ms) (hml : ms.length = 6) (hmb : ∀ x ∈ ms, -4 ≤ x ∧ x ≤ 4) (hfin : leastV T [0, 1, 2, 3] = (ms.map fun c => if c - ms.getD 3 0 < 0 then -(c - ms.getD 3 0) else c - ms.getD 3 0).sum) :
    LawAt w mean mg mb dp un gd af ccd outer A₀ base h₀ L E E QF 10 m news := by
  dsimp only [LawAt, lawEnv]
  w_top off
  k_fill
  (conv in (lawFn.1.drop _) => whnf)
  have hsc : lawFn.2 = lawFn.2 := rfl
  (conv at hsc => lhs; whnf)
  rw [← hsc]
  dsimp only
  intro s B' F' X' N' T' hdp hun hE hret
  repeat' ((first | (k_unfold; (try dsimp only)) | (k_end; wrow_close) | walk1 | (dsimp only; walk1) | (leave1; walk_say "STEP leave1"; try dsimp only) | fail "no step"))
  rename News _ _ _ _ => N1
  refine' least_spec w mean mg mb T tvs [0, 1, 2, 3] _ tb _ n _ _ ?q1 ?q2 ?q3 ?q4 (by decide) (by rw [hTl]; rfl) (by omega) ?q8 _ _ _ _ _ _ _ _ _ _ _ _ _ _ _ _ _ ?k1 ?k2 ?k3 N1 ?k5 ?kK ?kd ?ku ?_
  case k1 => k_asm
  case k2 => k_asm
  case k3 => k_asm
  case k5 => k_asm
  case kK => exact rfl
  case kd => ktr_room
  case ku => ktr_units
  case q1 => (first | k_mem | (repeat (first | assumption | refine List.mem_cons_of_mem _ ?_)))
  case q2 => exact RowsAre.mono (fun p hp => List.mem_cons_of_mem _ hp) hT
  case q4 => k_mem
  case q3 => exact .cons _ _ (.cons _ _ (.cons _ _ (.cons _ _ .nil)))
  case q8 => exact fun r hr => ⟨by have := hTr r hr; omega, fun j hj => by have := hTr r hr; simp only [List.mem_cons, List.not_mem_nil, or_false] at hj; omega⟩
  intro t9 h9 tk9 F9 N9
  repeat' ((first | (k_unfold; (try dsimp only)) | (k_end; wrow_close) | walk1 | (dsimp only; walk1) | (leave1; walk_say "STEP leave1"; try dsimp only) | fail "no step"))
  have hsz : mvs.toArray.size = ms.length := by rw [List.size_toArray, hms.length]
  refine LCg.CompSrc.ledger (its := mvs.toArray) (by rfl) (by k_asm) N9 (by (first | k_mem | (repeat (first | assumption | refine List.mem_cons_of_mem _ ?_)))) (by rw [hsz, hml, sizeLine_eq]; omega) ?_
  intro g5
  refine rest_map (Or.inr ⟨_, by (first | k_mem | (repeat (first | assumption | refine List.mem_cons_of_mem _ ?_))), rfl, _, rfl⟩) (fun i y => ∃ t, y = Value.int (if ms.getD i 0 - ms.getD 3 0 < 0 then -(ms.getD i 0 - ms.getD 3 0) else ms.getD i 0 - ms.getD 3 0) t) mvs.toArray.size ?turn ?fin mvs.toArray.size 0 [] (by omega) rfl (by intro j y hy; simp at hy)
  case turn =>
    intro i2 v2 I2 oI2 C2 oC2 D2 m2 ys2 h2 tk2 E2 hi2 hv2 hC2 hx2 F2 N2 off2 ne2
    obtain ⟨z2, t2, rfl, hz2⟩ := hms.at i2 v2 (by simpa using hv2)
    have hzd : ms.getD i2 0 = z2 := by rw [List.getD_eq_getElem?_getD, hz2]; rfl
    rw [hzd]
    repeat' ((first | (k_unfold; (try dsimp only)) | (k_end; wrow_close) | walk1 | (dsimp only; walk1) | (leave1; walk_say "STEP leave1"; try dsimp only) | fail "no step"))
    all_goals (rename News _ _ _ _ => NZ; exact EndM.intro (by k_asm) NZ (fun p hp => hp) ⟨_, rfl⟩)
  case fin =>
    intro ys hy hr
    have hyi := intsOf mvs.toArray.size ys hy hr
    rw [hsz, range_getD (fun z => if z - ms.getD 3 0 < 0 then -(z - ms.getD 3 0) else z - ms.getD 3 0) 0 ms] at hyi
    repeat' ((first | (k_unfold; (try dsimp only)) | (k_end; wrow_close) | walk1 | (dsimp only; walk1) | (leave1; walk_say "STEP leave1"; try dsimp only) | fail "no step"))
    rw [beq_iff_eq.mpr hfin]
    exact hret _ m (by k_asm) rfl rfl rfl
end
section
theorem law9 (w : World) (mean : ExcName → Option Value) (mg mb : Str → Option Value) (dp un : Nat) (gd : Option (List Code)) (af : Addr) (ccd : Value) (outer : List Env) (A₀ : Around) (base h₀ : Heap) (L : Addr) (E : Value → Shared → Prop) (QF : Flow → Shared → Prop) (m : Str → Option Value) (o1 o3 o4 oI : Obj) (I mo r0 r1 rw nu ot : Addr) (mvs rvs0 rvs1 nvs ovs : List Value) (ms R0 R1 ns os : List Int) (n n0 n1 nR nN nO : Nat) (news0 : List (Addr × Obj)) (i : Nat) (t : Tok) (QT : Flow → Shared → Prop)
    (hi : i < 6) (hm1 : m (Str.ofString "rows") = some (.ref rw)) (hm2 : m (Str.ofString "numbers") = some (.ref nu))
    (g1 : (rw, listOf [Value.ref r0, Value.ref r1].toArray nR) ∈ news0) (g2 : (r0, listOf rvs0.toArray n0) ∈ news0) (g3 : (r1, listOf rvs1.toArray n1) ∈ news0) (g4 : (nu, listOf nvs.toArray nN) ∈ news0) (g5 : (ot, listOf ovs.toArray nO) ∈ news0) (g6 : (L + 1, o1) ∈ news0)
    (d1 : o1.data = .cell (some (.ref ot))) (d3 : o3.data = .cell (some (.ref mo))) (d4 : o4.data = .cell (some (.int i t)))
    (e0 : IntsAre rvs0 R0) (e1 : IntsAre rvs1 R1) (e2 : IntsAre nvs ns) (e3 : IntsAre ovs os) (e4 : IntsAre mvs ms) (s0 : R0.Pairwise (· ≤ ·)) (s1 : R1.Pairwise (· ≤ ·)) (s2 : ms.Pairwise (· ≤ ·)) (l0 : R0.length = 4) (l1 : R1.length = 4) (l2 : ns.length = 4) (l3 : os.length = 4) (l4 : ms.length ≤ 10)
    (c0 : cntI R0 i = ((ns.filter fun x => decide (x.fmod 6 ≤ (i : Int))).length : Int)) (c1 : cntI R1 i = ((os.filter fun x => decide (x.fmod 6 ≤ (i : Int))).length : Int))
    (f1 : I ≠ mo) (f2 : (L + 1 + 1 + 1 + 1 : Nat) ≠ mo) (f3 : (L + 1 + 1 + 1 : Nat) ≠ mo) (f4 : ∀ p ∈ news0, p.1 ≠ mo)
    (s : Shared) (B' : Below A₀ base outer h₀) (F' : Fr h₀ L s.heap m) (X' : (hd.heap_39 w.params).In h₀) (N' : News h₀ L s.heap ((I, oI) :: (L + 1 + 1 + 1 + 1, o4) :: (L + 1 + 1 + 1, o3) :: (mo, listOf mvs.toArray n) :: news0)) (T' : Top hd.view_39 (looseW hd.view_39 [Str.ofString "insort_right", Str.ofString "bisect_right"]) mean mg mb h₀) (hdp : dp + 12 < recursionLimit) (hun : un + 300 < cLine)
    (hret : ∀ (h' : Heap) (tk' : Nat) (v : Value) (mvs' : List Value), Fr h₀ L h' (fun y => if y = (Str.ofString "count") then some v else m y) → News h₀ L h' ((I, oI) :: (L + 1 + 1 + 1 + 1, o4) :: (L + 1 + 1 + 1, o3) :: (mo, listOf mvs'.toArray (n + 1)) :: news0) → IntsAre mvs' (insI ms (cntI R0 i - cntI R1 i)) → QT .next { s with heap := h', toks := tk' }) :
    wpAny (model PySem.Challenge.rw_pg0171_01.row.prog w) (ktrTop dp un gd lawNm lawFn.2 L af ccd (cellsFrom (L + 1) lawFn.2.names []) outer) (execs (lawFor 9) (lawEnv L af ccd)) QT E s := by
  dsimp only [lawEnv]
  revert X'
  w_top off
  k_fill
  intro X'
  (conv in (lawFor 9) => whnf)
  have hsc : lawFn.2 = lawFn.2 := rfl
  (conv at hsc => lhs; whnf)
  rw [← hsc]
  dsimp only
  repeat' ((first | (k_unfold; (try dsimp only)) | (k_end; wrow_close) | walk1 | (dsimp only; walk1) | (leave1; walk_say "STEP leave1"; try dsimp only) | fail "no step"))
  rename News _ _ _ _ => N1
  refine' bis_spec2 w mean mg mb (i : Int) R0 rvs0 n0 r0 _ _ e0 ?q1 (by omega) _ (bis_cnt s0) _ _ _ _ _ _ _ _ _ _ _ _ _ _ _ _ _ ?k1 ?k2 ?k3 N1 ?k5 ?kK ?kd ?ku ?_
  case k1 => k_asm
  case k2 => k_asm
  case k3 => k_asm
  case k5 => k_asm
  case kK => exact rfl
  case kd => ktr_room
  case ku => ktr_units
  case q1 => (first | k_mem | (repeat (first | assumption | refine List.mem_cons_of_mem _ ?_)))
  intro t9 h9 tk9 F9 N9
  repeat' ((first | (k_unfold; (try dsimp only)) | (k_end; wrow_close) | walk1 | (dsimp only; walk1) | (leave1; walk_say "STEP leave1"; try dsimp only) | fail "no step"))
  rename News _ _ _ _ => N2
  refine' bis_spec2 w mean mg mb (i : Int) R1 rvs1 n1 r1 _ _ e1 ?q1 (by omega) _ (bis_cnt s1) _ _ _ _ _ _ _ _ _ _ _ _ _ _ _ _ _ ?k1 ?k2 ?k3 N2 ?k5 ?kK ?kd ?ku ?_
  case k1 => k_asm
  case k2 => k_asm
  case k3 => k_asm
  case k5 => k_asm
  case kK => exact rfl
  case kd => ktr_room
  case ku => ktr_units
  case q1 => (first | k_mem | (repeat (first | assumption | refine List.mem_cons_of_mem _ ?_)))
  intro t10 h10 tk10 F10 N10
  repeat' ((first | (k_unfold; (try dsimp only)) | (k_end; wrow_close) | walk1 | (dsimp only; walk1) | (leave1; walk_say "STEP leave1"; try dsimp only) | fail "no step"))
  rename News _ _ _ _ => N3
  have hz5 : nvs.toArray.size = ns.length := by rw [List.size_toArray, e2.length]
  refine LCt.CompSrcT.ledger (its := nvs.toArray) (by rfl) (by k_asm) N3 (by (first | k_mem | (repeat (first | assumption | refine List.mem_cons_of_mem _ ?_)))) (by rw [hz5, l2, sizeLine_eq]; omega) ?_
  intro g5
  refine restT_filt (Or.inr ⟨_, by (first | k_mem | (repeat (first | assumption | refine List.mem_cons_of_mem _ ?_))), rfl, _, rfl⟩) (fun z => decide (z.fmod 6 ≤ (i : Int))) ns ?t1 ?t2 ?hP ?fin2 nvs.toArray.size 0 [] (by rw [hz5]; omega) .nil
  case hP =>
    intro i2 v2 hi2 hv2
    obtain ⟨z, t, e, hz⟩ := e2.at i2 v2 (by simpa using hv2)
    exact ⟨z, t, hz, e⟩
  case t1 =>
    intro i2 z2 t2 I2 oI2 C2 oC2 D2 m2 ys2 h2 tk2 E2 hz2 hv2 hC2 hx2 F2 N2 off2 ne2
    repeat' ((first | (k_unfold; (try dsimp only)) | (k_end; wrow_close) | walk1 | (dsimp only; walk1) | (leave1; walk_say "STEP leave1"; try dsimp only) | fail "no step"))
    all_goals (rename News _ _ _ _ => NZ; exact EndM.intro (by k_asm) NZ (fun p hp => hp) trivial)
  case t2 =>
    intro i2 z2 t2 I2 oI2 C2 oC2 D2 m2 ys2 h2 tk2 E2 hz2 hv2 hC2 hx2 F2 N2 off2 ne2
    repeat' ((first | (k_unfold; (try dsimp only)) | (k_end; wrow_close) | walk1 | (dsimp only; walk1) | (leave1; walk_say "STEP leave1"; try dsimp only) | fail "no step"))
    all_goals (rename News _ _ _ _ => NZ; exact EndM.intro (by k_asm) NZ (fun p hp => hp) ⟨_, rfl⟩)
  case fin2 =>
  intro ys5 hys5
  have hfl5 : (ns.filter fun z => decide (z.fmod 6 ≤ (i : Int))).length ≤ 100 := Nat.le_trans (List.length_filter_le ..) (by omega)
  repeat' ((first | (k_unfold; (try dsimp only)) | (k_end; wrow_close) | walk1 | (dsimp only; walk1) | (leave1; walk_say "STEP leave1"; try dsimp only) | fail "no step"))
  rename News _ _ _ _ => N4
  have hz6 : ovs.toArray.size = os.length := by rw [List.size_toArray, e3.length]
  refine LCt.CompSrcT.ledger (its := ovs.toArray) (by rfl) (by k_asm) N4 (by (first | k_mem | (repeat (first | assumption | refine List.mem_cons_of_mem _ ?_)))) (by rw [hz6, l3, sizeLine_eq]; omega) ?_
  intro g5
  refine restT_filt (Or.inr ⟨_, by (first | k_mem | (repeat (first | assumption | refine List.mem_cons_of_mem _ ?_))), rfl, _, rfl⟩) (fun z => decide (z.fmod 6 ≤ (i : Int))) os ?t1 ?t2 ?hP ?fin2 ovs.toArray.size 0 [] (by rw [hz6]; omega) .nil
  case hP =>
    intro i2 v2 hi2 hv2
    obtain ⟨z, t, e, hz⟩ := e3.at i2 v2 (by simpa using hv2)
    exact ⟨z, t, hz, e⟩
  case t1 =>
    intro i2 z2 t2 I2 oI2 C2 oC2 D2 m2 ys2 h2 tk2 E2 hz2 hv2 hC2 hx2 F2 N2 off2 ne2
    repeat' ((first | (k_unfold; (try dsimp only)) | (k_end; wrow_close) | walk1 | (dsimp only; walk1) | (leave1; walk_say "STEP leave1"; try dsimp only) | fail "no step"))
    all_goals (rename News _ _ _ _ => NZ; exact EndM.intro (by k_asm) NZ (fun p hp => hp) trivial)
  case t2 =>
    intro i2 z2 t2 I2 oI2 C2 oC2 D2 m2 ys2 h2 tk2 E2 hz2 hv2 hC2 hx2 F2 N2 off2 ne2
    repeat' ((first | (k_unfold; (try dsimp only)) | (k_end; wrow_close) | walk1 | (dsimp only; walk1) | (leave1; walk_say "STEP leave1"; try dsimp only) | fail "no step"))
    all_goals (rename News _ _ _ _ => NZ; exact EndM.intro (by k_asm) NZ (fun p hp => hp) ⟨_, rfl⟩)
  case fin2 =>
  intro ys6 hys6
  have hfl6 : (os.filter fun z => decide (z.fmod 6 ≤ (i : Int))).length ≤ 100 := Nat.le_trans (List.length_filter_le ..) (by omega)
  repeat' ((first | (k_unfold; (try dsimp only)) | (k_end; wrow_close) | walk1 | (dsimp only; walk1) | (leave1; walk_say "STEP leave1"; try dsimp only) | fail "no step"))
  all_goals first | (exfalso; omega) | skip
  rename News _ _ _ _ => N5
  have N6 : News h₀ L _ ((I, oI) :: (L + 1 + 1 + 1 + 1, o4) :: (L + 1 + 1 + 1, o3) :: (mo, listOf mvs.toArray n) :: news0) := fun p hp => N5 p (List.mem_cons_of_mem _ (List.mem_cons_of_mem _ hp))
  clear N5
  refine' insort_spec w mean mg mb (cntI R0 i - cntI R1 i) ms mvs n mo _ _ _ e4 (by omega) _ (bis_cnt s2) (.tail f1 (.tail f2 (.tail f3 (.head f4)))) _ _ _ _ _ _ _ _ _ _ _ _ _ _ _ _ _ ?k1 ?k2 ?k3 N6 ?k5 ?kK ?kd ?ku ?_
  case k1 => k_asm
  case k2 => k_asm
  case k3 => k_asm
  case k5 => k_asm
  case kK => exact rfl
  case kd => ktr_room
  case ku => ktr_units
  intro h11 tk11 F11 N11
  repeat' ((first | (k_unfold; (try dsimp only)) | (k_end; wrow_close) | walk1 | (dsimp only; walk1) | (leave1; walk_say "STEP leave1"; try dsimp only) | fail "no step"))
  exact hret _ _ _ _ F11 N11 (ins_ints e4)
end
section
theorem law8 (w : World) (mean : ExcName → Option Value) (mg mb : Str → Option Value) (dp un : Nat) (gd : Option (List Code)) (af : Addr) (ccd : Value) (outer : List Env) (A₀ : Around) (base h₀ : Heap) (L : Addr) (E : Value → Shared → Prop) (QF : Flow → Shared → Prop) (m : Str → Option Value) (o1 o2 o3 o4 : Obj) (v3 v4 : Option Value) (tb r0 r1 rw nu ot : Addr) (tvs rvs0 rvs1 nvs ovs : List Value) (T : List (List Int)) (R0 R1 ns os : List Int) (nT n0 n1 nR nN nO : Nat) (news0 : List (Addr × Obj))
    (hm0 : m (Str.ofString "table") = some (.ref tb)) (hm1 : m (Str.ofString "rows") = some (.ref rw)) (hm2 : m (Str.ofString "numbers") = some (.ref nu)) (g0 : (tb, listOf tvs.toArray nT) ∈ news0) (hT : RowsAre news0 tvs T) (hTl : T.length = 4) (hTr : ∀ r ∈ T, r.length = 4)
    (g1 : (rw, listOf [Value.ref r0, Value.ref r1].toArray nR) ∈ news0) (g2 : (r0, listOf rvs0.toArray n0) ∈ news0) (g3 : (r1, listOf rvs1.toArray n1) ∈ news0) (g4 : (nu, listOf nvs.toArray nN) ∈ news0) (g5 : (ot, listOf ovs.toArray nO) ∈ news0) (g6 : (L + 1, o1) ∈ news0)
    (d1 : o1.data = .cell (some (.ref ot))) (d3 : o3.data = .cell v3) (d4 : o4.data = .cell v4)
    (e0 : IntsAre rvs0 R0) (e1 : IntsAre rvs1 R1) (e2 : IntsAre nvs ns) (e3 : IntsAre ovs os) (s0 : R0.Pairwise (· ≤ ·)) (s1 : R1.Pairwise (· ≤ ·)) (l0 : R0.length = 4) (l1 : R1.length = 4) (l2 : ns.length = 4) (l3 : os.length = 4)
    (c0 : ∀ i : Nat, cntI R0 i = ((ns.filter fun x => decide (x.fmod 6 ≤ (i : Int))).length : Int)) (c1 : ∀ i : Nat, cntI R1 i = ((os.filter fun x => decide (x.fmod 6 ≤ (i : Int))).length : Int))
    (f1 : ∀ p ∈ news0, p.1 ≠ L + 1 + 1 + 1 + 1) (f2 : ∀ p ∈ news0, p.1 ≠ L + 1 + 1 + 1)
    (hfin : ∀ ms : List Int, ms.Pairwise (· ≤ ·) → ms.Perm ((List.range 6).map fun j : Nat => cntI R0 j - cntI R1 j) → leastV T [0, 1, 2, 3] = (ms.map fun c => if c - ms.getD 3 0 < 0 then -(c - ms.getD 3 0) else c - ms.getD 3 0).sum) :
    LawAt w mean mg mb dp un gd af ccd outer A₀ base h₀ L E E QF 8 m ((L + 1 + 1 + 1 + 1, o4) :: (L + 1 + 1 + 1, o3) :: news0) := by
  dsimp only [LawAt, lawEnv]
  w_top off
  k_fill
  (conv in (lawFn.1.drop _) => whnf)
  have hsc : lawFn.2 = lawFn.2 := rfl
  (conv at hsc => lhs; whnf)
  rw [← hsc]
  dsimp only
  intro s B' F' X' N' T' hdp hun hE hret
  iterate 5 (first | (k_unfold; (try dsimp only)) | (k_end; wrow_close) | walk1 | (dsimp only; walk1) | (leave1; walk_say "STEP leave1"; try dsimp only) | fail "no step")
  rename _ ∧ _ ∧ AllLt _ news0 => la
  rename News _ _ _ _ => N1
  rename Fr _ _ _ _ => F1
  rename_i mo hh
  obtain ⟨la1, la2, la3⟩ := la
  refine lwS_more hsc F1 N1 (UpdF.tail (Nat.ne_of_gt la2) (UpdF.tail (by show (_ : Nat) ≠ _; omega) (UpdF.head f2))) d3 ?_
  intro h2 o3' tk2 F2 N2 d3'

  clear N1 F1 d3
  (first | (k_unfold; (try dsimp only)) | (k_end; wrow_close) | walk1 | (dsimp only; walk1) | (leave1; walk_say "STEP leave1"; try dsimp only) | fail "no step")
  refine For_invTF F2 ?_ (by intro _; rfl) hE
  iterate 7 (first | (k_unfold; (try dsimp only)) | (k_end; wrow_close) | walk1 | (dsimp only; walk1) | (leave1; walk_say "STEP leave1"; try dsimp only) | fail "no step")
  rename News _ _ _ _ => N3
  rename Fr _ _ _ _ => F3
  rename IsRange _ _ _ _ _ _ _ _ => R3
  refine iter_rangeT (n := 6) (m₀ := m) (news := (L + 1 + 1 + 1 + 1, o4) :: (L + 1 + 1 + 1, o3') :: (mo, listOf ([] : List Value).toArray 0) :: news0) (fun i m₁ news₁ => ∃ (o4' : Obj) (v4' : Option Value) (mvs : List Value) (ms : List Int) (n : Nat), news₁ = (L + 1 + 1 + 1 + 1, o4') :: (L + 1 + 1 + 1, o3') :: (mo, listOf mvs.toArray n) :: news0 ∧ o4'.data = .cell v4' ∧ IntsAre mvs ms ∧ ms.Pairwise (· ≤ ·) ∧ ms.Perm ((List.range i).map fun j : Nat => cntI R0 j - cntI R1 j) ∧ ∀ y, y ≠ (Str.ofString "count") → m₁ y = m y) (by with_unfolding_all rfl) R3 (by decide) (by decide) F3 (fun p hp => N3 p ?hp) ?h0 ?turn ?done
  case hp =>
    rcases List.mem_cons.mp hp with rfl | hp
    · k_mem
    · rcases List.mem_cons.mp hp with rfl | hp
      · k_mem
      · rcases List.mem_cons.mp hp with rfl | hp
        · k_mem
        · exact List.mem_cons_of_mem _ (List.mem_cons_of_mem _ (List.mem_cons_of_mem _ hp))
  case h0 => exact ⟨o4, v4, [], [], 0, rfl, d4, .nil, .nil, .nil, fun _ _ => rfl⟩
  case turn =>
    rintro I oI i t m₁ news₁ s₁ hi ⟨o4', v4', mvs, ms, n, rfl, d4', e4, s2, pm, hmm⟩ off F1 N1
    have oP : (L + 1 + 1 + 1 + 1 : Nat) ≠ I := off (L + 1 + 1 + 1 + 1, o4') (by k_mem)
    have oM : (L + 1 + 1 + 1 : Nat) ≠ I := off (L + 1 + 1 + 1, o3') (by k_mem)
    have omo : (mo : Nat) ≠ I := off (mo, listOf mvs.toArray n) (by k_mem)
    have o0 : ∀ p ∈ news0, p.1 ≠ I := fun p hp => off p (List.mem_cons_of_mem _ (List.mem_cons_of_mem _ (List.mem_cons_of_mem _ hp)))
    refine wpAny_assign_Name (lwS_place hsc F1 N1 (UpdF.tail oP.symm (UpdF.head ?hh)) d4' ?_)
    case hh =>
      intro p hp
      rcases List.mem_cons.mp hp with rfl | hp
      · show (_ : Nat) ≠ _; omega
      · rcases List.mem_cons.mp hp with rfl | hp
        · exact Nat.ne_of_gt la1
        · exact f1 p hp
    intro h5 o5 tk5 F5 N5 d5
    have hml := pm.length_eq
    rw [List.length_map, List.length_range] at hml
    refine law9 w mean mg mb dp un gd af ccd outer A₀ base h₀ L E QF m₁ o1 o3' o5 oI I mo r0 r1 rw nu ot mvs rvs0 rvs1 nvs ovs ms R0 R1 ns os n n0 n1 nR nN nO news0 i t _ hi ((hmm _ (by decide)).trans hm1) ((hmm _ (by decide)).trans hm2) g1 g2 g3 g4 g5 g6 d1 d3' d5 e0 e1 e2 e3 e4 s0 s1 s2 l0 l1 l2 l3 (by omega) (c0 i) (c1 i) omo.symm (Nat.ne_of_lt la1) (Nat.ne_of_lt la2) (allLt_ne la3) _ B' F5 X' N5 T' hdp hun ?_
    intro h6 tk6 v6 mvs' F6 N6 e6
    refine ⟨rfl, h6, tk6, _, _, rfl, F6, N6, ?_, o5, _, mvs', _, n + 1, rfl, d5, e6, insI_sorted s2, ?_, fun y hy => ?_⟩
    · intro p hp
      rcases List.mem_cons.mp hp with rfl | hp
      · exact oP
      · rcases List.mem_cons.mp hp with rfl | hp
        · exact oM
        · rcases List.mem_cons.mp hp with rfl | hp
          · exact omo
          · exact o0 p hp
    · rw [List.range_succ, List.map_append]
      exact (insI_perm _ _).trans ((pm.cons _).trans (List.perm_append_singleton _ _).symm)
    · show (if y = (Str.ofString "count") then _ else m₁ y) = m y
      rw [if_neg hy]; exact hmm y hy
  case done =>
    rintro h8 tk8 m8 news8 F8 N8 ⟨o4', v4', mvs, ms, n, rfl, d4', e4, s2, pm, hmm⟩
    have hml := pm.length_eq
    rw [List.length_map, List.length_range] at hml
    refine law10 w mean mg mb dp un gd af ccd outer A₀ base h₀ L E QF m8 _ tb mo tvs mvs T ms nT n o3' ((hmm _ (by decide)).trans hm0) (List.mem_cons_of_mem _ (List.mem_cons_of_mem _ (List.mem_cons_of_mem _ g0))) (hT.mono fun p hp => List.mem_cons_of_mem _ (List.mem_cons_of_mem _ (List.mem_cons_of_mem _ hp))) hTl hTr (by k_mem) d3' (by k_mem) e4 hml (fun x hx => ?_) (hfin ms s2 pm) _ B' F8 X' N8 T' hdp hun hE ?_
    · obtain ⟨j, hj, rfl⟩ := List.mem_map.mp (pm.mem_iff.mp hx)
      have := cnt_le l0 j
      have := cnt_le l1 j
      omega
    · exact fun s' m' F9 ea eb ec => hret s' m' F9 ea eb ec
end
section
theorem lawR (w : World) (mean : ExcName → Option Value) (mg mb : Str → Option Value) (dp un : Nat) (gd : Option (List Code)) (af : Addr) (ccd : Value) (outer : List Env) (A₀ : Around) (base h₀ : Heap) (L : Addr) (E : Value → Shared → Prop) (QF : Flow → Shared → Prop) (m : Str → Option Value) (o2 oI : Obj) (I r0 r1 rw on tw : Addr) (onvs twvs rvs0 rvs1 : List Value) (as bs R0 R1 : List Int) (nO nW n0 n1 nR : Nat) (news0 : List (Addr × Obj)) (i : Nat) (t : Tok) (QT : Flow → Shared → Prop)
    (hi : i < 4) (hm1 : m (Str.ofString "rows") = some (.ref rw)) (hm2 : m (Str.ofString "ones") = some (.ref on)) (hm3 : m (Str.ofString "k") = some (.int i t))
    (g1 : (on, listOf onvs.toArray nO) ∈ news0) (g2 : (tw, listOf twvs.toArray nW) ∈ news0) (g3 : (L + 1 + 1, o2) ∈ news0) (d2 : o2.data = .cell (some (.ref tw)))
    (u1 : TupsAt news0 onvs as) (u2 : TupsAt news0 twvs bs) (la : as.length = 4) (lb : bs.length = 4)
    (e0 : IntsAre rvs0 R0) (e1 : IntsAre rvs1 R1) (s0 : R0.Pairwise (· ≤ ·)) (s1 : R1.Pairwise (· ≤ ·)) (l0 : R0.length ≤ 10) (l1 : R1.length ≤ 10)
    (f1 : I ≠ r0) (f2 : I ≠ r1) (f3 : r0 ≠ r1) (f4 : rw ≠ r0) (f5 : rw ≠ r1) (f6 : ∀ p ∈ news0, p.1 ≠ r0) (f7 : ∀ p ∈ news0, p.1 ≠ r1)
    (s : Shared) (B' : Below A₀ base outer h₀) (F' : Fr h₀ L s.heap m) (X' : (hd.heap_39 w.params).In h₀) (N' : News h₀ L s.heap ((I, oI) :: (r0, listOf rvs0.toArray n0) :: (r1, listOf rvs1.toArray n1) :: (rw, listOf [Value.ref r0, Value.ref r1].toArray nR) :: news0)) (T' : Top hd.view_39 (looseW hd.view_39 [Str.ofString "insort_right", Str.ofString "bisect_right"]) mean mg mb h₀) (hdp : dp + 12 < recursionLimit) (hun : un + 300 < cLine)
    (hret : ∀ (h' : Heap) (tk' : Nat) (rvs0' rvs1' : List Value), Fr h₀ L h' m → News h₀ L h' ((I, oI) :: (r0, listOf rvs0'.toArray (n0 + 1)) :: (r1, listOf rvs1'.toArray (n1 + 1)) :: (rw, listOf [Value.ref r0, Value.ref r1].toArray nR) :: news0) → IntsAre rvs0' (insI R0 (as.getD i 0)) → IntsAre rvs1' (insI R1 (bs.getD i 0)) → QT .next { s with heap := h', toks := tk' }) :
    wpAny (model PySem.Challenge.rw_pg0171_01.row.prog w) (ktrTop dp un gd lawNm lawFn.2 L af ccd (cellsFrom (L + 1) lawFn.2.names []) outer) (execs (lawFor 5) (lawEnv L af ccd)) QT E s := by
  dsimp only [lawEnv]
  revert X'
  w_top off
  k_fill
  intro X'
  (conv in (lawFor 5) => whnf)
  have hsc : lawFn.2 = lawFn.2 := rfl
  (conv at hsc => lhs; whnf)
  rw [← hsc]
  dsimp only
  have lo : i < onvs.length := by rw [u1.1]; omega
  have lt : i < twvs.length := by rw [u2.1]; omega
  obtain ⟨ra, t1, t2, ea, hra⟩ := u1.2 i onvs[i] (List.getElem?_eq_getElem lo)
  obtain ⟨rb, t3, t4, eb, hrb⟩ := u2.2 i twvs[i] (List.getElem?_eq_getElem lt)
  have q1 : onvs[(i : Int).toNat]? = some (.ref ra) := by rw [Int.toNat_natCast, List.getElem?_eq_getElem lo, ea]
  have q2 : twvs[(i : Int).toNat]? = some (.ref rb) := by rw [Int.toNat_natCast, List.getElem?_eq_getElem lt, eb]
  repeat' ((first | (k_unfold; (try dsimp only)) | (k_end; wrow_close) | walk1 | (dsimp only; walk1) | (leave1; walk_say "STEP leave1"; try dsimp only) | fail "no step"))
  rename News _ _ _ _ => N1
  refine' insort_spec w mean mg mb (as.getD i 0) R0 rvs0 n0 r0 _ _ _ e0 (by omega) _ (bis_cnt s0) (.tail f1 (.head ?hh)) _ _ _ _ _ _ _ _ _ _ _ _ _ _ _ _ _ ?k1 ?k2 ?k3 N1 ?k5 ?kK ?kd ?ku ?_
  case k1 => k_asm
  case k2 => k_asm
  case k3 => k_asm
  case k5 => k_asm
  case kK => exact rfl
  case kd => ktr_room
  case ku => ktr_units
  case hh =>
    intro p hp
    rcases List.mem_cons.mp hp with rfl | hp
    · exact Ne.symm f3
    · rcases List.mem_cons.mp hp with rfl | hp
      · exact f4
      · exact f6 p hp
  intro h11 tk11 F11 N11
  have e0' := ins_ints (t := t1) (x := as.getD i 0) e0
  repeat' ((first | (k_unfold; (try dsimp only)) | (k_end; wrow_close) | walk1 | (dsimp only; walk1) | (leave1; walk_say "STEP leave1"; try dsimp only) | fail "no step"))
  rename News _ _ _ _ => N2
  refine' insort_spec w mean mg mb (bs.getD i 0) R1 rvs1 n1 r1 _ _ _ e1 (by omega) _ (bis_cnt s1) (.tail f2 (.tail f3 (.head ?hh))) _ _ _ _ _ _ _ _ _ _ _ _ _ _ _ _ _ ?k1 ?k2 ?k3 N2 ?k5 ?kK ?kd ?ku ?_
  case k1 => k_asm
  case k2 => k_asm
  case k3 => k_asm
  case k5 => k_asm
  case kK => exact rfl
  case kd => ktr_room
  case ku => ktr_units
  case hh =>
    intro p hp
    rcases List.mem_cons.mp hp with rfl | hp
    · exact f5
    · exact f7 p hp
  intro h12 tk12 F12 N12
  repeat' ((first | (k_unfold; (try dsimp only)) | (k_end; wrow_close) | walk1 | (dsimp only; walk1) | (leave1; walk_say "STEP leave1"; try dsimp only) | fail "no step"))
  exact hret _ _ _ _ F12 N12 e0' (ins_ints e1)
end
section
theorem law4 (w : World) (mean : ExcName → Option Value) (mg mb : Str → Option Value) (dp un : Nat) (gd : Option (List Code)) (af : Addr) (ccd : Value) (outer : List Env) (A₀ : Around) (base h₀ : Heap) (L : Addr) (E : Value → Shared → Prop) (QF : Flow → Shared → Prop) (m : Str → Option Value) (o2 o3 o4 : Obj) (on tw nu : Addr) (onvs twvs : List Value) (as bs : List Int) (nO nW : Nat) (news0 : List (Addr × Obj))
    (hm2 : m (Str.ofString "ones") = some (.ref on)) (hm3 : m (Str.ofString "numbers") = some (.ref nu))
    (g1 : (on, listOf onvs.toArray nO) ∈ news0) (g2 : (tw, listOf twvs.toArray nW) ∈ news0) (g3 : (L + 1 + 1, o2) ∈ news0) (d2 : o2.data = .cell (some (.ref tw)))
    (u1 : TupsAt news0 onvs as) (u2 : TupsAt news0 twvs bs) (la : as.length = 4) (lb : bs.length = 4)
    (f1 : ∀ p ∈ news0, p.1 ≠ L + 1 + 1 + 1 + 1) (f2 : ∀ p ∈ news0, p.1 ≠ L + 1 + 1 + 1)
    (next : ∀ (m' : Str → Option Value) (r0 r1 rw : Addr) (rvs0 rvs1 : List Value) (R0 R1 : List Int) (n0 n1 nR : Nat) (nx : List (Addr × Obj)), (∀ p ∈ news0, p ∈ nx) → (∀ p ∈ nx, p.1 ≠ L + 1 + 1 + 1 + 1) → (∀ p ∈ nx, p.1 ≠ L + 1 + 1 + 1) →
      m' (Str.ofString "rows") = some (.ref rw) → m' (Str.ofString "ones") = some (.ref on) → m' (Str.ofString "numbers") = some (.ref nu) → (rw, listOf [Value.ref r0, Value.ref r1].toArray nR) ∈ nx → (r0, listOf rvs0.toArray n0) ∈ nx → (r1, listOf rvs1.toArray n1) ∈ nx → IntsAre rvs0 R0 → IntsAre rvs1 R1 → R0.Pairwise (· ≤ ·) → R1.Pairwise (· ≤ ·) → R0.Perm as → R1.Perm bs →
      LawAt w mean mg mb dp un gd af ccd outer A₀ base h₀ L E E QF 6 m' ((L + 1 + 1 + 1 + 1, o4) :: (L + 1 + 1 + 1, o3) :: nx)) :
    LawAt w mean mg mb dp un gd af ccd outer A₀ base h₀ L E E QF 4 m ((L + 1 + 1 + 1 + 1, o4) :: (L + 1 + 1 + 1, o3) :: news0) := by
  dsimp only [LawAt, lawEnv]
  w_top off
  k_fill
  (conv in (lawFn.1.drop _) => whnf)
  have hsc : lawFn.2 = lawFn.2 := rfl
  (conv at hsc => lhs; whnf)
  rw [← hsc]
  dsimp only
  intro s B' F' X' N' T' hdp hun hE hret
  iterate 15 (first | (k_unfold; (try dsimp only)) | (k_end; wrow_close) | walk1 | (dsimp only; walk1) | (leave1; walk_say "STEP leave1"; try dsimp only) | fail "no step")
  rename_i r0 hh0 z1 r1 hh1 z2 rw hh2 z3
  rename News _ _ _ _ => N1
  rename Fr _ _ _ _ => F1
  obtain ⟨za, zb, zc⟩ := z1
  obtain ⟨ya, yb, yc, yd⟩ := z2
  obtain ⟨xa, xb, xc, xd, xe⟩ := z3
  refine For_invTF F1 ?_ (by intro _; rfl) hE
  iterate 7 (first | (k_unfold; (try dsimp only)) | (k_end; wrow_close) | walk1 | (dsimp only; walk1) | (leave1; walk_say "STEP leave1"; try dsimp only) | fail "no step")
  rename News _ _ _ _ => N3
  rename Fr _ _ _ _ => F3
  rename IsRange _ _ _ _ _ _ _ _ => R3
  refine iter_rangeT (n := 4) (m₀ := fun y => if y = (Str.ofString "rows") then some (Value.ref rw) else m y) (news := (r0, listOf ([] : List Value).toArray 0) :: (r1, listOf ([] : List Value).toArray 0) :: (rw, listOf [Value.ref r0, Value.ref r1].toArray 0) :: (L + 1 + 1 + 1 + 1, o4) :: (L + 1 + 1 + 1, o3) :: news0) (fun i m₁ news₁ => ∃ (rvs0 rvs1 : List Value) (R0 R1 : List Int) (n0 n1 : Nat), news₁ = (r0, listOf rvs0.toArray n0) :: (r1, listOf rvs1.toArray n1) :: (rw, listOf [Value.ref r0, Value.ref r1].toArray 0) :: (L + 1 + 1 + 1 + 1, o4) :: (L + 1 + 1 + 1, o3) :: news0 ∧ IntsAre rvs0 R0 ∧ IntsAre rvs1 R1 ∧ R0.Pairwise (· ≤ ·) ∧ R1.Pairwise (· ≤ ·) ∧ R0.Perm ((List.range i).map fun j => as.getD j 0) ∧ R1.Perm ((List.range i).map fun j => bs.getD j 0) ∧ ∀ y, y ≠ (Str.ofString "k") → m₁ y = if y = (Str.ofString "rows") then some (Value.ref rw) else m y) (by with_unfolding_all rfl) R3 (by decide) (by decide) F3 (fun p hp => N3 p ?hp) ?h0 ?turn ?done
  case hp =>
    simp only [List.mem_cons] at hp ⊢
    rcases hp with h | h | h | h | h | h <;> simp [h]
  case h0 => exact ⟨[], [], [], [], 0, 0, rfl, .nil, .nil, .nil, .nil, .nil, .nil, fun _ _ => rfl⟩
  case turn =>
    rintro I oI i t m₁ news₁ s₁ hi ⟨rvs0, rvs1, R0, R1, n0, n1, rfl, e0, e1, s0, s1, p0, p1, hmm⟩ off F1 N1
    have oo0 : (r0 : Nat) ≠ I := off (r0, listOf rvs0.toArray n0) (by k_mem)
    have oo1 : (r1 : Nat) ≠ I := off (r1, listOf rvs1.toArray n1) (by k_mem)
    refine wpAny_assign_Name (lwS_k hsc F1 N1 ?_)
    intro h5 tk5 F5 N5
    have l0 := p0.length_eq
    have l1 := p1.length_eq
    rw [List.length_map, List.length_range] at l0 l1
    have sub : ∀ p ∈ news0, p ∈ (L + 1 + 1 + 1 + 1, o4) :: (L + 1 + 1 + 1, o3) :: news0 := fun p hp => List.mem_cons_of_mem _ (List.mem_cons_of_mem _ hp)
    refine lawR w mean mg mb dp un gd af ccd outer A₀ base h₀ L E QF _ o2 oI I r0 r1 rw on tw onvs twvs rvs0 rvs1 as bs R0 R1 nO nW n0 n1 0 ((L + 1 + 1 + 1 + 1, o4) :: (L + 1 + 1 + 1, o3) :: news0) i t _ hi ?m1 ?m2 rfl (sub _ g1) (sub _ g2) (sub _ g3) d2 ⟨u1.1, fun j v hv => ?t1⟩ ⟨u2.1, fun j v hv => ?t2⟩ la lb e0 e1 s0 s1 (by omega) (by omega) oo0.symm oo1.symm (Nat.ne_of_lt ya) (Nat.ne_of_gt xb) (Nat.ne_of_gt xa) ?f6 ?f7 _ B' F5 X' N5 T' hdp hun ?_
    case m1 => exact (if_neg (by decide)).trans ((hmm _ (by decide)).trans (if_pos rfl))
    case m2 => exact (if_neg (by decide)).trans ((hmm _ (by decide)).trans ((if_neg (by decide)).trans hm2))
    case t1 =>
      obtain ⟨ra, t1, t2, e, h⟩ := u1.2 j v hv
      exact ⟨ra, t1, t2, e, sub _ h⟩
    case t2 =>
      obtain ⟨ra, t1, t2, e, h⟩ := u2.2 j v hv
      exact ⟨ra, t1, t2, e, sub _ h⟩
    case f6 =>
      intro p hp
      rcases List.mem_cons.mp hp with rfl | hp
      · exact Nat.ne_of_lt za
      · rcases List.mem_cons.mp hp with rfl | hp
        · exact Nat.ne_of_lt zb
        · exact allLt_ne zc p hp
    case f7 =>
      intro p hp
      rcases List.mem_cons.mp hp with rfl | hp
      · exact Nat.ne_of_lt yb
      · rcases List.mem_cons.mp hp with rfl | hp
        · exact Nat.ne_of_lt yc
        · exact allLt_ne yd p hp
    intro h6 tk6 rvs0' rvs1' F6 N6 e0' e1'
    refine ⟨rfl, h6, tk6, _, _, rfl, F6, N6, ?_, rvs0', rvs1', _, _, n0 + 1, n1 + 1, rfl, e0', e1', insI_sorted s0, insI_sorted s1, ?_, ?_, fun y hy => ?_⟩
    · intro p hp
      rcases List.mem_cons.mp hp with rfl | hp
      · exact oo0
      · rcases List.mem_cons.mp hp with rfl | hp
        · exact oo1
        · exact off p (List.mem_cons_of_mem _ (List.mem_cons_of_mem _ hp))
    · rw [List.range_succ, List.map_append]
      exact (insI_perm _ _).trans ((p0.cons _).trans (List.perm_append_singleton _ _).symm)
    · rw [List.range_succ, List.map_append]
      exact (insI_perm _ _).trans ((p1.cons _).trans (List.perm_append_singleton _ _).symm)
    · exact (if_neg hy).trans (hmm y hy)
  case done =>
    rintro h8 tk8 m8 news8 F8 N8 ⟨rvs0, rvs1, R0, R1, n0, n1, rfl, e0, e1, s0, s1, p0, p1, hmm⟩
    rw [← la, range_getD (fun a => a) 0 as, List.map_id'] at p0
    rw [← lb, range_getD (fun a => a) 0 bs, List.map_id'] at p1
    refine next m8 r0 r1 rw rvs0 rvs1 R0 R1 n0 n1 0 ((r0, listOf rvs0.toArray n0) :: (r1, listOf rvs1.toArray n1) :: (rw, listOf [Value.ref r0, Value.ref r1].toArray 0) :: news0) (fun p hp => List.mem_cons_of_mem _ (List.mem_cons_of_mem _ (List.mem_cons_of_mem _ hp))) ?_ ?_ ((hmm _ (by decide)).trans (if_pos rfl)) ((hmm _ (by decide)).trans ((if_neg (by decide)).trans hm2)) ((hmm _ (by decide)).trans ((if_neg (by decide)).trans hm3)) (by k_mem) (by k_mem) (by k_mem) e0 e1 s0 s1 p0 p1 _ B' F8 X' ?_ T' hdp hun hE ?_
    · intro p hp
      rcases List.mem_cons.mp hp with rfl | hp
      · exact Nat.ne_of_gt za
      · rcases List.mem_cons.mp hp with rfl | hp
        · exact Nat.ne_of_gt yb
        · rcases List.mem_cons.mp hp with rfl | hp
          · exact Nat.ne_of_gt xc
          · exact f1 p hp
    · intro p hp
      rcases List.mem_cons.mp hp with rfl | hp
      · exact Nat.ne_of_gt zb
      · rcases List.mem_cons.mp hp with rfl | hp
        · exact Nat.ne_of_gt yc
        · rcases List.mem_cons.mp hp with rfl | hp
          · exact Nat.ne_of_gt xd
          · exact f2 p hp
    · intro p hp
      apply N8 p
      simp only [List.mem_cons] at hp ⊢
      rcases hp with h | h | h | h | h | h <;> simp [h]
    · exact fun s' m' F9 ea eb ec => hret s' m' F9 ea eb ec
end
section
theorem law6 (w : World) (mean : ExcName → Option Value) (mg mb : Str → Option Value) (dp un : Nat) (gd : Option (List Code)) (af : Addr) (ccd : Value) (outer : List Env) (A₀ : Around) (base h₀ : Heap) (L : Addr) (E : Value → Shared → Prop) (QF : Flow → Shared → Prop) (m : Str → Option Value) (o1 o2 o3 o4 : Obj) (on tw : Addr) (onvs twvs : List Value) (as bs : List Int) (nO nW : Nat) (news0 : List (Addr × Obj))
    (hm1 : m (Str.ofString "ones") = some (.ref on)) (g1 : (on, listOf onvs.toArray nO) ∈ news0) (g2 : (tw, listOf twvs.toArray nW) ∈ news0) (g3 : (L + 1 + 1, o2) ∈ news0) (d2 : o2.data = .cell (some (.ref tw)))
    (u1 : TupsAt news0 onvs as) (u2 : TupsAt news0 twvs bs) (la : as.length = 4) (lb : bs.length = 4) (va : ∀ x ∈ as, 0 ≤ x ∧ x < 6) (vb : ∀ x ∈ bs, 0 ≤ x ∧ x < 6)
    (f1 : ∀ p ∈ news0, p.1 ≠ L + 1 + 1 + 1 + 1) (f2 : ∀ p ∈ news0, p.1 ≠ L + 1 + 1 + 1)
    (next : ∀ (tb : Addr) (tvs : List Value) (nT : Nat) (nx : List (Addr × Obj)), (∀ p ∈ news0, p ∈ nx) → (∀ p ∈ nx, p.1 ≠ L + 1 + 1 + 1 + 1) → (∀ p ∈ nx, p.1 ≠ L + 1 + 1 + 1) → (tb, listOf tvs.toArray nT) ∈ nx → RowsAre nx tvs (tab4 as bs) →
      LawAt w mean mg mb dp un gd af ccd outer A₀ base h₀ L E E QF 7 (fun y => if y = (Str.ofString "table") then some (.ref tb) else m y) ((L + 1 + 1 + 1 + 1, o4) :: (L + 1 + 1 + 1, o3) :: nx)) :
    LawAt w mean mg mb dp un gd af ccd outer A₀ base h₀ L E E QF 6 m ((L + 1 + 1 + 1 + 1, o4) :: (L + 1 + 1 + 1, o3) :: news0) := by
  dsimp only [LawAt, lawEnv]
  w_top off
  k_fill
  (conv in (lawFn.1.drop _) => whnf)
  have hsc : lawFn.2 = lawFn.2 := rfl
  (conv at hsc => lhs; whnf)
  rw [← hsc]
  dsimp only
  intro s B' F' X' N' T' hdp hun hE hret
  (first | (k_unfold; (try dsimp only)) | (k_end; wrow_close) | walk1 | (dsimp only; walk1) | (leave1; walk_say "STEP leave1"; try dsimp only) | fail "no step")
  refine Assign_ListComp_C (F₀ := F') (by rfl) (by rfl) (by rfl) (by rfl) (by with_unfolding_all rfl) (fun _ _ => rfl) (fun _ => rfl) (by rfl) (by decide) (by rfl) ?_
  (first | (k_unfold; (try dsimp only)) | (k_end; wrow_close) | walk1 | (dsimp only; walk1) | (leave1; walk_say "STEP leave1"; try dsimp only) | fail "no step")
  have hz1 : onvs.toArray.size = 4 := by rw [List.size_toArray, u1.1, la]
  have hz2 : twvs.toArray.size = 4 := by rw [List.size_toArray, u2.1, lb]
  refine SrcCA.intro (its := onvs.toArray) (n := nO) (by rfl) (by k_asm) N' (by (first | k_mem | (repeat (first | assumption | refine List.mem_cons_of_mem _ ?_)))) (by rw [hz1, sizeLine_eq]; omega) ?_
  intro g5
  refine restC_inv (fun i ys news => ∃ nx, news = (L + 1 + 1 + 1 + 1, o4) :: (L + 1 + 1 + 1, o3) :: nx ∧ (∀ p ∈ news0, p ∈ nx) ∧ (∀ p ∈ nx, p.1 ≠ L + 1 + 1 + 1 + 1) ∧ (∀ p ∈ nx, p.1 ≠ L + 1 + 1 + 1) ∧ RowsAre nx ys ((List.range i).map fun i => bs.map fun b => distI (as.getD i 0) b)) onvs.toArray.size ?turn ?fin onvs.toArray.size 0 [] _ (by omega) ⟨news0, rfl, fun _ h => h, f1, f2, trivial⟩
  case turn =>
    rintro i v I oI Kc oK C oC D ys _ h tk E' hi ⟨nx, rfl, hsub, hP, hM, hrows⟩ hv ho F N off ne
    obtain ⟨ra, t1, t2, rfl, hra⟩ := u1.2 i v (by simpa using hv)
    have hra' := hsub _ hra
    have gt := hsub _ g2
    have gc := hsub _ g3
    have hai : 0 ≤ as.getD i 0 ∧ as.getD i 0 < 6 := va _ (getD_in (by rw [← u1.1, ← List.size_toArray]; exact hi))
    refine LCg.ListComp_U (F₀ := F) (by with_unfolding_all rfl) (by decide) (by rfl) (by decide) (by rfl) ?_
    (first | (k_unfold; (try dsimp only)) | (k_end; wrow_close) | walk1 | (dsimp only; walk1) | (leave1; walk_say "STEP leave1"; try dsimp only) | fail "no step")
    refine LCg.CompSrc.ledger (its := twvs.toArray) (by rfl) (by k_asm) N (by (first | k_mem | (repeat (first | assumption | refine List.mem_cons_of_mem _ ?_)))) (by rw [hz2, sizeLine_eq]; omega) ?_
    intro g6
    refine rest_map (Or.inr ⟨_, by (first | k_mem | (repeat (first | assumption | refine List.mem_cons_of_mem _ ?_))), rfl, _, rfl⟩) (fun j y => ∃ t, y = Value.int (distI (as.getD i 0) (bs.getD j 0)) t) twvs.toArray.size ?turn2 ?fin2 twvs.toArray.size 0 [] (by omega) rfl (by intro j y hy; simp at hy)
    case turn2 =>
      intro i2 v2 I2 oI2 C2 oC2 D2 m2 ys2 h2 tk2 E2 hi2 hv2 hC2 hx2 F2 N2 off2 ne2
      obtain ⟨rb, t3, t4, rfl, hrb⟩ := u2.2 i2 v2 (by simpa using hv2)
      have hrb' := hsub _ hrb
      have hbi : 0 ≤ bs.getD i2 0 ∧ bs.getD i2 0 < 6 := vb _ (getD_in (by rw [← u2.1, ← List.size_toArray]; exact hi2))
      repeat' ((first | (k_unfold; (try dsimp only)) | (k_end; wrow_close) | walk1 | (dsimp only; walk1) | (leave1; walk_say "STEP leave1"; try dsimp only) | fail "no step"))
      rename News _ _ _ _ => N3
      refine' lev_spec w mean mg mb t2 t4 _ _ (as.getD i 0) (bs.getD i2 0) hai hbi _ _ _ _ _ _ _ _ _ _ _ _ _ _ _ _ _ ?k1 ?k2 ?k3 N3 ?k5 ?kK ?kd ?ku ?_
      case k1 => k_asm
      case k2 => k_asm
      case k3 => k_asm
      case k5 => k_asm
      case kK => exact rfl
      case kd => ktr_room
      case ku => ktr_units
      intro t9 h9 tk9 F9 N9
      repeat' ((first | (k_unfold; (try dsimp only)) | (k_end; wrow_close) | walk1 | (dsimp only; walk1) | (leave1; walk_say "STEP leave1"; try dsimp only) | fail "no step"))
      all_goals exact EndM.intro (by k_asm) N9 (fun p hp => hp) ⟨_, rfl⟩
    case fin2 =>
      intro ys2 hy2 hr2
      have hyi := intsOf twvs.toArray.size ys2 hy2 hr2
      rw [show twvs.toArray.size = bs.length by rw [hz2, lb], range_getD (fun b => distI (as.getD i 0) b) 0 bs] at hyi
      intro D9 h9 tk9 F9 N9 o9
      have oo := off1_ne o9
      refine ⟨h9, tk9, (L + 1 + 1 + 1 + 1, o4) :: (L + 1 + 1 + 1, o3) :: (D9, LCg.lst ys2) :: nx, rfl, F9, ?_, ?_, ?_, _, rfl, ?_, ?_, ?_, ?_⟩
      · intro p hp
        apply N9 p
        simp only [List.mem_cons] at hp ⊢
        rcases hp with h | h | h | h | h | h | h | h <;> simp [h]
      · intro p hp
        have d1 : (I : Nat) ≠ D9 := oo (I, oI) (by k_mem)
        have d2 : (Kc : Nat) ≠ D9 := oo (Kc, oK) (by k_mem)
        have d3 : (C : Nat) ≠ D9 := oo (C, oC) (by k_mem)
        have d4 : (D : Nat) ≠ D9 := oo (D, LCg.lst ys) (by k_mem)
        rcases List.mem_cons.mp hp with rfl | hp
        · exact off _ (by k_mem)
        · rcases List.mem_cons.mp hp with rfl | hp
          · exact off _ (by k_mem)
          · rcases List.mem_cons.mp hp with rfl | hp
            · exact ⟨d1.symm, d2.symm, d3.symm, d4.symm⟩
            · exact off _ (List.mem_cons_of_mem _ (List.mem_cons_of_mem _ hp))
      · exact List.mem_cons_of_mem _ (List.mem_cons_of_mem _ (List.mem_cons_of_mem _ (hsub _ g1)))
      · exact fun p hp => List.mem_cons_of_mem _ (hsub p hp)
      · intro p hp
        rcases List.mem_cons.mp hp with rfl | hp
        · exact (oo (L + 1 + 1 + 1 + 1, o4) (by k_mem)).symm
        · exact hP p hp
      · intro p hp
        rcases List.mem_cons.mp hp with rfl | hp
        · exact (oo (L + 1 + 1 + 1, o3) (by k_mem)).symm
        · exact hM p hp
      · rw [List.range_succ, List.map_append]
        exact RowsAre.snoc List.mem_cons_self hyi (hrows.mono fun p hp => List.mem_cons_of_mem _ hp)
  case fin =>
    rintro ys _ ⟨nx, rfl, hsub, hP, hM, hrows⟩
    rw [show onvs.toArray.size = as.length by rw [hz1, la], range_getD (fun a => bs.map fun b => distI a b) 0 as] at hrows
    intro D10 h10 tk10 F10 N10 o10
    have oo := off1_ne o10
    refine next D10 ys _ ((D10, LCg.lst ys) :: nx) (fun p hp => List.mem_cons_of_mem _ (hsub p hp)) ?_ ?_ List.mem_cons_self (hrows.mono fun p hp => List.mem_cons_of_mem _ hp) _ B' F10 X' ?_ T' hdp hun hE ?_
    · intro p hp
      rcases List.mem_cons.mp hp with rfl | hp
      · exact (oo (L + 1 + 1 + 1 + 1, o4) (by k_mem)).symm
      · exact hP p hp
    · intro p hp
      rcases List.mem_cons.mp hp with rfl | hp
      · exact (oo (L + 1 + 1 + 1, o3) (by k_mem)).symm
      · exact hM p hp
    · intro p hp
      apply N10 p
      simp only [List.mem_cons] at hp ⊢
      rcases hp with h | h | h | h <;> simp [h]
    · exact fun s' m' F9 ea eb ec => hret s' m' F9 ea eb ec
end
section
theorem law7 (w : World) (mean : ExcName → Option Value) (mg mb : Str → Option Value) (dp un : Nat) (gd : Option (List Code)) (af : Addr) (ccd : Value) (outer : List Env) (A₀ : Around) (base h₀ : Heap) (L : Addr) (E : Value → Shared → Prop) (QF : Flow → Shared → Prop) (m : Str → Option Value) (o1 o3 o4 : Obj) (tb nu ot : Addr) (tvs nvs ovs : List Value) (ns os : List Int) (nT nN nO : Nat) (news0 : List (Addr × Obj))
    (hm0 : m (Str.ofString "table") = some (.ref tb)) (hm2 : m (Str.ofString "numbers") = some (.ref nu)) (g0 : (tb, listOf tvs.toArray nT) ∈ news0) (hT : RowsAre news0 tvs (tab4 (ns.map fun x => x.fmod 6) (os.map fun x => x.fmod 6)))
    (g4 : (nu, listOf nvs.toArray nN) ∈ news0) (g5 : (ot, listOf ovs.toArray nO) ∈ news0) (g6 : (L + 1, o1) ∈ news0) (d1 : o1.data = .cell (some (.ref ot)))
    (e2 : IntsAre nvs ns) (e3 : IntsAre ovs os) (l2 : ns.length = 4) (l3 : os.length = 4)
    (next : LawAt w mean mg mb dp un gd af ccd outer A₀ base h₀ L E E QF 8 m ((L + 1 + 1 + 1 + 1, o4) :: (L + 1 + 1 + 1, o3) :: news0)) :
    LawAt w mean mg mb dp un gd af ccd outer A₀ base h₀ L E E QF 7 m ((L + 1 + 1 + 1 + 1, o4) :: (L + 1 + 1 + 1, o3) :: news0) := by
  dsimp only [LawAt, lawEnv]
  w_top off
  k_fill
  (conv in (lawFn.1.drop _) => whnf)
  have hsc : lawFn.2 = lawFn.2 := rfl
  (conv at hsc => lhs; whnf)
  rw [← hsc]
  dsimp only
  intro s B' F' X' N' T' hdp hun hE hret
  iterate 4 (first | (k_unfold; (try dsimp only)) | (k_end; wrow_close) | walk1 | (dsimp only; walk1) | (leave1; walk_say "STEP leave1"; try dsimp only) | fail "no step")
  refine ListComp_C (F₀ := F') (by with_unfolding_all rfl) (fun _ _ => rfl) (fun _ => rfl) (by rfl) (by decide) (by rfl) ?_
  (first | (k_unfold; (try dsimp only)) | (k_end; wrow_close) | walk1 | (dsimp only; walk1) | (leave1; walk_say "STEP leave1"; try dsimp only) | fail "no step")
  have hz1 : nvs.toArray.size = 4 := by rw [List.size_toArray, e2.length, l2]
  have hz2 : ovs.toArray.size = 4 := by rw [List.size_toArray, e3.length, l3]
  refine SrcC.intro (its := nvs.toArray) (n := nN) (by rfl) (by k_asm) N' (by (first | k_mem | (repeat (first | assumption | refine List.mem_cons_of_mem _ ?_)))) (by rw [hz1, sizeLine_eq]; omega) ?_
  intro g5'
  refine restC_inv (fun i ys news => ∃ nx, news = (L + 1 + 1 + 1 + 1, o4) :: (L + 1 + 1 + 1, o3) :: nx ∧ (∀ p ∈ news0, p ∈ nx) ∧ RowsAre nx ys ((List.range i).map fun i => os.map fun b => distI (ns.getD i 0) b)) nvs.toArray.size ?turn ?fin nvs.toArray.size 0 [] _ (by omega) ⟨news0, rfl, fun _ h => h, trivial⟩
  case turn =>
    rintro i v I oI Kc oK C oC D ys _ h tk E' hi ⟨nx, rfl, hsub, hrows⟩ hv ho F N off ne
    obtain ⟨z, t, rfl, hz⟩ := e2.at i v (by simpa using hv)
    have hzd : ns.getD i 0 = z := by rw [List.getD_eq_getElem?_getD, hz]; rfl
    have gt := hsub _ g5
    have gc := hsub _ g6
    refine LCg.ListComp_U (F₀ := F) (by with_unfolding_all rfl) (by decide) (by rfl) (by decide) (by rfl) ?_
    (first | (k_unfold; (try dsimp only)) | (k_end; wrow_close) | walk1 | (dsimp only; walk1) | (leave1; walk_say "STEP leave1"; try dsimp only) | fail "no step")
    refine LCg.CompSrc.ledger (its := ovs.toArray) (by rfl) (by k_asm) N (by (first | k_mem | (repeat (first | assumption | refine List.mem_cons_of_mem _ ?_)))) (by rw [hz2, sizeLine_eq]; omega) ?_
    intro g6'
    refine rest_map (Or.inr ⟨_, by (first | k_mem | (repeat (first | assumption | refine List.mem_cons_of_mem _ ?_))), rfl, _, rfl⟩) (fun j y => ∃ t, y = Value.int (distI (ns.getD i 0) (os.getD j 0)) t) ovs.toArray.size ?turn2 ?fin2 ovs.toArray.size 0 [] (by omega) rfl (by intro j y hy; simp at hy)
    case turn2 =>
      intro i2 v2 I2 oI2 C2 oC2 D2 m2 ys2 h2 tk2 E2 hi2 hv2 hC2 hx2 F2 N2 off2 ne2
      obtain ⟨z2, t2, rfl, hz2⟩ := e3.at i2 v2 (by simpa using hv2)
      have hzd2 : os.getD i2 0 = z2 := by rw [List.getD_eq_getElem?_getD, hz2]; rfl
      rw [hzd, hzd2]
      repeat' ((first | (k_unfold; (try dsimp only)) | (k_end; wrow_close) | walk1 | (dsimp only; walk1) | (leave1; walk_say "STEP leave1"; try dsimp only) | fail "no step"))
      all_goals (rename News _ _ _ _ => NZ; exact EndM.intro (by k_asm) NZ (fun p hp => hp) ⟨_, rfl⟩)
    case fin2 =>
      intro ys2 hy2 hr2
      have hyi := intsOf ovs.toArray.size ys2 hy2 hr2
      rw [show ovs.toArray.size = os.length by rw [hz2, l3], range_getD (fun b => distI (ns.getD i 0) b) 0 os] at hyi
      intro D9 h9 tk9 F9 N9 o9
      have oo := off1_ne o9
      refine ⟨h9, tk9, (L + 1 + 1 + 1 + 1, o4) :: (L + 1 + 1 + 1, o3) :: (D9, LCg.lst ys2) :: nx, rfl, F9, ?_, ?_, ?_, _, rfl, ?_, ?_⟩
      · intro p hp
        apply N9 p
        simp only [List.mem_cons] at hp ⊢
        rcases hp with h | h | h | h | h | h | h | h <;> simp [h]
      · intro p hp
        have d1 : (I : Nat) ≠ D9 := oo (I, oI) (by k_mem)
        have d2 : (Kc : Nat) ≠ D9 := oo (Kc, oK) (by k_mem)
        have d3 : (C : Nat) ≠ D9 := oo (C, oC) (by k_mem)
        have d4 : (D : Nat) ≠ D9 := oo (D, LCg.lst ys) (by k_mem)
        rcases List.mem_cons.mp hp with rfl | hp
        · exact off _ (by k_mem)
        · rcases List.mem_cons.mp hp with rfl | hp
          · exact off _ (by k_mem)
          · rcases List.mem_cons.mp hp with rfl | hp
            · exact ⟨d1.symm, d2.symm, d3.symm, d4.symm⟩
            · exact off _ (List.mem_cons_of_mem _ (List.mem_cons_of_mem _ hp))
      · exact List.mem_cons_of_mem _ (List.mem_cons_of_mem _ (List.mem_cons_of_mem _ (hsub _ g4)))
      · exact fun p hp => List.mem_cons_of_mem _ (hsub p hp)
      · rw [List.range_succ, List.map_append]
        exact RowsAre.snoc List.mem_cons_self hyi (hrows.mono fun p hp => List.mem_cons_of_mem _ hp)
  case fin =>
    rintro ys _ ⟨nx, rfl, hsub, hrows⟩
    rw [show nvs.toArray.size = ns.length by rw [hz1, l2], range_getD (fun a => os.map fun b => distI a b) 0 ns] at hrows
    intro D10 h10 tk10 F10 N10 o10
    refine r_rowsNe (c := false) N10 (hT.mono fun p hp => List.mem_cons_of_mem _ (List.mem_cons_of_mem _ (List.mem_cons_of_mem _ (hsub p hp)))) (hrows.mono fun p hp => List.mem_cons_of_mem _ (List.mem_cons_of_mem _ (List.mem_cons_of_mem _ hp))) (List.mem_cons_of_mem _ (List.mem_cons_of_mem _ (List.mem_cons_of_mem _ (hsub _ g0)))) List.mem_cons_self (by ktr_units) ?_ ?_
    · rw [Bool.not_eq_false', decide_eq_true_eq]
      simp only [tab4, List.map_map]
      refine List.map_congr_left fun a _ => List.map_congr_left fun b _ => ?_
      exact distI_mod a b
    · iterate 3 (first | (k_unfold; (try dsimp only)) | (k_end; wrow_close) | walk1 | (dsimp only; walk1) | (leave1; walk_say "STEP leave1"; try dsimp only) | fail "no step")
      dsimp only
      refine next _ B' F10 X' (fun p hp => N10 p ?_) T' hdp hun hE ?_
      · rcases List.mem_cons.mp hp with rfl | hp
        · k_mem
        · rcases List.mem_cons.mp hp with rfl | hp
          · k_mem
          · exact List.mem_cons_of_mem _ (List.mem_cons_of_mem _ (List.mem_cons_of_mem _ (hsub p hp)))
      · exact fun s' m' F9 ea eb ec => hret s' m' F9 ea eb ec
end
section
theorem law2 (w : World) (mean : ExcName → Option Value) (mg mb : Str → Option Value) (dp un : Nat) (gd : Option (List Code)) (af : Addr) (ccd : Value) (outer : List Env) (A₀ : Around) (base h₀ : Heap) (L : Addr) (E : Value → Shared → Prop) (QF : Flow → Shared → Prop) (m : Str → Option Value) (o2 o3 o4 : Obj) (nu : Addr) (nvs : List Value) (ns : List Int) (nN : Nat) (news0 : List (Addr × Obj)) (hm2 : m (Str.ofString "numbers") = some (.ref nu)) (g4 : (nu, listOf nvs.toArray nN) ∈ news0) (e2 : IntsAre nvs ns) (l2 : ns.length = 4)
    (f0 : ∀ p ∈ news0, p.1 ≠ L + 1 + 1) (f1 : ∀ p ∈ news0, p.1 ≠ L + 1 + 1 + 1 + 1) (f2 : ∀ p ∈ news0, p.1 ≠ L + 1 + 1 + 1)
    (next : ∀ (on : Addr) (onvs : List Value) (nO : Nat) (nx : List (Addr × Obj)), (∀ p ∈ news0, p ∈ nx) → (∀ p ∈ nx, p.1 ≠ L + 1 + 1) → (∀ p ∈ nx, p.1 ≠ L + 1 + 1 + 1 + 1) → (∀ p ∈ nx, p.1 ≠ L + 1 + 1 + 1) → (on, listOf onvs.toArray nO) ∈ nx → TupsAt nx onvs (ns.map fun x => x.fmod 6) →
      LawAt w mean mg mb dp un gd af ccd outer A₀ base h₀ L E E QF 3 (fun y => if y = (Str.ofString "ones") then some (.ref on) else m y) ((L + 1 + 1, o2) :: (L + 1 + 1 + 1 + 1, o4) :: (L + 1 + 1 + 1, o3) :: nx)) :
    LawAt w mean mg mb dp un gd af ccd outer A₀ base h₀ L E E QF 2 m ((L + 1 + 1, o2) :: (L + 1 + 1 + 1 + 1, o4) :: (L + 1 + 1 + 1, o3) :: news0) := by
  dsimp only [LawAt, lawEnv]
  w_top off
  k_fill
  (conv in (lawFn.1.drop _) => whnf)
  have hsc : lawFn.2 = lawFn.2 := rfl
  (conv at hsc => lhs; whnf)
  rw [← hsc]
  dsimp only
  intro s B' F' X' N' T' hdp hun hE hret
  (first | (k_unfold; (try dsimp only)) | (k_end; wrow_close) | walk1 | (dsimp only; walk1) | (leave1; walk_say "STEP leave1"; try dsimp only) | fail "no step")
  refine LCg.Assign_ListComp_U (F₀ := F') (by rfl) (by rfl) (by with_unfolding_all rfl) (by decide) (by rfl) (by decide) (by rfl) (by rfl) (by rfl) ?_
  (first | (k_unfold; (try dsimp only)) | (k_end; wrow_close) | walk1 | (dsimp only; walk1) | (leave1; walk_say "STEP leave1"; try dsimp only) | fail "no step")
  have hz1 : nvs.toArray.size = 4 := by rw [List.size_toArray, e2.length, l2]
  refine LCg.CompSrc.ledger (its := nvs.toArray) (by rfl) (by k_asm) N' (by (first | k_mem | (repeat (first | assumption | refine List.mem_cons_of_mem _ ?_)))) (by rw [hz1, sizeLine_eq]; omega) ?_
  intro gZ
  refine rest_inv (fun i ys news => ∃ nx, news = (L + 1 + 1, o2) :: (L + 1 + 1 + 1 + 1, o4) :: (L + 1 + 1 + 1, o3) :: nx ∧ (∀ p ∈ news0, p ∈ nx) ∧ (∀ p ∈ nx, p.1 ≠ L + 1 + 1) ∧ (∀ p ∈ nx, p.1 ≠ L + 1 + 1 + 1 + 1) ∧ (∀ p ∈ nx, p.1 ≠ L + 1 + 1 + 1) ∧ ys.length = i ∧ TupsF nx ys fun j => (ns.getD j 0).fmod 6) nvs.toArray.size ?turn ?fin nvs.toArray.size 0 [] _ (by omega) ⟨news0, rfl, fun _ h => h, f0, f1, f2, rfl, fun j v hv => by simp at hv⟩
  case turn =>
    rintro i v I oI C oC D m2 ys _ h tk E' hi ⟨nx, rfl, hsub, hW, hP, hM, hyl, htu⟩ hv hC hx F N off ne
    obtain ⟨z, t, rfl, hz⟩ := e2.at i v (by simpa using hv)
    have hzd : ns.getD i 0 = z := by rw [List.getD_eq_getElem?_getD, hz]; rfl
    repeat' ((first | (k_unfold; (try dsimp only)) | (k_end; wrow_close) | walk1 | (dsimp only; walk1) | (leave1; walk_say "STEP leave1"; try dsimp only) | fail "no step"))
    rename News _ _ _ _ => N3
    refine' told_spec w mean mg mb z t _ _ _ _ _ _ _ _ _ _ _ _ _ _ _ _ _ _ ?k1 ?k2 ?k3 N3 ?k5 ?kK ?kd ?ku ?_
    case k1 => k_asm
    case k2 => k_asm
    case k3 => k_asm
    case k5 => k_asm
    case kK => exact rfl
    case kd => ktr_room
    case ku => ktr_units
    intro D9 t1 t2 h9 tk9 F9 N9 l9
    have oo := allLt_ne l9
    refine ⟨h9, tk9, (L + 1 + 1, o2) :: (L + 1 + 1 + 1 + 1, o4) :: (L + 1 + 1 + 1, o3) :: (D9, tupIS (z.fmod 6) (wd (z.fmod 6)) t1 t2) :: nx, rfl, F9, ?_, ?_, ?_, _, rfl, ?_, ?_, ?_, ?_, ?_, ?_⟩
    · intro p hp
      apply N9 p
      simp only [List.mem_cons] at hp ⊢
      rcases hp with h | h | h | h | h | h | h | h <;> simp [h]
    · refine LCg.Off3.of fun p hp => ?_
      have d1 : (I : Nat) ≠ D9 := oo (I, oI) (by k_mem)
      have d3 : (C : Nat) ≠ D9 := oo (C, oC) (by k_mem)
      have d4 : (D : Nat) ≠ D9 := oo (D, LCg.lst ys) (by k_mem)
      rcases List.mem_cons.mp hp with rfl | hp
      · exact LCg.Off3.mem off _ (by k_mem)
      · rcases List.mem_cons.mp hp with rfl | hp
        · exact LCg.Off3.mem off _ (by k_mem)
        · rcases List.mem_cons.mp hp with rfl | hp
          · exact LCg.Off3.mem off _ (by k_mem)
          · rcases List.mem_cons.mp hp with rfl | hp
            · exact ⟨d1.symm, d3.symm, d4.symm⟩
            · exact LCg.Off3.mem off _ (List.mem_cons_of_mem _ (List.mem_cons_of_mem _ (List.mem_cons_of_mem _ hp)))
    · exact Or.inr ⟨_, List.mem_cons_of_mem _ (List.mem_cons_of_mem _ (List.mem_cons_of_mem _ (List.mem_cons_of_mem _ (hsub _ g4)))), rfl, _, rfl⟩
    · exact fun p hp => List.mem_cons_of_mem _ (hsub p hp)
    · intro p hp
      rcases List.mem_cons.mp hp with rfl | hp
      · exact (oo (L + 1 + 1, o2) (by k_mem)).symm
      · exact hW p hp
    · intro p hp
      rcases List.mem_cons.mp hp with rfl | hp
      · exact (oo (L + 1 + 1 + 1 + 1, o4) (by k_mem)).symm
      · exact hP p hp
    · intro p hp
      rcases List.mem_cons.mp hp with rfl | hp
      · exact (oo (L + 1 + 1 + 1, o3) (by k_mem)).symm
      · exact hM p hp
    · rw [List.length_append, hyl]; rfl
    · exact tups_snoc (fun p hp => List.mem_cons_of_mem _ hp) hyl (by rw [hzd]; exact List.mem_cons_self) htu
  case fin =>
    rintro ys _ ⟨nx, rfl, hsub, hW, hP, hM, hyl, htu⟩
    intro D10 h10 tk10 F10 N10 o10
    have oo := off1_ne o10
    have hT := tups_map (by rw [hyl, List.size_toArray, e2.length]) htu
    refine next D10 ys _ ((D10, LCg.lst ys) :: nx) (fun p hp => List.mem_cons_of_mem _ (hsub p hp)) ?_ ?_ ?_ List.mem_cons_self ⟨hT.1, fun j v hv => ?_⟩ _ B' F10 X' ?_ T' hdp hun hE ?_
    · intro p hp
      rcases List.mem_cons.mp hp with rfl | hp
      · exact (oo (L + 1 + 1, o2) (by k_mem)).symm
      · exact hW p hp
    · intro p hp
      rcases List.mem_cons.mp hp with rfl | hp
      · exact (oo (L + 1 + 1 + 1 + 1, o4) (by k_mem)).symm
      · exact hP p hp
    · intro p hp
      rcases List.mem_cons.mp hp with rfl | hp
      · exact (oo (L + 1 + 1 + 1, o3) (by k_mem)).symm
      · exact hM p hp
    · obtain ⟨ra, t1, t2, e, h⟩ := hT.2 j v hv
      exact ⟨ra, t1, t2, e, List.mem_cons_of_mem _ h⟩
    · intro p hp
      apply N10 p
      simp only [List.mem_cons] at hp ⊢
      rcases hp with h | h | h | h | h <;> simp [h]
    · exact fun s' m' F9 ea eb ec => hret s' m' F9 ea eb ec
end
section
theorem law3 (w : World) (mean : ExcName → Option Value) (mg mb : Str → Option Value) (dp un : Nat) (gd : Option (List Code)) (af : Addr) (ccd : Value) (outer : List Env) (A₀ : Around) (base h₀ : Heap) (L : Addr) (E : Value → Shared → Prop) (QF : Flow → Shared → Prop) (m : Str → Option Value) (o1 o2 o3 o4 : Obj) (v2 : Option Value) (ot : Addr) (ovs : List Value) (os : List Int) (nO : Nat) (news0 : List (Addr × Obj)) (g6 : (L + 1, o1) ∈ news0) (d1 : o1.data = .cell (some (.ref ot))) (d2 : o2.data = .cell v2) (g5 : (ot, listOf ovs.toArray nO) ∈ news0) (e3 : IntsAre ovs os) (l3 : os.length = 4)
    (f0 : ∀ p ∈ news0, p.1 ≠ L + 1 + 1) (f1 : ∀ p ∈ news0, p.1 ≠ L + 1 + 1 + 1 + 1) (f2 : ∀ p ∈ news0, p.1 ≠ L + 1 + 1 + 1)
    (next : ∀ (tw : Addr) (twvs : List Value) (nW : Nat) (o2' : Obj) (nx : List (Addr × Obj)), (∀ p ∈ news0, p ∈ nx) → (∀ p ∈ nx, p.1 ≠ L + 1 + 1 + 1 + 1) → (∀ p ∈ nx, p.1 ≠ L + 1 + 1 + 1) → (tw, listOf twvs.toArray nW) ∈ nx → (L + 1 + 1, o2') ∈ nx → o2'.data = .cell (some (.ref tw)) → TupsAt nx twvs (os.map fun x => x.fmod 6) →
      LawAt w mean mg mb dp un gd af ccd outer A₀ base h₀ L E E QF 4 m ((L + 1 + 1 + 1 + 1, o4) :: (L + 1 + 1 + 1, o3) :: nx)) :
    LawAt w mean mg mb dp un gd af ccd outer A₀ base h₀ L E E QF 3 m ((L + 1 + 1, o2) :: (L + 1 + 1 + 1 + 1, o4) :: (L + 1 + 1 + 1, o3) :: news0) := by
  dsimp only [LawAt, lawEnv]
  w_top off
  k_fill
  (conv in (lawFn.1.drop _) => whnf)
  have hsc : lawFn.2 = lawFn.2 := rfl
  (conv at hsc => lhs; whnf)
  rw [← hsc]
  dsimp only
  intro s B' F' X' N' T' hdp hun hE hret
  (first | (k_unfold; (try dsimp only)) | (k_end; wrow_close) | walk1 | (dsimp only; walk1) | (leave1; walk_say "STEP leave1"; try dsimp only) | fail "no step")
  refine aComp (by rfl) (LCg.ListComp_U (F₀ := F') (by with_unfolding_all rfl) (by decide) (by rfl) (by decide) (by rfl) ?_)
  (first | (k_unfold; (try dsimp only)) | (k_end; wrow_close) | walk1 | (dsimp only; walk1) | (leave1; walk_say "STEP leave1"; try dsimp only) | fail "no step")
  have hz1 : ovs.toArray.size = 4 := by rw [List.size_toArray, e3.length, l3]
  refine LCg.CompSrc.ledger (its := ovs.toArray) (by rfl) (by k_asm) N' (by (first | k_mem | (repeat (first | assumption | refine List.mem_cons_of_mem _ ?_)))) (by rw [hz1, sizeLine_eq]; omega) ?_
  intro gZ
  refine rest_inv (fun i ys news => ∃ nx, news = (L + 1 + 1, o2) :: (L + 1 + 1 + 1 + 1, o4) :: (L + 1 + 1 + 1, o3) :: nx ∧ (∀ p ∈ news0, p ∈ nx) ∧ (∀ p ∈ nx, p.1 ≠ L + 1 + 1) ∧ (∀ p ∈ nx, p.1 ≠ L + 1 + 1 + 1 + 1) ∧ (∀ p ∈ nx, p.1 ≠ L + 1 + 1 + 1) ∧ ys.length = i ∧ TupsF nx ys fun j => (os.getD j 0).fmod 6) ovs.toArray.size ?turn ?fin ovs.toArray.size 0 [] _ (by omega) ⟨news0, rfl, fun _ h => h, f0, f1, f2, rfl, fun j v hv => by simp at hv⟩
  case turn =>
    rintro i v I oI C oC D m2 ys _ h tk E' hi ⟨nx, rfl, hsub, hW, hP, hM, hyl, htu⟩ hv hC hx F N off ne
    obtain ⟨z, t, rfl, hz⟩ := e3.at i v (by simpa using hv)
    have hzd : os.getD i 0 = z := by rw [List.getD_eq_getElem?_getD, hz]; rfl
    repeat' ((first | (k_unfold; (try dsimp only)) | (k_end; wrow_close) | walk1 | (dsimp only; walk1) | (leave1; walk_say "STEP leave1"; try dsimp only) | fail "no step"))
    rename News _ _ _ _ => N3
    refine' told_spec w mean mg mb z t _ _ _ _ _ _ _ _ _ _ _ _ _ _ _ _ _ _ ?k1 ?k2 ?k3 N3 ?k5 ?kK ?kd ?ku ?_
    case k1 => k_asm
    case k2 => k_asm
    case k3 => k_asm
    case k5 => k_asm
    case kK => exact rfl
    case kd => ktr_room
    case ku => ktr_units
    intro D9 t1 t2 h9 tk9 F9 N9 l9
    have oo := allLt_ne l9
    refine ⟨h9, tk9, (L + 1 + 1, o2) :: (L + 1 + 1 + 1 + 1, o4) :: (L + 1 + 1 + 1, o3) :: (D9, tupIS (z.fmod 6) (wd (z.fmod 6)) t1 t2) :: nx, rfl, F9, ?_, ?_, ?_, _, rfl, ?_, ?_, ?_, ?_, ?_, ?_⟩
    · intro p hp
      apply N9 p
      simp only [List.mem_cons] at hp ⊢
      rcases hp with h | h | h | h | h | h | h | h <;> simp [h]
    · refine LCg.Off3.of fun p hp => ?_
      have d1 : (I : Nat) ≠ D9 := oo (I, oI) (by k_mem)
      have d3 : (C : Nat) ≠ D9 := oo (C, oC) (by k_mem)
      have d4 : (D : Nat) ≠ D9 := oo (D, LCg.lst ys) (by k_mem)
      rcases List.mem_cons.mp hp with rfl | hp
      · exact LCg.Off3.mem off _ (by k_mem)
      · rcases List.mem_cons.mp hp with rfl | hp
        · exact LCg.Off3.mem off _ (by k_mem)
        · rcases List.mem_cons.mp hp with rfl | hp
          · exact LCg.Off3.mem off _ (by k_mem)
          · rcases List.mem_cons.mp hp with rfl | hp
            · exact ⟨d1.symm, d3.symm, d4.symm⟩
            · exact LCg.Off3.mem off _ (List.mem_cons_of_mem _ (List.mem_cons_of_mem _ (List.mem_cons_of_mem _ hp)))
    · exact Or.inr ⟨_, List.mem_cons_of_mem _ (List.mem_cons_of_mem _ (List.mem_cons_of_mem _ (List.mem_cons_of_mem _ (hsub _ g5)))), rfl, _, rfl⟩
    · exact fun p hp => List.mem_cons_of_mem _ (hsub p hp)
    · intro p hp
      rcases List.mem_cons.mp hp with rfl | hp
      · exact (oo (L + 1 + 1, o2) (by k_mem)).symm
      · exact hW p hp
    · intro p hp
      rcases List.mem_cons.mp hp with rfl | hp
      · exact (oo (L + 1 + 1 + 1 + 1, o4) (by k_mem)).symm
      · exact hP p hp
    · intro p hp
      rcases List.mem_cons.mp hp with rfl | hp
      · exact (oo (L + 1 + 1 + 1, o3) (by k_mem)).symm
      · exact hM p hp
    · rw [List.length_append, hyl]; rfl
    · exact tups_snoc (fun p hp => List.mem_cons_of_mem _ hp) hyl (by rw [hzd]; exact List.mem_cons_self) htu
  case fin =>
    rintro ys _ ⟨nx, rfl, hsub, hW, hP, hM, hyl, htu⟩
    intro D10 h10 tk10 F10 N10 o10
    have oo := off1_ne o10
    have hT := tups_map (by rw [hyl, List.size_toArray, e3.length]) htu
    refine lwS_twos hsc F10 N10 (UpdF.tail ?a (UpdF.head ?b)) d2 ?_
    case a => exact (oo (L + 1 + 1, o2) (by k_mem)).symm
    case b =>
      intro p hp
      rcases List.mem_cons.mp hp with rfl | hp
      · first | exact neqA _ | exact neqB _ | exact neqC _ | exact (neqA _).symm | exact (neqB _).symm | exact (neqC _).symm
      · rcases List.mem_cons.mp hp with rfl | hp
        · first | exact neqA _ | exact neqB _ | exact neqC _ | exact (neqA _).symm | exact (neqB _).symm | exact (neqC _).symm
        · exact hW p hp
    intro h11 o2' tk11 F11 N11 d2'
    refine next D10 ys _ o2' ((D10, LCg.lst ys) :: (L + 1 + 1, o2') :: nx) (fun p hp => List.mem_cons_of_mem _ (List.mem_cons_of_mem _ (hsub p hp))) ?_ ?_ List.mem_cons_self (by k_mem) d2' ⟨hT.1, fun j v hv => ?_⟩ _ B' F11 X' ?_ T' hdp hun hE ?_
    · intro p hp
      rcases List.mem_cons.mp hp with rfl | hp
      · exact (oo (L + 1 + 1 + 1 + 1, o4) (by k_mem)).symm
      · rcases List.mem_cons.mp hp with rfl | hp
        · first | exact neqA _ | exact neqB _ | exact neqC _ | exact (neqA _).symm | exact (neqB _).symm | exact (neqC _).symm
        · exact hP p hp
    · intro p hp
      rcases List.mem_cons.mp hp with rfl | hp
      · exact (oo (L + 1 + 1 + 1, o3) (by k_mem)).symm
      · rcases List.mem_cons.mp hp with rfl | hp
        · first | exact neqA _ | exact neqB _ | exact neqC _ | exact (neqA _).symm | exact (neqB _).symm | exact (neqC _).symm
        · exact hM p hp
    · obtain ⟨ra, t1, t2, e, h⟩ := hT.2 j v hv
      exact ⟨ra, t1, t2, e, List.mem_cons_of_mem _ (List.mem_cons_of_mem _ h)⟩
    · intro p hp
      apply N11 p
      simp only [List.mem_cons] at hp ⊢
      rcases hp with h | h | h | h | h <;> simp [h]
    · exact fun s' m' F9 ea eb ec => hret s' m' F9 ea eb ec
end
section
theorem words_20 : True := by
  k_with_none
  k_with "storeName" => (k_here; (with_reducible show wpAny _ _ (storeName (envOf _ _ _ _) _ _) _ _ _); k_dflt (refine' stG ?FhW ?NhW ?_ ?ahW ?bhW; (case FhW => k_asm); (case NhW => k_asm); (case ahW => rfl); (case bhW => rfl); k_whole; intro hxW tkxW FxW NxW; (try k_sweep)))
  k_with "binaryOp Add int int" => (refine r_add (by ((try simp only [Int.reduceAdd, Int.reduceSub, Int.reduceNeg]); exact rfl)) ?_)
  k_with "binaryOp Sub int int" => (refine r_sub (by ((try simp only [Int.reduceAdd, Int.reduceSub, Int.reduceNeg]); exact rfl)) ?_)
  k_with "inplaceOp Add int int" => (refine r_iadd (by ((try simp only [Int.reduceAdd, Int.reduceSub, Int.reduceNeg]); exact rfl)) ?_)
  k_with "inplaceOp Sub int int" => (refine r_isub (by ((try simp only [Int.reduceAdd, Int.reduceSub, Int.reduceNeg]); exact rfl)) ?_)
  k_with "execs cons" => (k_here; (with_reducible show wpAny _ _ _ _ _ (Shared.mk _ _ _ (_ + _) _)); refine genT ?_; intro tkW)
  k_with "execs nil" => (k_here; (with_reducible show wpAny _ _ _ _ _ (Shared.mk _ _ _ (_ + _) _)); refine genT ?_; intro tkW)
  k_with "binaryOp Mult int int" => (refine r_mul (by ((try simp only [Int.reduceAdd, Int.reduceSub, Int.reduceNeg, Int.reduceMul]); exact rfl)) (by mul_fits) ?_)
  k_with "ite" => (k_closed; (first | with_reducible refine ite_posI (by decide) ?_ | with_reducible refine ite_negI (by decide) ?_))
  k_with "eval Name" => (k_here; (with_reducible show wpAny _ _ (eval (Expr.Name _ _) (envOfC _ _ _ _ _)) _ _ _); (first | (with_reducible refine' nmC_range (w := _) ?k1hW ?k2hW ?k3hW ?k4hW ?k5hW ?_) | (with_reducible refine' nmC_min (w := _) ?k1hW ?k2hW ?k3hW ?k4hW ?k5hW ?_) | (with_reducible refine' nmC_round (w := _) ?k1hW ?k2hW ?k3hW ?k4hW ?k5hW ?_) | (with_reducible refine' nmC_rgbtohls (w := _) ?k1hW ?k2hW ?k3hW ?k4hW ?k5hW ?_) | (with_reducible refine' nmC_rgbtohsv (w := _) ?k1hW ?k2hW ?k3hW ?k4hW ?k5hW ?_)); (case k1hW => k_asm); (case k2hW => k_asm); (case k3hW => k_asm); (case k4hW => decide +kernel); (case k5hW => first | exact rfl | assumption); k_whole)
  k_with "eval Name" => (k_here; (with_reducible show wpAny _ _ (eval (Expr.Name _ _) (compEnvC _ _ _ _)) _ _ _); (first | (with_reducible refine' nmK_min (w := _) ?k1hW ?k2hW ?k3hW ?k4hW ?k5hW ?k6hW ?k7hW ?_) | (with_reducible refine' nmK_abs (w := _) ?k1hW ?k2hW ?k3hW ?k4hW ?k5hW ?k6hW ?k7hW ?_) | (with_reducible refine' nmK_levenshteindistance (w := _) ?k1hW ?k2hW ?k3hW ?k4hW ?k5hW ?k6hW ?k7hW ?_) | (with_reducible refine' nmK_lawtold (w := _) ?k1hW ?k2hW ?k3hW ?k4hW ?k5hW ?k6hW ?k7hW ?_) | (with_reducible refine' nmK_lawleast (w := _) ?k1hW ?k2hW ?k3hW ?k4hW ?k5hW ?k6hW ?k7hW ?_)); (case k1hW => k_asm); (case k2hW => k_asm); (case k3hW => k_asm); (case k4hW => k_dflt (exact rfl)); (case k5hW => k_dflt (exact rfl)); (case k6hW => k_dflt (exact rfl)); (case k7hW => k_dflt (exact rfl)); k_whole)
  k_with "eval Name" => (k_here; (with_reducible show wpAny _ _ (eval (Expr.Name _ _) (compEnvC _ _ _ _)) _ _ _); k_dflt (refine' kOwn ?k1hW ?k2hW ?k3hW ?k4hW ?k5hW ?k6hW ?k7hW ?_; (case k2hW => exact rfl); (case k1hW => k_asm); (case k3hW => k_mem); (case k4hW => assumption); (case k5hW => assumption); (case k6hW => exact rfl); (case k7hW => decide); k_whole))
  k_with "eval Name" => (k_here; (with_reducible show wpAny _ _ (eval (Expr.Name _ _) (compEnvC _ _ _ _)) _ _ _); k_dflt (refine' kFree ?k1hW ?k2hW ?k3hW ?k4hW ?k5hW ?k6hW ?k7hW ?k8hW ?_; (case k2hW => exact rfl); (case k1hW => k_asm); (case k3hW => exact rfl); (case k4hW => k_mem); (case k5hW => k_asm); (case k6hW => exact rfl); (case k7hW => decide); (case k8hW => decide); k_whole))
  k_with "eval Name" => (k_here; (with_reducible show wpAny _ _ (eval (Expr.Name _ _) (envOfC _ _ _ _ _)) _ _ _); k_dflt (refine' cC ?k1hW ?k2hW ?k3hW ?k4hW ?k5hW ?k6hW ?k7hW ?_; (case k2hW => exact rfl); (case k1hW => k_asm); (case k3hW => exact rfl); (case k4hW => k_mem); (case k5hW => k_asm); (case k6hW => exact rfl); (case k7hW => decide); k_whole))
  k_with "eval Name" => (k_here; (with_reducible show wpAny _ _ (eval (Expr.Name _ _) (envOfC _ _ _ _ _)) _ _ _); k_dflt (refine' cL ?k1hW ?k2hW ?k3hW ?k4hW ?k5hW ?_; (case k2hW => exact rfl); (case k1hW => k_asm); (case k3hW => exact rfl); (case k4hW => exact rfl); (case k5hW => decide); k_whole))
  k_with "storeName" => (k_here; (with_reducible show wpAny _ _ (storeName (envOfC _ _ _ _ _) _ _) _ _ _); k_dflt (refine' sC ?k1hW ?k2hW ?k3hW ?k4hW ?k5hW ?k6hW ?k7hW ?_; (case k3hW => exact rfl); (case k1hW => k_asm); (case k2hW => k_asm); (case k4hW => exact rfl); (case k5hW => k_updF); (case k6hW => k_asm); (case k7hW => exact rfl); k_whole; intro hxW oxW tkxW FxW NxW dxW; (try dsimp only at NxW); (try k_sweep)))
  k_with "storeName" => (k_here; (with_reducible show wpAny _ _ (storeName (envOfC _ _ _ _ _) _ _) _ _ _); k_dflt (refine' sL ?k1hW ?k2hW ?k3hW ?k4hW ?_; (case k3hW => exact rfl); (case k1hW => k_asm); (case k2hW => k_asm); (case k4hW => exact rfl); k_whole; intro hxW tkxW FxW NxW; (try k_sweep)))
  k_with "exec Assign" => (k_here; (with_reducible show wpAny _ _ (exec (Stmt.Assign [Expr.Name _ _] _ _) _) _ _ _); refine wpAny_Assign_Name ?_)
  k_with "exec Assign cons ListComp" => (k_here; (with_reducible show wpAny _ _ (exec (Stmt.Assign [Expr.Name _ _] _ _) (envOfC _ _ _ _ _)) _ _ _); k_dflt (refine' aComp ?k1hW ?_; (case k1hW => exact rfl)))
  k_with "subscriptTail Name Constant ref int" => (k_here; (with_reducible rename News _ _ _ _ => NxW); (with_unfolding_all refine r_rowC NxW (by k_mem) (by decide) (by decide) (by exact rfl) ?_))
  k_with "subscriptTail Name Name ref int" => (k_here; (with_reducible rename News _ _ _ _ => NxW); (with_unfolding_all refine r_rowN NxW (by k_mem) (by decide) (by decide) (by exact rfl) ?_))
  k_with "subscriptTail Constant Name str int" => (k_here; refine r_itemK (by first | exact (by decide : Txt.item (Str.ofString "RGB") 0 = Str.mk #[82]) | exact (by decide : Txt.item (Str.ofString "RGB") 1 = Str.mk #[71]) | exact (by decide : Txt.item (Str.ofString "RGB") 2 = Str.mk #[66]) | exact (by decide : Txt.item (Str.ofString "rgb") 0 = Str.mk #[114]) | exact (by decide : Txt.item (Str.ofString "rgb") 1 = Str.mk #[103]) | exact (by decide : Txt.item (Str.ofString "rgb") 2 = Str.mk #[98])) (by decide) (by decide) (by decide) ?_)
  k_with "CompRest" => (with_unfolding_all first | (refine LCg.CompRest.succ ?_; intro vxW IxW oIxW CxW oCxW DxW mxW hxW tkxW ExW hvxW hCxW hxxW FxW NxW offxW nexW; (obtain ⟨t9xW, hv9xW⟩ := hvxW; subst hv9xW); (try simp only [w00, w01, w02, w03, w04, w05, List.getD_cons_zero, List.getD_cons_succ] at hxxW); (have off9xW := offxW); (try simp only [LCg.Off3, and_true] at offxW)) | refine LCg.CompRest.zero ?_)
  k_with "CompSrc" => (k_here; k_dflt (refine LCg.CompSrc.range (by rfl) (by k_asm) (by k_asm) (by assumption) (by first | decide | rfl) (by first | rfl | decide) (by first | size_fits | exact Nat.le_of_ble_eq_true rfl) ?_; intro gxW; lcg_lit))
  k_with "CompSrc" => (k_here; k_dflt (refine LCg.CompSrc.ledger (by rfl) (by k_asm) (by k_asm) (by k_mem) (by first | size_fits | exact Nat.le_of_ble_eq_true rfl) ?_; intro gxW; lcg_lit))
  k_with "eval Name" => (k_here; (with_reducible show wpAny _ _ (eval (Expr.Name _ _) (compEnvC _ _ _ _)) _ _ _); k_dflt (refine' kCell ?k1hW ?k2hW ?k3hW ?k4hW ?k5hW ?k6hW ?k7hW ?_; (case k2hW => exact rfl); (case k1hW => k_asm); (case k3hW => exact rfl); (case k4hW => (first | k_mem | (repeat (first | assumption | refine List.mem_cons_of_mem _ ?_)))); (case k5hW => k_asm); (case k6hW => exact rfl); (case k7hW => decide); k_whole))
  k_with "eval Name" => (k_here; (with_reducible show wpAny _ _ (eval (Expr.Name _ _) (envOfC _ _ _ _ _)) _ _ _); (first | (with_reducible refine' lwG_len (w := _) ?hchW ?k1hW ?k2hW ?k3hW ?_) | (with_reducible refine' lwG_range (w := _) ?hchW ?k1hW ?k2hW ?k3hW ?_) | (with_reducible refine' lwG_sum (w := _) ?hchW ?k1hW ?k2hW ?k3hW ?_) | (with_reducible refine' lwG_lawleast (w := _) ?hchW ?k1hW ?k2hW ?k3hW ?_) | (with_reducible refine' lwG_insortright (w := _) ?hchW ?k1hW ?k2hW ?k3hW ?_) | (with_reducible refine' lwG_bisectright (w := _) ?hchW ?k1hW ?k2hW ?k3hW ?_)); (case hchW => with_reducible assumption); (case k1hW => k_asm); (case k2hW => k_asm); (case k3hW => k_asm); k_whole)
  k_with "eval Name" => (k_here; (with_reducible show wpAny _ _ (eval (Expr.Name _ _) (envOfC _ _ _ _ _)) _ _ _); (first | (with_reducible refine' lwL_others ?hchW ?k1hW ?k2hW ?k3hW ?_) | (with_reducible refine' lwL_twos ?hchW ?k1hW ?k2hW ?k3hW ?_) | (with_reducible refine' lwL_more ?hchW ?k1hW ?k2hW ?k3hW ?_) | (with_reducible refine' lwL_place ?hchW ?k1hW ?k2hW ?k3hW ?_)); (case hchW => with_reducible assumption); (case k1hW => k_asm); (case k2hW => (first | k_mem | (repeat (first | assumption | refine List.mem_cons_of_mem _ ?_)))); (case k3hW => k_asm); k_whole)
  k_with "eval Name" => (k_here; (with_reducible show wpAny _ _ (eval (Expr.Name _ _) (envOfC _ _ _ _ _)) _ _ _); (first | (with_reducible refine' lwL_script ?hchW ?k1hW ?k2hW ?_) | (with_reducible refine' lwL_numbers ?hchW ?k1hW ?k2hW ?_) | (with_reducible refine' lwL_ones ?hchW ?k1hW ?k2hW ?_) | (with_reducible refine' lwL_rows ?hchW ?k1hW ?k2hW ?_) | (with_reducible refine' lwL_k ?hchW ?k1hW ?k2hW ?_) | (with_reducible refine' lwL_table ?hchW ?k1hW ?k2hW ?_) | (with_reducible refine' lwL_count ?hchW ?k1hW ?k2hW ?_)); (case hchW => with_reducible assumption); (case k1hW => k_asm); (case k2hW => first | exact rfl | assumption); k_whole)
  k_with "storeName" => (k_here; (with_reducible show wpAny _ _ (storeName (envOfC _ _ _ _ _) _ _) _ _ _); (first | (with_reducible refine' lwS_script ?hchW ?k1hW ?k2hW ?_) | (with_reducible refine' lwS_numbers ?hchW ?k1hW ?k2hW ?_) | (with_reducible refine' lwS_ones ?hchW ?k1hW ?k2hW ?_) | (with_reducible refine' lwS_rows ?hchW ?k1hW ?k2hW ?_) | (with_reducible refine' lwS_k ?hchW ?k1hW ?k2hW ?_) | (with_reducible refine' lwS_table ?hchW ?k1hW ?k2hW ?_) | (with_reducible refine' lwS_count ?hchW ?k1hW ?k2hW ?_)); (case hchW => with_reducible assumption); (case k1hW => k_asm); (case k2hW => k_asm); k_whole; intro hxW tkxW FxW NxW; (try k_sweep))
  k_with "storeName" => (k_here; (with_reducible show wpAny _ _ (storeName (envOfC _ _ _ _ _) _ _) _ _ _); (first | (with_reducible refine' lwS_others ?hchW ?k1hW ?k2hW ?k5hW ?k6hW ?_) | (with_reducible refine' lwS_twos ?hchW ?k1hW ?k2hW ?k5hW ?k6hW ?_) | (with_reducible refine' lwS_more ?hchW ?k1hW ?k2hW ?k5hW ?k6hW ?_) | (with_reducible refine' lwS_place ?hchW ?k1hW ?k2hW ?k5hW ?k6hW ?_)); (case hchW => with_reducible assumption); (case k1hW => k_asm); (case k2hW => k_asm); (case k5hW => k_updF); (case k6hW => k_asm); k_whole; intro hxW oxW tkxW FxW NxW dxW; (try dsimp only at NxW); (try k_sweep))
  k_with "subscriptTail Name Constant ref int" => (k_here; (with_reducible rename News _ _ _ _ => NxW); k_dflt (refine r_rowIC NxW (by (first | k_mem | (repeat (first | assumption | refine List.mem_cons_of_mem _ ?_)))) (by assumption) (by decide) (by omega) (by omega) ?_; intro t9xW))
  k_with "subscriptTail Name Constant ref int" => (k_here; (with_reducible rename News _ _ _ _ => NxW); (with_unfolding_all refine r_rowC NxW (by (first | k_mem | (repeat (first | assumption | refine List.mem_cons_of_mem _ ?_)))) (by decide) (by decide) (by exact rfl) ?_))
  k_with "eval ListComp" => (k_here; (with_reducible show wpAny _ _ (eval (Expr.ListComp (Expr.Name _ _) [⟨_, Expr.Name _ _, [_], _⟩] _ _) _) _ _ _); k_dflt (refine LCt.ListComp_T (F₀ := by k_asm) (by with_unfolding_all rfl) (by decide) (by rfl) (by decide) (by rfl) ?_))
  k_with "CompSrcT" => (k_here; (with_reducible rename News _ _ _ _ => NxW); k_dflt (refine LCt.CompSrcT.ledger (by rfl) (by k_asm) NxW (by (first | k_mem | (repeat (first | assumption | refine List.mem_cons_of_mem _ ?_)))) (by assumption) ?_))
  k_with "call builtin:len" => (k_here; (with_reducible show wpAny _ _ (call (Value.builtin _) [Value.ref _]) _ _ _); k_dflt (refine len_mem (by k_asm) (by (first | k_mem | (repeat (first | assumption | refine List.mem_cons_of_mem _ ?_)))) (by assumption) (by assumption) ?_))
  k_with "subscriptTail Name Constant ref int" => (k_here; (with_reducible show wpAny _ _ (subscriptTail _ _ (Value.ref _) (Value.int 1 _)) _ _ _); (with_reducible rename News _ _ _ _ => NxW); k_dflt (refine r_tup1 NxW (by (first | k_mem | (repeat (first | assumption | refine List.mem_cons_of_mem _ ?_)))) ?_))
  k_with "subscriptTail Subscript Name Name Constant ref int" => (k_here; (with_reducible show wpAny _ _ (subscriptTail _ _ (Value.ref _) (Value.int 0 _)) _ _ _); (with_reducible rename News _ _ _ _ => NxW); k_dflt (refine r_tup0 NxW (by (first | k_mem | (repeat (first | assumption | refine List.mem_cons_of_mem _ ?_)))) ?_))
  k_with "subscriptTail Name Name ref int" => (k_here; (with_reducible rename News _ _ _ _ => NxW); k_dflt (refine r_rowN NxW (by (first | k_mem | (repeat (first | assumption | refine List.mem_cons_of_mem _ ?_)))) (by omega) (by omega) (by assumption) ?_))
  k_with "subscriptTail" => (k_here; (with_reducible show wpAny _ _ (subscriptTail (Expr.List _ _) (PySem.Expr.Slice _ _ none _) (Value.ref _) (Value.ref _)) _ _ _); k_dflt (refine' r_lslice ?FhW ?NhW ?lhW ?ihW ?zhW ?ehW ?_; (case FhW => k_asm); (case NhW => k_asm); (case lhW => k_mem); (case ihW => l_ints); (case zhW => omega); (case ehW => decide)); intro DxW wsxW hxW FxW NxW l1W hIxW; (try k_lt l1W); (try k_sweep))
  trivial
theorem law0 (w : World) (mean : ExcName → Option Value) (mg mb : Str → Option Value) (dp un : Nat) (gd : Option (List Code)) (af : Addr) (ccd : Value) (outer : List Env) (A₀ : Around) (base h₀ : Heap) (L : Addr) (E : Value → Shared → Prop) (QF : Flow → Shared → Prop) (m : Str → Option Value) (l : Addr) (vs : List Value) (sc : List Int) (o1 o2 o3 o4 : Obj) (v1 v2 v3 v4 : Option Value) (hl : h₀.IsList l vs.toArray) (hi : IntsAre vs sc) (hlen : sc.length ≤ 63) (hm : m (Str.ofString "script") = some (.ref l))
    (d1 : o1.data = .cell v1)
    (next : ∀ (m' : Str → Option Value) (nu ot : Addr) (nvs ovs : List Value) (ns os : List Int) (nN nO : Nat) (o1' : Obj) (nx : List (Addr × Obj)), (∀ p ∈ nx, p.1 ≠ L + 1 + 1) → (∀ p ∈ nx, p.1 ≠ L + 1 + 1 + 1 + 1) → (∀ p ∈ nx, p.1 ≠ L + 1 + 1 + 1) →
      m' (Str.ofString "numbers") = some (.ref nu) → (nu, listOf nvs.toArray nN) ∈ nx → (ot, listOf ovs.toArray nO) ∈ nx → (L + 1, o1') ∈ nx → o1'.data = .cell (some (.ref ot)) → IntsAre nvs ns → IntsAre ovs os → ns.length = 4 → os.length = 4 →
      LawAt w mean mg mb dp un gd af ccd outer A₀ base h₀ L E E QF 2 m' ((L + 1 + 1, o2) :: (L + 1 + 1 + 1 + 1, o4) :: (L + 1 + 1 + 1, o3) :: nx)) :
    LawAt w mean mg mb dp un gd af ccd outer A₀ base h₀ L E E QF 0 m [(L + 1 + 1 + 1 + 1, o4), (L + 1 + 1 + 1, o3), (L + 1 + 1, o2), (L + 1, o1)] := by
  dsimp only [LawAt, lawEnv]
  w_top off
  k_fill
  (conv in (lawFn.1.drop _) => whnf)
  have hsc : lawFn.2 = lawFn.2 := rfl
  (conv at hsc => lhs; whnf)
  rw [← hsc]
  dsimp only
  intro s B' F' X' N' T' hdp hun hE hret
  iterate 81 (first | (k_unfold; (try dsimp only)) | (k_end; wrow_close) | walk1 | (dsimp only; walk1) | (leave1; walk_say "STEP leave1"; try dsimp only) | fail "no step")
  rename_i nu nvs y1 eN lN y2 y4 y5 y6 y7 y8 y9 y10 y11 y12 y13 y14 y15 y16 y17 y18 y19 y20 ot ovs y26 F1 N1 eO lO
  have a4 := lN.2.2.2.1
  have a3 := lN.2.2.2.2.1
  have a2 := lN.2.2.2.2.2.1
  have a1 := lN.2.2.2.2.2.2
  have b := lO.2.2.2.2.1
  have N2 : News h₀ L y26 [(L + 1, o1), (ot, listOf ovs.toArray 0), (nu, listOf nvs.toArray 0), (L + 1 + 1, o2), (L + 1 + 1 + 1 + 1, o4), (L + 1 + 1 + 1, o3)] := by
    intro p hp
    apply N1 p
    simp only [List.mem_cons, List.not_mem_nil, or_false] at hp ⊢
    rcases hp with h | h | h | h | h | h <;> simp [h]
  refine lwS_others hsc F1 N2 (UpdF.head ?hh) d1 ?_
  case hh =>
    intro p hp
    simp only [List.mem_cons, List.not_mem_nil, or_false] at hp
    rcases hp with h | h | h | h | h <;> subst h
    · exact Nat.ne_of_gt (Nat.lt_trans a1 b)
    · exact Nat.ne_of_gt a1
    · first | exact neqA _ | exact neqB _ | exact neqC _ | exact (neqA _).symm | exact (neqB _).symm | exact (neqC _).symm
    · first | exact neqA _ | exact neqB _ | exact neqC _ | exact (neqA _).symm | exact (neqB _).symm | exact (neqC _).symm
    · first | exact neqA _ | exact neqB _ | exact neqC _ | exact (neqA _).symm | exact (neqB _).symm | exact (neqC _).symm
  intro h5 o1' tk5 F5 N5 d5
  refine next _ nu ot nvs ovs _ _ 0 0 o1' [(L + 1, o1'), (ot, listOf ovs.toArray 0), (nu, listOf nvs.toArray 0)] ?w2 ?w4 ?w3 rfl (by k_mem) (by k_mem) (by k_mem) d5 eN eO ?ln ?lo _ B' F5 X' ?nn T' hdp hun hE ?rr
  case w2 =>
    intro p hp
    simp only [List.mem_cons, List.not_mem_nil, or_false] at hp
    rcases hp with h | h | h <;> subst h
    · first | exact neqA _ | exact neqB _ | exact neqC _ | exact (neqA _).symm | exact (neqB _).symm | exact (neqC _).symm
    · exact Nat.ne_of_gt (Nat.lt_trans a2 b)
    · exact Nat.ne_of_gt a2
  case w4 =>
    intro p hp
    simp only [List.mem_cons, List.not_mem_nil, or_false] at hp
    rcases hp with h | h | h <;> subst h
    · first | exact neqA _ | exact neqB _ | exact neqC _ | exact (neqA _).symm | exact (neqB _).symm | exact (neqC _).symm
    · exact Nat.ne_of_gt (Nat.lt_trans a4 b)
    · exact Nat.ne_of_gt a4
  case w3 =>
    intro p hp
    simp only [List.mem_cons, List.not_mem_nil, or_false] at hp
    rcases hp with h | h | h <;> subst h
    · first | exact neqA _ | exact neqB _ | exact neqC _ | exact (neqA _).symm | exact (neqB _).symm | exact (neqC _).symm
    · exact Nat.ne_of_gt (Nat.lt_trans a3 b)
    · exact Nat.ne_of_gt a3
  case ln => exact len_mix sc _ rfl
  case lo => exact len_mix2 sc _ rfl
  case nn =>
    intro p hp
    apply N5 p
    simp only [List.mem_cons, List.not_mem_nil, or_false] at hp ⊢
    rcases hp with h | h | h | h | h | h <;> simp [h]
  case rr => exact fun s' m' F9 ea eb ec => hret s' m' F9 ea eb ec
end
section
theorem cnt_filt {R xs : List Int} {q : Int} (p : R.Perm (xs.map fun x => x.fmod 6)) : cntI R q = ((xs.filter fun x => decide (x.fmod 6 ≤ q)).length : Int) := by
  rw [cnt_perm p]
  unfold cntI
  rw [List.countP_map, List.countP_eq_length_filter]
  rfl
theorem fm_in {xs : List Int} : ∀ x ∈ xs.map (fun x => x.fmod 6), 0 ≤ x ∧ x < 6 := by
  intro x hx
  obtain ⟨y, _, rfl⟩ := List.mem_map.mp hx
  exact fmod6 y
theorem tups_mono {l l' : List (Addr × Obj)} {vs : List Value} {as : List Int} (hs : ∀ p ∈ l, p ∈ l') (h : TupsAt l vs as) : TupsAt l' vs as :=
  ⟨h.1, fun i v hv => by obtain ⟨ra, a, b, e, hm⟩ := h.2 i v hv; exact ⟨ra, a, b, e, hs _ hm⟩⟩
theorem law_fin9 {as bs R0 R1 ms : List Int} (la : as.length = 4) (lb : bs.length = 4) (va : ∀ x ∈ as, 0 ≤ x ∧ x < 6) (vb : ∀ x ∈ bs, 0 ≤ x ∧ x < 6) (p0 : R0.Perm as) (p1 : R1.Perm bs)
    (hs : ms.Pairwise (· ≤ ·)) (hm : ms.Perm ((List.range 6).map fun j : Nat => cntI R0 j - cntI R1 j)) : leastV (tab4 as bs) [0, 1, 2, 3] = (ms.map fun c => if c - ms.getD 3 0 < 0 then -(c - ms.getD 3 0) else c - ms.getD 3 0).sum := by
  refine plain_law la lb va vb ?_ hs
  have e : ((List.range 6).map fun j : Nat => cntI R0 j - cntI R1 j) = [FI as bs 0, FI as bs 1, FI as bs 2, FI as bs 3, FI as bs 4, FI as bs 5] := by
    simp only [FI, ← cnt_perm p0, ← cnt_perm p1]
    rfl
  rw [← e]; exact hm
theorem lawAll (w : World) (mean : ExcName → Option Value) (mg mb : Str → Option Value) (dp un : Nat) (gd : Option (List Code)) (af : Addr) (ccd : Value) (outer : List Env) (A₀ : Around) (base h₀ : Heap) (L : Addr) (E : Value → Shared → Prop) (QF : Flow → Shared → Prop) (m : Str → Option Value) (l : Addr) (vs : List Value) (sc : List Int) (o1 o2 o3 o4 : Obj) (v1 v2 v3 v4 : Option Value) (hl : h₀.IsList l vs.toArray) (hi : IntsAre vs sc) (hlen : sc.length ≤ 63) (hm : m (Str.ofString "script") = some (.ref l))
    (d1 : o1.data = .cell v1) (d2 : o2.data = .cell v2) (d3 : o3.data = .cell v3) (d4 : o4.data = .cell v4) :
    LawAt w mean mg mb dp un gd af ccd outer A₀ base h₀ L E E QF 0 m [(L + 1 + 1 + 1 + 1, o4), (L + 1 + 1 + 1, o3), (L + 1 + 1, o2), (L + 1, o1)] := by
  refine law0 w mean mg mb dp un gd af ccd outer A₀ base h₀ L E QF m l vs sc o1 o2 o3 o4 v1 v2 v3 v4 hl hi hlen hm d1 ?_
  intro m0 nu ot nvs ovs ns os nN nO o1' nx w2 w4 w3 hm0 g4 g5 g6 d1' e2 e3 l2 l3
  have la : (ns.map fun x => x.fmod 6).length = 4 := by simpa using l2
  have lb : (os.map fun x => x.fmod 6).length = 4 := by simpa using l3
  refine law2 w mean mg mb dp un gd af ccd outer A₀ base h₀ L E QF m0 o2 o3 o4 nu nvs ns nN nx hm0 g4 e2 l2 w2 w4 w3 ?_
  intro on onvs nOn nx2 sub2 x2 x4 x3 gon tup1
  refine law3 w mean mg mb dp un gd af ccd outer A₀ base h₀ L E QF _ o1' o2 o3 o4 v2 ot ovs os nO nx2 (sub2 _ g6) d1' d2 (sub2 _ g5) e3 l3 x2 x4 x3 ?_
  intro tw twvs nW o2' nx3 sub3 y4 y3 gtw gc2 d2' tup2
  refine law4 w mean mg mb dp un gd af ccd outer A₀ base h₀ L E QF _ o2' o3 o4 on tw nu onvs twvs _ _ nOn nW nx3 (if_pos rfl) ((if_neg (by decide)).trans hm0) (sub3 _ gon) gtw gc2 d2' (tups_mono sub3 tup1) tup2 la lb y4 y3 ?_
  intro m4 r0 r1 rw rvs0 rvs1 R0 R1 n0 n1 nR nx4 sub4 z4 z3 hrows hones hnum grw g0 g1 e0 e1 s0 s1 p0 p1
  refine law6 w mean mg mb dp un gd af ccd outer A₀ base h₀ L E QF m4 o1' o2' o3 o4 on tw onvs twvs _ _ nOn nW nx4 hones (sub4 _ (sub3 _ gon)) (sub4 _ gtw) (sub4 _ gc2) d2' (tups_mono (fun p hp => sub4 _ (sub3 _ hp)) tup1) (tups_mono sub4 tup2) la lb fm_in fm_in z4 z3 ?_
  intro tb tvs nT nx5 sub5 q4 q3 gtb hT
  have up : ∀ p ∈ nx, p ∈ nx5 := fun p hp => sub5 _ (sub4 _ (sub3 _ (sub2 _ hp)))
  refine law7 w mean mg mb dp un gd af ccd outer A₀ base h₀ L E QF _ o1' o3 o4 tb nu ot tvs nvs ovs ns os nT nN nO nx5 (if_pos rfl) ((if_neg (by decide)).trans hnum) gtb hT (up _ g4) (up _ g5) (up _ g6) d1' e2 e3 l2 l3 ?_
  have hTr : ∀ r ∈ tab4 (ns.map fun x => x.fmod 6) (os.map fun x => x.fmod 6), r.length = 4 := by
    intro r hr
    obtain ⟨a, _, rfl⟩ := List.mem_map.mp hr
    rw [List.length_map]; exact lb
  exact law8 w mean mg mb dp un gd af ccd outer A₀ base h₀ L E QF _ o1' o2' o3 o4 v3 v4 tb r0 r1 rw nu ot tvs rvs0 rvs1 nvs ovs _ R0 R1 ns os nT n0 n1 nR nN nO nx5 (if_pos rfl) ((if_neg (by decide)).trans hrows) ((if_neg (by decide)).trans hnum) gtb hT (by rw [List.length_map]; exact la) hTr (sub5 _ grw) (sub5 _ g0) (sub5 _ g1) (up _ g4) (up _ g5) (up _ g6) d1' d3 d4 e0 e1 e2 e3 s0 s1 (by rw [p0.length_eq]; exact la) (by rw [p1.length_eq]; exact lb) l2 l3 (fun i => cnt_filt p0) (fun i => cnt_filt p1) q4 q3 (fun ms h1 h2 => law_fin9 la lb fm_in fm_in p0 p1 h1 h2)
end
end
end
end
section
theorem words_21 : True := by
  k_with_none
  trivial
theorem lawT : PySem.Challenge.rw_pg0171_01.Holds := hd (by
  k_go0
  refine' lawAll _ _ _ _ _ _ _ _ _ _ _ _ _ _ _ _ _ _ _ _ _ _ _ _ _ _ _ _ ?hl ?hi ?hlen ?hm ?d1 ?d2 ?d3 ?d4 _ ?B ?F ?K ?N ?T ?kd ?ku ?po ?ret
  case hl => assumption
  case hi => assumption
  case B => assumption
  case F => assumption
  case K => assumption
  case N => assumption
  case T => assumption
  case hm => exact rfl
  case d1 => assumption
  case d2 => assumption
  case d3 => assumption
  case d4 => assumption
  case kd => decide
  case ku => decide
  case hlen => omega
  case po => passes_own
  case ret =>
    rintro ⟨hX, gX, dX, tX, oX⟩ mX FX e1 e2 e3
    dsimp only at e1 e2 e3 FX
    subst e1; subst e2; subst e3
    k_end
    wrow_close)
end
end Mine
theorem PySem.Challenge.cw_pg0171_01_holds : PySem.Challenge.rw_pg0171_01.Holds :=
  Mine.lawT
