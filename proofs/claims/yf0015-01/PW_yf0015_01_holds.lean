import PyProof.Rows.All
import Wide.All
import OpenK.AllK
import Wide.FinOn
import Lean
import PySem.Challenge.RW_yf0015_01
set_option Elab.async false
section
open PySem PySem.W PyProof.Rows
open_top Mine.hd for PySem.Challenge.rw_yf0015_01
end
namespace Mine
section
open PySem PySem.W PyProof.Rows
theorem allLt_get {d : Addr} : ∀ {l : List (Addr × Obj)}, AllLt d l → ∀ p ∈ l, p.1 < d
  | [], _, _, h => nomatch h
  | _ :: _, x, p, h => by
    rcases List.mem_cons.mp h with rfl | h
    · exact x.1
    · exact allLt_get x.2 p h
theorem all_ne {c d : Addr} {l : List (Addr × Obj)} (h : AllLt d l) (hd : @LE.le Nat _ d c) : ∀ p ∈ l, p.1 ≠ c := fun p hp => Nat.ne_of_lt (Nat.lt_of_lt_of_le (allLt_get h p hp) hd)
theorem all_ne' {c d : Addr} {l : List (Addr × Obj)} (h : ∀ p ∈ l, p.1 < d) (hd : @LE.le Nat _ d c) : ∀ p ∈ l, p.1 ≠ c := fun p hp => Nat.ne_of_lt (Nat.lt_of_lt_of_le (h p hp) hd)
end
open PySem PySem.W PyProof.Rows
local macro_rules | `(tactic| k_room) => `(tactic| k_extra "k_room")
local macro_rules | `(tactic| k_all) => `(tactic| k_extra "k_all")
local macro_rules | `(tactic| walk_at $s:str) => `(tactic| k_extra $s)
section
open PySem PySem.W PyProof.Rows
set_option maxRecDepth 100000
set_option maxHeartbeats 8000000
/-- a text without the sign stays -/
theorem replace_none {x c r : Str} (h : (Builtin.Str.occurrences x c 0 x.length 1).isEmpty = true) : Txt.replace x c r = x := by
  have hn : ∀ i, i + c.length ≤ x.length → Builtin.Str.subAt x c i = false := by
    intro i hi
    cases hs : Builtin.Str.subAt x c i with
    | false => rfl
    | true =>
      have := (StrLaws.found_iff x c).mpr ⟨i, hi, hs⟩
      rw [h] at this; cases this
  unfold Txt.replace
  rw [occ_nil_of_no x c _ hn]
  rfl
section
variable {prog : Program} {w : World} {A : Around} {E : Value → Shared → Prop} {s : Shared} {env : Env} {h₀ : Heap} {L : Addr} {m : Str → Option Value} {news : List (Addr × Obj)}
theorem replaceT {x y z : Str} {t u v : Tok} {Q : Value → Shared → Prop} (hu : u ≠ 0) (hv : v ≠ 0) (huv : u ≠ v) (hyz : (y == z) = false) (hx : x.length ≤ 1000) (hz : z.length ≤ 14)
    (hq : ∀ t' k, s.toks ≤ k → Q (.str (Txt.replace x y z) t') { s with toks := k }) : wpAny (model prog w) A (call (.builtin "str.replace") [.str x t, .str y u, .str z v]) Q E s := by
  have hb : x.length + (x.length + 1) * z.length ≤ 16777216 := by
    have h1 : (x.length + 1) * z.length ≤ (x.length + 1) * 14 := Nat.mul_le_mul_left _ hz
    omega
  have hl : Builtin.Str.tooLong (x.length + (Builtin.Str.occurrences x y 0 x.length (x.length + 1)).length * z.length) = false := by
    have h1 := StrLaws.occ_length_le x y 0 x.length (x.length + 1)
    have h2 : (Builtin.Str.occurrences x y 0 x.length (x.length + 1)).length * z.length ≤ (x.length + 1) * z.length := Nat.mul_le_mul_right _ h1
    refine decide_eq_false ?_
    show ¬ _ > sizeLine
    rw [sizeLine_eq]
    omega
  refine call_gives F.slot_str_replace (typeIs_str _ _ _) F.entry_str_replace (F.args_str_replace_3 _ _ _) (gives_str_replace x y z t u v fun _ => ⟨by simp [hu, hv], by simp [huv], hyz, hl⟩) ?_
  unfold Txt.replace at hq
  split
  · rename_i hc
    have := hq t s.toks (Nat.le_refl _)
    rw [if_pos hc] at this
    exact this
  · rename_i hc
    refine ⟨fits_replaced y hb, ?_⟩
    have := hq s.toks (s.toks + 1) (Nat.le_succ _)
    rw [if_neg hc] at this
    exact this

theorem esc_if {x c r : Str} {t : Tok} {n1 n2 n3 : Nat} {p1 p2 p3 p4 p5 p6 p7 p8 p9 p10 p11 : Pos} {Q : Flow → Shared → Prop} (Fm : Fr h₀ env.locals s.heap m) (N : News h₀ env.locals s.heap news)
    (hx : m (Str.ofString "text") = some (.str x t)) (hk : env.scope.kind = .function) (hl : env.kindOf (Str.ofString "text") = some .local) (h0 : 0 < s.toks) (hcr : (c == r) = false) (hxl : x.length ≤ 1000) (hrl : r.length ≤ 14) {pl : Sem Bool}
    (he : eval (.Call (.Attribute (.Name (Str.ofString "text") p5) (Str.ofString "replace") p6) [.Constant (.str c) n2 p7, .Constant (.str r) n3 p8] [] p9) env = (do
      let ov ← eval (.Name (Str.ofString "text") p5) env
      standAt p6.atName
      let (f, first) ← holding [ov] (getMethod ov (Str.ofString "replace") pl)
      callWith p9 f first (backTo p9 (starEach [.Constant (.str c) n2 p7, .Constant (.str r) n3 p8] env)) []))
    (h : ∀ h' t' k, Fr h₀ env.locals h' (fun y => if y = Str.ofString "text" then some (.str (Txt.replace x c r) t') else m y) → News h₀ env.locals h' news → 0 < k → Q .next { s with heap := h', toks := k }) :
    wpAny (model prog w) A (exec (.If (.Compare (.Constant (.str c) n1 p1) [.In] [.Name (Str.ofString "text") p2] p3) [.Assign [.Name (Str.ofString "text") p4] (.Call (.Attribute (.Name (Str.ofString "text") p5) (Str.ofString "replace") p6) [.Constant (.str c) n2 p7, .Constant (.str r) n3 p8] [] p9) p10] [] p11) env) Q E s := by
  have hd : ((Str.ofString "text") == ("__debug__" : Str)) = false := by decide
  refine wpAny_If (wpAny_isTrue_Compare1 ?_ rfl)
  refine Calls.Constant_str ?_
  refine wpAny_Name (wpAny_loadName_local hk hl Fm.ns hx ?_) hd
  refine PyProof.Rows.in_str ?_
  refine wpAny_truthy_bool ?_
  cases ho : (Builtin.Str.occurrences x c 0 x.length 1).isEmpty with
  | true =>
    simp only [Bool.not_true, Bool.false_eq_true, if_false]
    refine wpAny_execs_nil ?_
    have e : m = fun y => if y = Str.ofString "text" then some (.str (Txt.replace x c r) t) else m y := by
      funext y
      split
      · rename_i q; rw [q, replace_none ho]; exact hx
      · rfl
    rw [e] at Fm
    exact h s.heap t _ Fm N (Nat.lt_succ_of_lt h0)
  | false =>
    simp only [Bool.not_false, if_true]
    refine wpAny_execs_cons (wpAny_Assign_Name ?_)
    refine MethodCall_ (pl := pl) ?_ he
    refine wpAny_Name (wpAny_loadName_local hk hl Fm.ns hx ?_) hd
    refine GM.replace ?_
    refine callWith_method1 ?_
    refine spliced_more ?_
    refine Calls.Constant_str ?_
    refine spliced_more ?_
    refine Calls.Constant_str ?_
    refine spliced_none ?_
    refine replaceT (by show @Ne Nat _ 0; dsimp only; omega) (by show @Ne Nat _ 0; dsimp only; omega) (by show @Ne Nat _ _; dsimp only; omega) hcr hxl hrl ?_
    intro t' k hk'
    dsimp only at hk'
    refine wpAny_storeName_local hl Fm.ns (fun h' hn hs => ?_) (by rw [hk]; rfl)
    refine wpAny_execs_nil ?_
    exact h h' t' (k + 1) (Fm.set hn hs) (N.set hs) (by omega)
end
end
section
open PySem PySem.W PyProof.Rows
set_option maxRecDepth 100000
set_option maxHeartbeats 8000000
def sgn : Str := Str.ofString "&<>\"\r\n\t@"
def textOf (n : Int) : Str := Txt.slice (Txt.item sgn ((n.fdiv 9).fmod 8) ++ Txt.item sgn ((n.fdiv 72).fmod 8)) none (some ((n.fdiv 3).fmod 3))
def texts : List Str := Str.ofString "" :: (sgn.cps.toList.map fun c => (⟨#[c]⟩ : Str)) ++ sgn.cps.toList.flatMap fun c => sgn.cps.toList.map fun d => (⟨#[c, d]⟩ : Str)
def rep (x : Str) (c r : String) : Str := Txt.replace x (Str.ofString c) (Str.ofString r)
def eH1 (x : Str) : Str := rep x "&" "&amp;"
def eH2 (x : Str) : Str := rep (eH1 x) ">" "&gt;"
def eH3 (x : Str) : Str := rep (eH2 x) "\"" "&quot;"
def eC2 (x : Str) : Str := rep (eH1 x) "<" "&lt;"
def eC3 (x : Str) : Str := rep (eC2 x) ">" "&gt;"
def eC4 (x : Str) : Str := rep (eC3 x) "\r" "&#xD;"
def eA3 (x : Str) : Str := rep (eC2 x) "\"" "&quot;"
def eA4 (x : Str) : Str := rep (eA3 x) "\t" "&#x9;"
def eA5 (x : Str) : Str := rep (eA4 x) "\n" "&#xA;"
def eA6 (x : Str) : Str := rep (eA5 x) "\r" "&#xD;"
theorem textOf_mem : ∀ n : Nat, n < 576 → textOf n ∈ texts := by
  have h : ((List.range 576).all fun n => texts.contains (textOf n)) = true := by decide +kernel
  intro n hn
  have := List.all_eq_true.mp h n (List.mem_range.mpr hn)
  exact List.contains_iff_mem.mp this
theorem text_fits {x : Str} (hx : x ∈ texts) : x.length ≤ 1000 ∧ (eH1 x).length ≤ 1000 ∧ (eH2 x).length ≤ 1000 ∧ (eC2 x).length ≤ 1000 ∧ (eC3 x).length ≤ 1000 ∧ (eA3 x).length ≤ 1000 ∧ (eA4 x).length ≤ 1000 ∧ (eA5 x).length ≤ 1000 := by
  have h : (texts.all fun x => decide (x.length ≤ 1000 ∧ (eH1 x).length ≤ 1000 ∧ (eH2 x).length ≤ 1000 ∧ (eC2 x).length ≤ 1000 ∧ (eC3 x).length ≤ 1000 ∧ (eA3 x).length ≤ 1000 ∧ (eA4 x).length ≤ 1000 ∧ (eA5 x).length ≤ 1000)) = true := by decide +kernel
  exact of_decide_eq_true (List.all_eq_true.mp h x hx)
section
variable {w : World} {mg mb : Str → Option Value} {mean : ExcName → Option Value} {dp un : Nat} {gd : Option (List Code)} {cn : Str} {cs : Scope} {a : Addr} {ccd : Value} {cl : List (Str × Addr)} {outer : List Env} {A₀ : Around} {base h₀ : Heap} {L : Addr} {m : Str → Option Value} {news : List (Addr × Obj)} {s : Shared} {Q E : Value → Shared → Prop}

theorem esc_html (B : Below A₀ base outer h₀) (F : Fr h₀ L s.heap m) (X : (hd.heap_39 w.params).In h₀) (N : News h₀ L s.heap news) (T : Top hd.view_39 (looseW hd.view_39 [Str.ofString "length_hint"]) mean mg mb h₀) (hk : cs.kind = .function) (hdp : dp + 1 < recursionLimit)
  {x : Str} {t : Tok} (hx : x ∈ texts) (hret : ∀ t' h' tk', Fr h₀ L h' m → News h₀ L h' news → Q (.str (eH3 x) t') { s with heap := h', toks := tk' }) :
  wpAny (model PySem.Challenge.rw_yf0015_01.row.prog w) (ktrTop dp un gd cn cs L a ccd cl outer) (call (.ref 85) [.str x t]) Q E s := by
  w_top off
  k_with_none
  (k_with "k_room" => ((simp only [depth_under_make, depth_under_kw, depth_in1, depth_deeper, depth_caller, ktrTop, recursionLimit] at *; omega)))
  (k_with "k_all" => (first | assumption | exact all_ne (by assumption) (Nat.le_refl _) | (refine all_ne' (by with_reducible assumption) ?_; omega) | (refine all_ne (by with_reducible assumption) ?_; omega)))
  revert X; k_fill; intro X
  obtain ⟨b0, b1, b2, b3, b4, b5, b6, b7⟩ := text_fits hx
  refine wpAny_call ?_
  k_dflt (refine' code_def ?k1 ?k2 ?k3 ?k4 ?k5 ?kA ?kF ?kK ?k6 ?k7 ?k8 ?k9 ?kB ?_ ?c2 ?c3 ?c4 ?c5; (case kA => exact rfl); (case kF => exact rfl); (case kK => assumption); (case k1 => k_asm); (case k2 => k_asm); (case k3 => k_asm); (case k4 => k_asm); (case k5 => k_asm); (case k6 => k_is); (case k7 => k_is); (case k8 => k_room); (case k9 => first | exact BindsTo.of_eq rfl | (refine' kp_binds ?kx ?ke; (case kx => k_in); (case ke => exact fun _ => rfl))); (case c5 => decide); (case kB => exact locs rfl); (case c2 => exact rfl); (case c3 => exact rfl); (case c4 => exact rfl); k_whole; intro g' L' h' FG' F' N' B' X' T'; (try dsimp only); (try k_lift B'); (try k_fold))
  rename Fr _ _ _ _ => F1
  rename News _ _ _ _ => N1
  refine wpAny_execs_cons (wpAny_Try_except ?_)
  refine wpAny_execs_cons (esc_if F1 N1 rfl rfl rfl (Nat.lt_succ_of_le (Nat.zero_le _)) (by decide) b0 (by decide) rfl ?_)
  intro h2 t2 k2 F2 N2 l2
  refine wpAny_execs_cons (esc_if F2 N2 rfl rfl rfl l2 (by decide) b1 (by decide) rfl ?_)
  intro h3 t3 k3 F3 N3 l3
  refine wpAny_execs_cons (esc_if F3 N3 rfl rfl rfl l3 (by decide) b2 (by decide) rfl ?_)
  intro h4 t4 k4 F4 N4 l4
  refine wpAny_execs_cons (wpAny_Return_some (ld F4 rfl ?_))
  exact leaveK_ F4 N4 fun kF kN => hret _ _ _ kF kN
theorem esc_cdata (B : Below A₀ base outer h₀) (F : Fr h₀ L s.heap m) (X : (hd.heap_39 w.params).In h₀) (N : News h₀ L s.heap news) (T : Top hd.view_39 (looseW hd.view_39 [Str.ofString "length_hint"]) mean mg mb h₀) (hk : cs.kind = .function) (hdp : dp + 1 < recursionLimit)
  {x : Str} {t : Tok} (hx : x ∈ texts) (hret : ∀ t' h' tk', Fr h₀ L h' m → News h₀ L h' news → Q (.str (eC4 x) t') { s with heap := h', toks := tk' }) :
  wpAny (model PySem.Challenge.rw_yf0015_01.row.prog w) (ktrTop dp un gd cn cs L a ccd cl outer) (call (.ref 92) [.str x t]) Q E s := by
  revert X; k_fill; intro X
  obtain ⟨b0, b1, b2, b3, b4, b5, b6, b7⟩ := text_fits hx
  refine wpAny_call ?_
  k_dflt (refine' code_def ?k1 ?k2 ?k3 ?k4 ?k5 ?kA ?kF ?kK ?k6 ?k7 ?k8 ?k9 ?kB ?_ ?c2 ?c3 ?c4 ?c5; (case kA => exact rfl); (case kF => exact rfl); (case kK => assumption); (case k1 => k_asm); (case k2 => k_asm); (case k3 => k_asm); (case k4 => k_asm); (case k5 => k_asm); (case k6 => k_is); (case k7 => k_is); (case k8 => k_room); (case k9 => first | exact BindsTo.of_eq rfl | (refine' kp_binds ?kx ?ke; (case kx => k_in); (case ke => exact fun _ => rfl))); (case c5 => decide); (case kB => exact locs rfl); (case c2 => exact rfl); (case c3 => exact rfl); (case c4 => exact rfl); k_whole; intro g' L' h' FG' F' N' B' X' T'; (try dsimp only); (try k_lift B'); (try k_fold))
  rename Fr _ _ _ _ => F1
  rename News _ _ _ _ => N1
  refine wpAny_execs_cons (wpAny_Try_except ?_)
  refine wpAny_execs_cons (esc_if F1 N1 rfl rfl rfl (Nat.lt_succ_of_le (Nat.zero_le _)) (by decide) b0 (by decide) rfl ?_)
  intro h2 t2 k2 F2 N2 l2
  refine wpAny_execs_cons (esc_if F2 N2 rfl rfl rfl l2 (by decide) b1 (by decide) rfl ?_)
  intro h3 t3 k3 F3 N3 l3
  refine wpAny_execs_cons (esc_if F3 N3 rfl rfl rfl l3 (by decide) b3 (by decide) rfl ?_)
  intro h4 t4 k4 F4 N4 l4
  refine wpAny_execs_cons (esc_if F4 N4 rfl rfl rfl l4 (by decide) b4 (by decide) rfl ?_)
  intro h5 t5 k5 F5 N5 l5
  refine wpAny_execs_cons (wpAny_Return_some (ld F5 rfl ?_))
  exact leaveK_ F5 N5 fun kF kN => hret _ _ _ kF kN
theorem esc_attrib (B : Below A₀ base outer h₀) (F : Fr h₀ L s.heap m) (X : (hd.heap_39 w.params).In h₀) (N : News h₀ L s.heap news) (T : Top hd.view_39 (looseW hd.view_39 [Str.ofString "length_hint"]) mean mg mb h₀) (hk : cs.kind = .function) (hdp : dp + 1 < recursionLimit)
  {x : Str} {t : Tok} (hx : x ∈ texts) (hret : ∀ t' h' tk', Fr h₀ L h' m → News h₀ L h' news → Q (.str (eA6 x) t') { s with heap := h', toks := tk' }) :
  wpAny (model PySem.Challenge.rw_yf0015_01.row.prog w) (ktrTop dp un gd cn cs L a ccd cl outer) (call (.ref 99) [.str x t]) Q E s := by
  revert X; k_fill; intro X
  obtain ⟨b0, b1, b2, b3, b4, b5, b6, b7⟩ := text_fits hx
  refine wpAny_call ?_
  k_dflt (refine' code_def ?k1 ?k2 ?k3 ?k4 ?k5 ?kA ?kF ?kK ?k6 ?k7 ?k8 ?k9 ?kB ?_ ?c2 ?c3 ?c4 ?c5; (case kA => exact rfl); (case kF => exact rfl); (case kK => assumption); (case k1 => k_asm); (case k2 => k_asm); (case k3 => k_asm); (case k4 => k_asm); (case k5 => k_asm); (case k6 => k_is); (case k7 => k_is); (case k8 => k_room); (case k9 => first | exact BindsTo.of_eq rfl | (refine' kp_binds ?kx ?ke; (case kx => k_in); (case ke => exact fun _ => rfl))); (case c5 => decide); (case kB => exact locs rfl); (case c2 => exact rfl); (case c3 => exact rfl); (case c4 => exact rfl); k_whole; intro g' L' h' FG' F' N' B' X' T'; (try dsimp only); (try k_lift B'); (try k_fold))
  rename Fr _ _ _ _ => F1
  rename News _ _ _ _ => N1
  refine wpAny_execs_cons (wpAny_Try_except ?_)
  refine wpAny_execs_cons (esc_if F1 N1 rfl rfl rfl (Nat.lt_succ_of_le (Nat.zero_le _)) (by decide) b0 (by decide) rfl ?_)
  intro h2 t2 k2 F2 N2 l2
  refine wpAny_execs_cons (esc_if F2 N2 rfl rfl rfl l2 (by decide) b1 (by decide) rfl ?_)
  intro h3 t3 k3 F3 N3 l3
  refine wpAny_execs_cons (esc_if F3 N3 rfl rfl rfl l3 (by decide) b3 (by decide) rfl ?_)
  intro h4 t4 k4 F4 N4 l4
  refine wpAny_execs_cons (esc_if F4 N4 rfl rfl rfl l4 (by decide) b5 (by decide) rfl ?_)
  intro h5 t5 k5 F5 N5 l5
  refine wpAny_execs_cons (esc_if F5 N5 rfl rfl rfl l5 (by decide) b6 (by decide) rfl ?_)
  intro h6 t6 k6 F6 N6 l6
  refine wpAny_execs_cons (esc_if F6 N6 rfl rfl rfl l6 (by decide) b7 (by decide) rfl ?_)
  intro h7 t7 k7 F7 N7 l7
  refine wpAny_execs_cons (wpAny_Return_some (ld F7 rfl ?_))
  exact leaveK_ F7 N7 fun kF kN => hret _ _ _ kF kN
end
end
section
open PySem PySem.W PyProof.Rows
set_option maxRecDepth 100000
set_option maxHeartbeats 8000000
section
variable {prog : Program} {w : World} {A : Around} {E : Value → Shared → Prop} {s : Shared} {env : Env} {h₀ : Heap} {L : Addr} {m : Str → Option Value} {news : List (Addr × Obj)}
theorem keywordsIn_nil {f : Value} {d : Addr} {n : Nat} {Q : List (Str × Value) → Shared → Prop} (hd : s.heap.get? d = some (dictOf [] n)) (h : Q [] s) : wpAny (model prog w) A (keywordsIn f d) Q E s := by
  unfold keywordsIn
  refine wpAny_bind (wpAny_dictEntries hd rfl ?_)
  exact wpAny_bind (wpAny_pure (wpAny_pure h))
theorem merge_nil {d a : Addr} {n k : Nat} {Q : Unit → Shared → Prop} (hd : s.heap.get? d = some (dictOf [] n)) {oa : Obj} (ha : s.heap.get? a = some oa) (hca : oa.cls = .type "dict") (hda : oa.data = .dict #[] k) (hsys : (a == sysModules) = false) (h : Q () s) : wpAny (model prog w) A (mergeMapping d (.ref a) true) Q E s := by
  have hT : s.TypeIs (.ref a) "dict" := ⟨_, ha, hca⟩
  unfold mergeMapping
  refine wpAny_bind (wpAny_isInstance (T := "dict") (b := true) hT (by rw [isSubtype_type]; kernel_rfl) ?_)
  simp only [if_true]
  refine wpAny_bind (wpAny_specialOf hT F.slot_dict_iter.lookup ?_)
  have e1 : (some (Value.builtin "dict.__iter__") == some (Value.builtin "dict.__iter__")) = true := by decide
  refine wpAny_bind (wpAny_pure ?_)
  rw [e1]
  show wpAny _ _ (if (a == sysModules) = true then _ else _) _ _ s
  rw [hsys, if_neg Bool.false_ne_true]
  refine wpAny_bind (wpAny_dictEntries hd rfl ?_)
  show wpAny _ _ (if (List.toArray ([] : List DictEntry)).isEmpty = true then _ else _) _ _ s
  have e2 : (List.toArray ([] : List DictEntry)).isEmpty = true := rfl
  rw [if_pos e2]
  refine wpAny_bind (wpAny_dictEntries ha hda ?_)
  refine wpAny_bind (wpAny_pure ?_)
  refine wpAny_bind (wpAny_dictEntries ha hda ?_)
  refine wpAny_bind (wpAny_dictEpoch ha hda ?_)
  exact wpAny_bind (wpAny_pure (wpAny_pure h))
theorem mergedKw_nil {f : Value} {a : Addr} {k : Nat} {x : Sem Value} {Q : Addr → Shared → Prop} (hsys : (a == sysModules) = false) (F : Fr h₀ L s.heap m) (N : News h₀ L s.heap news) {oa : Obj} (ha : (a, oa) ∈ news) (hca : oa.cls = .type "dict") (hda : oa.data = .dict #[] k)
    (hx : ∀ (s' : Shared) (Q' : Value → Shared → Prop), (∃ h', s' = { s with heap := h' } ∧ Fr h₀ L h' m ∧ News h₀ L h' news) → Q' (.ref a) s' → wpAny (model prog w) A x Q' E s')
    (h : ∀ d h', Fr h₀ L h' m → News h₀ L h' ((d, dictOf [] 0) :: news) → Q d { s with heap := h' }) : wpAny (model prog w) A (mergedKeywords f [(none, x)]) Q E s := by
  unfold mergedKeywords
  refine wpAny_bind (wpAny_alloc ?_)
  have F1 : Fr h₀ L (s.heap.push { cls := .type "dict", data := .dict #[] }) m := F.push _
  have N1 := N.push F { cls := .type "dict", data := .dict #[] }
  refine wpAny_bind (wpAny_holding ?_)
  refine wpAny_bind ?_
  rw [List.forIn_cons]
  refine wpAny_bind ?_
  refine wpAny_bind (wpAny_of_eq (a := ()) rfl ?_)
  refine wpAny_bind (hx _ _ ⟨_, rfl, F1, fun p hp => N1 p (.tail _ hp)⟩ ?_)
  refine wpAny_bind (wpAny_onRaise ?_)
  refine wpAny_holding (wpAny_tryCatch (wpAny_onRaise ?_))
  refine merge_nil (n := 0) (k := k) (Heap.get?_push_size _ rfl) (Heap.get?_push_of_some _ (N _ ha).1) hca hda hsys ?_
  refine wpAny_pure ?_
  dsimp only
  rw [List.forIn_nil]
  refine wpAny_pure ?_
  refine wpAny_of_eq (a := ()) rfl ?_
  exact wpAny_pure (h _ _ F1 N1)
theorem evalArgs_star {f : Value} {a : Addr} {k : Nat} {v : Value} {vs : List Value} {x y : Sem Value} {Q : Args → Shared → Prop} (hsys : (a == sysModules) = false) (F : Fr h₀ L s.heap m) (N : News h₀ L s.heap news) {oa : Obj} (ha : (a, oa) ∈ news) (hca : oa.cls = .type "dict") (hda : oa.data = .dict #[] k)
    (hy : ∀ Q', Q' v s → wpAny (model prog w) A y Q' E s)
    (hx : ∀ (s' : Shared) (Q' : Value → Shared → Prop), (∃ h', s' = { s with heap := h' } ∧ Fr h₀ L h' m ∧ News h₀ L h' news) → Q' (.ref a) s' → wpAny (model prog w) A x Q' E s')
    (hc : ∀ (d : Addr) (h' : Heap) (Q' : List Value → Shared → Prop), Fr h₀ L h' m → News h₀ L h' ((d, dictOf [] 0) :: news) → (∀ h'', Fr h₀ L h'' m → News h₀ L h'' ((d, dictOf [] 0) :: news) → Q' vs { s with heap := h'' }) → StarOf (model prog w) A E v Q' { s with heap := h' })
    (h : ∀ h', Fr h₀ L h' m → News h₀ L h' news → Q ⟨vs, []⟩ { s with heap := h' }) : wpAny (model prog w) A (evalArgs f true [(true, y)] [(none, x)]) Q E s := by
  unfold evalArgs
  refine wpAny_bind (hy _ ?_)
  first | refine wpAny_holding ?_ | (refine wpAny_bind (wpAny_pure ?_); refine wpAny_holding ?_) | (refine wpAny_pure ?_; refine wpAny_holding ?_)
  show wpAny _ A (do
    let d ← mergedKeywords f [(none, x)]
    let pos ← (do
      if ← notIterableAtAll v then
        rule "call.star.not-iterable"
        raiseError "TypeError" s!"{← functionStr f} argument after * must be an iterable, not {← typeNameOf v}"
      holding [.ref d] (collect v))
    return ⟨pos, ← holding (.ref d :: pos) (keywordsIn f d)⟩) Q E s
  refine wpAny_bind (mergedKw_nil hsys F N ha hca hda hx ?_)
  intro d h' F' N'
  have z := hc d h' (fun vs' s' => wpAny (model prog w) A (do return (⟨vs', ← holding (.ref d :: vs') (keywordsIn f d)⟩ : Args)) Q E s') F' N' ?_
  · unfold StarOf at z
    refine wpAny_bind (wpAny_bind (wpAny_mono z (fun b s₂ h₂ => ?_) fun _ _ e => e))
    obtain ⟨rfl, h₂⟩ := h₂
    show wpAny _ A (if false = true then _ else _) _ _ _
    rw [if_neg Bool.false_ne_true]
    exact wpAny_holding (wpAny_mono h₂ (fun _ _ e => e) fun _ _ e => e)
  · intro h'' F'' N''
    refine wpAny_bind (wpAny_holding (keywordsIn_nil (N'' _ (.head _)).1 ?_))
    exact wpAny_pure (h _ F'' fun p hp => N'' p (.tail _ hp))
theorem callWith_starK {f : Value} {first : List Value} {pos : Pos} {args : List (Bool × Sem Value)} {kws : List (Option Str × Sem Value)} {Q : Value → Shared → Prop} {P : Heap → Prop} (hst : (args.any (·.1) || kws.any (·.1.isNone)) = true)
    (hk : ∀ h, P h → Looks (model prog w) h (keeperOf f) .frame)
    (h : wpAny (model prog w) A (evalArgs f true args kws) (fun a s₁ => P s₁.heap ∧ wpAny (model prog w) A (call f (first ++ a.pos) a.kw) Q E s₁) E s) : wpAny (model prog w) A (callWith pos f first args kws) Q E s := by
  unfold callWith
  refine wpAny_bind (wpAny_holding (wpAny_mono h (fun a s₁ h₁ => wpAny_bind (wpAny_standAt ?_)) fun _ _ x => x))
  refine wpAny_bind ((hk _ h₁.1).here ?_)
  rw [hst]
  refine wpAny_bind (wpAny_mono (Q := Q) ?_ (fun r s₂ hr => wpAny_bind (wpAny_holding (wpAny_point (wpAny_pure hr)))) fun _ _ x => x)
  show wpAny _ A (callMarked starredCall f (first ++ a.pos) a.kw) Q E s₁
  unfold callMarked
  exact Calls.wpAny_keep h₁.2
end
end
section
open PySem PySem.W PyProof.Rows
set_option maxRecDepth 100000
set_option maxHeartbeats 8000000
def EscOk (w : World) (mg mb : Str → Option Value) (mean : ExcName → Option Value) (f : Addr) (x : Str) (t : Tok) (y : Str) : Prop :=
  ∀ (dp un : Nat) (gd : Option (List Code)) (cn : Str) (cs : Scope) (a : Addr) (ccd : Value) (cl : List (Str × Addr)) (outer : List Env) (A₀ : Around) (base h₀ : Heap) (L : Addr) (m : Str → Option Value) (news : List (Addr × Obj)) (s : Shared) (Q E : Value → Shared → Prop),
    Below A₀ base outer h₀ → Fr h₀ L s.heap m → (hd.heap_39 w.params).In h₀ → News h₀ L s.heap news → Top hd.view_39 (looseW hd.view_39 [Str.ofString "length_hint"]) mean mg mb h₀ → cs.kind = .function → dp + 1 < recursionLimit →
    (∀ t' h' tk', Fr h₀ L h' m → News h₀ L h' news → Q (.str y t') { s with heap := h', toks := tk' }) →
    wpAny (model PySem.Challenge.rw_yf0015_01.row.prog w) (ktrTop dp un gd cn cs L a ccd cl outer) (call (.ref f) [.str x t]) Q E s
section
variable {w : World} {mg mb : Str → Option Value} {mean : ExcName → Option Value} {dp un : Nat} {gd : Option (List Code)} {cn : Str} {cs : Scope} {a : Addr} {ccd : Value} {cl : List (Str × Addr)} {outer : List Env} {A₀ : Around} {base h₀ : Heap} {L : Addr} {m : Str → Option Value} {news : List (Addr × Obj)} {s : Shared} {Q E : Value → Shared → Prop}
theorem escOk_html {x : Str} {t : Tok} (hx : x ∈ texts) : EscOk w mg mb mean 85 x t (eH3 x) := fun _ _ _ _ _ _ _ _ _ _ _ _ _ _ _ _ _ _ B F X N T hk hdp hret => esc_html B F X N T hk hdp hx hret
theorem escOk_cdata {x : Str} {t : Tok} (hx : x ∈ texts) : EscOk w mg mb mean 92 x t (eC4 x) := fun _ _ _ _ _ _ _ _ _ _ _ _ _ _ _ _ _ _ B F X N T hk hdp hret => esc_cdata B F X N T hk hdp hx hret
theorem escOk_attrib {x : Str} {t : Tok} (hx : x ∈ texts) : EscOk w mg mb mean 99 x t (eA6 x) := fun _ _ _ _ _ _ _ _ _ _ _ _ _ _ _ _ _ _ B F X N T hk hdp hret => esc_attrib B F X N T hk hdp hx hret

theorem call_spec (B : Below A₀ base outer h₀) (F : Fr h₀ L s.heap m) (X : (hd.heap_39 w.params).In h₀) (N : News h₀ L s.heap news) (T : Top hd.view_39 (looseW hd.view_39 [Str.ofString "length_hint"]) mean mg mb h₀) (hk : cs.kind = .function) (hdp : dp + 2 < recursionLimit)
  {f : Addr} {x : Str} {t : Tok} {y : Str} (hf : ∃ oc od fd sl, (hd.heap_39 w.params).lookup f = some ⟨oc, od, .func fd, sl⟩) (he : EscOk w mg mb mean f x t y)
  (hret : ∀ t' tl h' tk', Fr h₀ L h' m → News h₀ L h' (tl ++ news) → (∀ q ∈ news, ∀ p ∈ tl, q.1 < p.1) → Q (.str y t') { s with heap := h', toks := tk' }) :
  wpAny (model PySem.Challenge.rw_yf0015_01.row.prog w) (ktrTop dp un gd cn cs L a ccd cl outer) (call (.ref 43) [.ref f, .str x t]) Q E s := by
  w_top off
  k_with_none
  (k_with "k_room" => ((simp only [depth_under_make, depth_under_kw, depth_in1, depth_deeper, depth_caller, ktrTop, recursionLimit] at *; omega)))
  (k_with "k_all" => (first | assumption | exact all_ne (by assumption) (Nat.le_refl _) | (refine all_ne' (by with_reducible assumption) ?_; omega) | (refine all_ne (by with_reducible assumption) ?_; omega)))
  revert X; k_fill; intro X
  refine wpAny_call ?_
  k_dflt (refine' kp_both ?k1 ?k2 ?k3 ?k4 ?k5 ?kA ?kF ?kK ?k6 ?k7 ?k8 ?kV ?kX ?kQ ?kM ?kN ?kD ?kR ?kP ?kS ?kT ?kB ?_ ?c2 ?c3 ?c4 ?c5; (case kA => exact rfl); (case kF => exact rfl); (case kK => assumption); (case k1 => k_asm); (case k2 => k_asm); (case k3 => k_asm); (case k4 => k_asm); (case k5 => k_asm); (case k6 => k_is); (case k7 => k_is); (case k8 => k_room); (case kV => kp_lit); (case kX => kp_lit); (case kQ => exact rfl); (case kM => exact rfl); (case kN => exact rfl); (case kD => kp_flats); (case kR => exact rfl); (case kP => exact rfl); (case kS => exact fun _ => rfl); (case kT => exact fun _ _ => rfl); (case kB => exact fun _ _ => locs rfl); (case c5 => decide); (case c2 => exact rfl); (case c3 => exact rfl); (case c4 => exact rfl); k_whole; intro C9 D9 o9 g9 L9 h9 tk9 l9 m9 lo9 hs9 fs9 FG9 F' N' B9 X9 T9; (try k_lt l9); (try k_lt2 m9); (try dsimp only); (try k_lift B9); (try k_fold))
  rename Fr _ _ _ _ => F1
  rename News _ _ _ _ => N1
  obtain ⟨es, ep, hex, hdo, hks, hp, _⟩ := (by assumption : Obj.IsDictOf _ _ _)
  have hes : es = #[] := by
    have : es.toList = [] := by cases hp' : es.toList with
      | nil => rfl
      | cons e r => rw [hp'] at hp; cases hp
    exact Array.toList_eq_nil_iff.mp this
  subst hes
  k_steps
  obtain ⟨oc, od, fd, sl, hfl⟩ := hf
  rename Below _ _ _ _ => B1
  rename Frag.In _ _ => X1
  rename Top _ _ _ _ _ _ => T1
  refine callWith_starK (P := fun h => (hd.heap_39 w.params).In h) rfl (fun h hK => ?kk) ?_
  case kk =>
    have hg : h.get? f = some _ := (show (hd.heap_39 w.params).In h from hK) f _ hfl
    exact (Looks.ld (part := none) hg).andThen .now
  refine evalArgs_star (by assumption) F1 N1 (.head _) hex.1 hdo (v := .ref C9) (vs := [.str x t]) ?hy ?hx ?hc ?hh
  case hy =>
    intro Q' hQ'
    refine wpAny_bind (ld F1 rfl ?_)
    exact wpAny_bind (wpAny_standAt (wpAny_pure hQ'))
  case hx =>
    rintro s' Q' ⟨h', rfl, F2, N2⟩ hQ'
    refine wpAny_bind (ld F2 rfl ?_)
    exact wpAny_bind (wpAny_standAt (wpAny_pure hQ'))
  case hc =>
    intro d h' Q' F2 N2 hQ'
    refine star_seq F2 N2 (.tail _ (.tail _ (.head _))) rfl rfl (.inr rfl) rfl (Nat.le_of_ble_eq_true rfl) ?_
    intro h2 F3 N3
    exact hQ' h2 F3 N3
  case hh =>
    intro h2 F2 N2
    refine ⟨X1.keeps F2.keep, ?_⟩
    refine he _ _ _ _ _ _ _ _ _ _ _ _ _ _ _ _ _ _ B1 F2 X1 N2 T1 rfl hdp ?_
    intro t' h' tk' F3 N3
    refine leaveK_ F3 N3 fun kF kN => ?_
    refine hret t' [_, _] h' tk' kF kN fun q hq p hp => ?_
    rcases List.mem_cons.mp hp with rfl | hp
    · exact Nat.lt_trans (l9 q hq) m9
    · rw [List.mem_singleton.mp hp]
      exact l9 q hq
end
end
section
open PySem PySem.W PyProof.Rows
set_option maxRecDepth 100000
set_option maxHeartbeats 8000000
def Stop (P : Prop) : Prop := P
/-- a fact that arithmetic is not to see -/
def Hide (P : Prop) : Prop := P
theorem Hide.mk {P : Prop} (h : P) : Hide P := h
theorem Hide.out {P : Prop} (h : Hide P) : P := h
/-- a mark in the context: subscripts are taken by the walk -/
def AutoSub : Prop := True
theorem Stop.mk {P : Prop} (h : Stop P) : P := h
section
open LCg
variable {prog : Program} {w : World} {A : Around} {E : Value → Shared → Prop} {s : Shared} {h₀ : Heap} {L : Addr} {m : Str → Option Value} {env : Env} {news : List (Addr × Obj)}
theorem ListComp_str {elt iter : Expr} {x : Str} {px : Pos} {scope : Scope} {cl : List (Str × Addr)} {pos : Pos} {Q : Value → Shared → Prop} {txt : Str} (hh : A.handled = none) (F : Fr h₀ L s.heap m) (N : News h₀ L s.heap news)
    (hclos : closureFor scope env = pure cl) (hcell : ∀ y ∈ scope.names, y.2 ≠ .cell) (hkind : scope.kind = .function)
    (hnames : ∀ y ∈ scope.names, y.2 = .local → scope.names.lookup y.1 = some .local) (hx : scope.names.lookup x = some .local)
    (ha : txt.cps.all (· < 128) = true) (hsz : txt.cps.size ≤ sizeLine) (hit : ∀ Q' : Value → Shared → Prop, (∀ t, Q' (.str txt t) s) → wpAny (model prog w) A (eval iter env) Q' E s)
    (R : ∀ g, CompRest prog w A h₀ L m env elt x scope cl { s with heap := g } (fun _ => True) (SignAt txt) (FinE h₀ L m { s with heap := g } Q) txt.cps.size 0 [] news)
    (hs : ∀ x, foldedSetIterable iter env x = pure x := by intro _; rfl) :
    wpAny (model prog w) A (eval (.ListComp elt [⟨.Name x px, iter, [], 0⟩] scope pos) env) Q E s := by
  rw [eval_ListComp]
  refine wpAny_comprehension_free (use := none) rfl hs hclos hkind hnames (hit _ ?_)
  intro t
  refine wpAny_pyIter_ascii ha ?_
  have up : ∀ b o, s.heap.get? b = some o → (s.heap.push { cls := .type "str_ascii_iterator", data := .fields #[.str txt t, .int 0 0] }).get? b = some o := fun b o e => Heap.get?_push_of_some _ e
  refine block_U (S := fun _ => True) (Walks.strAscii hh s.heap.objs.size txt t) hsz (fun i h st => by obtain ⟨o, e, _⟩ := st; exact ⟨o, e⟩) (fun i h h' o nw st e e' _ _ _ => ?_) hcell hkind hx ⟨_, Heap.get?_push_size _ rfl, rfl, rfl⟩ (fun b hb => ?_)
    (F.keeps up) (N.grown up) (Nat.ne_of_lt F.ns.lt) (next_is_new F) (fun p hp => Nat.ne_of_lt (Heap.lt_size (N p hp).1)) trivial (R _) ?_
  · obtain ⟨o', q, r⟩ := st
    rw [e] at q; cases q
    exact ⟨o, e', r⟩
  · rw [List.mem_singleton.mp hb]
    show s.heap.objs.size < (s.heap.push _).objs.size
    rw [Heap.size_push]; exact Nat.lt_succ_self _
  · intro D C h' tk m' ys news' F' N' o1 hn hC₀ hD₀ hCL hDL hCD offC fin
    refine ⟨m', hn, fun h'' hs'' => fin D h'' tk (F'.change hs'' hCL hC₀) (fun p hp => ?_) o1⟩
    refine ⟨hs''.extBut _ _ ?_ (N' p hp).1, (N' p hp).2⟩
    rcases List.mem_cons.mp hp with rfl | hp
    · exact Ne.symm hCD
    · exact offC p hp

theorem strs_snoc : ∀ {vs : List Value} {ys : List Str} {y : Str} {t : Tok}, StrsAre vs ys → StrsAre (vs ++ [.str y t]) (ys ++ [y]) := by
  intro vs ys y t h
  induction h with
  | nil => exact .cons _ _ .nil
  | cons _ _ _ ih => exact .cons _ _ ih
/-- a comprehension over a text's signs whose element makes nothing -/
theorem compRest_str {elt : Expr} {x : Str} {scope : Scope} {cl : List (Str × Addr)} {txt : Str} {Fin : List Value → List (Addr × Obj) → Prop} (f : Nat → Str)
    (elt_ok : ∀ (i c : Nat) (t' : Tok) I oI C oC D m₂ h tk ys (E' Q' : Value → Shared → Prop), txt.cps[i]? = some c → NsObj oC m₂ → m₂ x = some (.str ⟨#[c]⟩ t') → Fr h₀ L h m → News h₀ L h ((I, oI) :: (C, oC) :: (D, lst ys) :: news) →
      (∀ t'' h' tk', Fr h₀ L h' m → News h₀ L h' ((I, oI) :: (C, oC) :: (D, lst ys) :: news) → Q' (.str (f c) t'') { s with heap := h', toks := tk' }) →
      wpAny (model prog w) A (eval elt (compEnvC scope cl C env)) Q' E' { s with heap := h, toks := tk })
    (fin : ∀ ys, StrsAre ys (txt.cps.toList.map f) → Fin ys news) :
    ∀ k i ys, i + k = txt.cps.size → StrsAre ys ((txt.cps.toList.take i).map f) → CompRest prog w A h₀ L m env elt x scope cl s (fun _ => True) (SignAt txt) Fin k i ys news := by
  intro k
  induction k with
  | zero =>
    intro i ys hi hy
    refine CompRest.zero (fin ys ?_)
    have : txt.cps.toList.take i = txt.cps.toList := by rw [List.take_of_length_le]; rw [Array.length_toList]; omega
    rw [this] at hy; exact hy
  | succ k ih =>
    intro i ys hi hy
    refine CompRest.succ ?_
    intro v I oI C oC D m₂ h tk E' hv hC hx F N off ne
    obtain ⟨c, u, hc, rfl⟩ := hv
    refine elt_ok i c u I oI C oC D m₂ h tk ys E' _ hc hC hx F N ?_
    intro t'' h' tk' F' N'
    refine CompEnd.intro (s₁ := { s with heap := h, toks := tk }) F' N' news (fun p hp => hp) off trivial (ih (i + 1) _ (by omega) ?_)
    have e : txt.cps.toList.take (i + 1) = txt.cps.toList.take i ++ [c] := by
      rw [List.take_add_one]
      have : txt.cps.toList[i]? = some c := by rw [Array.getElem?_toList]; exact hc
      rw [this]; rfl
    rw [e, List.map_append]
    exact strs_snoc hy
end
end
section
open PySem PySem.W PyProof.Rows
set_option maxRecDepth 100000
set_option maxHeartbeats 8000000
def dueOf (h c : Nat) : Str :=
  if c = 38 then Str.ofString "&amp;"
  else if c = 60 then (if h = 0 then ⟨#[c]⟩ else Str.ofString "&lt;")
  else if c = 62 then (if h = 2 then ⟨#[c]⟩ else Str.ofString "&gt;")
  else if c = 34 then (if h = 1 then ⟨#[c]⟩ else Str.ofString "&quot;")
  else if c = 13 then (if h = 0 then ⟨#[c]⟩ else Str.ofString "&#xD;")
  else if c = 9 then (if h = 2 then Str.ofString "&#x9;" else ⟨#[c]⟩)
  else if c = 10 then (if h = 2 then Str.ofString "&#xA;" else ⟨#[c]⟩)
  else ⟨#[c]⟩
def due (h : Nat) (x : Str) : Str := Txt.join (Str.ofString "") (x.cps.toList.map (dueOf h))
def wr (n : Int) : Str := due (n.fmod 3).toNat (textOf n)
theorem due_is {x : Str} (hx : x ∈ texts) : eH3 x = due 0 x ∧ eC4 x = due 1 x ∧ eA6 x = due 2 x := by
  have h : (texts.all fun x => decide (eH3 x = due 0 x ∧ eC4 x = due 1 x ∧ eA6 x = due 2 x)) = true := by decide +kernel
  exact of_decide_eq_true (List.all_eq_true.mp h x hx)
theorem due_fits {x : Str} (hx : x ∈ texts) (j : Nat) : ((x.cps.toList.map (dueOf j)).map (·.length)).sum + (x.cps.toList.map (dueOf j)).length * (Str.ofString "").length ≤ 16777216 := by
  have h1 : ∀ c, (dueOf j c).length ≤ 6 := by
    intro c
    unfold dueOf
    repeat' split
    all_goals first | decide | exact Nat.le_of_ble_eq_true rfl
  have h2 : ∀ l : List Nat, ((l.map (dueOf j)).map (·.length)).sum ≤ 6 * l.length := by
    intro l
    induction l with
    | nil => exact Nat.le_refl _
    | cons c r ih =>
      simp only [List.map_cons, List.sum_cons, List.length_cons]
      have := h1 c
      omega
  have h3 := h2 x.cps.toList
  have h4 : x.cps.toList.length ≤ 2 := by
    have h : (texts.all fun x => decide (x.cps.toList.length ≤ 2)) = true := by decide +kernel
    exact of_decide_eq_true (List.all_eq_true.mp h x hx)
  have h5 : (Str.ofString "").length = 0 := rfl
  rw [h5]
  omega
theorem text_signs {x : Str} (hx : x ∈ texts) : x.cps.all (· < 128) = true ∧ x.cps.size ≤ 2 ∧ ∀ c ∈ x.cps.toList, c ∈ sgn.cps.toList := by
  have h : (texts.all fun x => x.cps.all (· < 128) && decide (x.cps.size ≤ 2) && x.cps.toList.all fun c => sgn.cps.toList.contains c) = true := by decide +kernel
  have := List.all_eq_true.mp h x hx
  simp only [Bool.and_eq_true, decide_eq_true_eq] at this
  exact ⟨this.1.1, this.1.2, fun c hc => List.contains_iff_mem.mp (List.all_eq_true.mp this.2 c hc)⟩
theorem flat_str {v : Value} {x : Str} (h : PyProof.V.Flat v (.str x)) : ∃ t, v = .str x t := by
  obtain ⟨t, e, _⟩ := reads_str_inv (h (default : Heap))
  exact ⟨t, e⟩
theorem wr_fin {h₀ h' : Heap} {L D : Addr} {m : Str → Option Value} {news rest : List (Addr × Obj)} {y y1 y2 : Str} {t8 t9 : Tok} {n tk : Nat} {s : Shared} {Q : Value → Shared → Prop} (kF : Fr h₀ L h' m) (kN : News h₀ L h' ((D, { cls := .type "tuple", data := .seq #[.str y1 t8, .str y2 t9] n }) :: rest)) (e1 : y1 = y) (e2 : y2 = y)
    (hs : ∀ p ∈ news, p ∈ rest) (hl : ∀ p ∈ rest, p.1 < D)
    (hret : ∀ r tl h' tk', Fr h₀ L h' m → News h₀ L h' (tl ++ news) → (∀ q ∈ news, ∀ p ∈ tl, q.1 < p.1) → DatIn tl r (.tuple [.str y, .str y]) → Q r { s with heap := h', toks := tk' }) : Q (.ref D) { s with heap := h', toks := tk } := by
  subst e1; subst e2
  refine hret (.ref D) [(D, { cls := .type "tuple", data := .seq #[.str y2 t8, .str y2 t9] n })] h' tk kF (fun p hp => ?_) (fun q hq p hp => ?_) (.tuple (vs := [.str y2 t8, .str y2 t9]) (.head _) (.cons (.str _ _) (.cons (.str _ _) .nil)))
  · rcases List.mem_cons.mp hp with rfl | hp
    · exact kN _ (.head _)
    · exact kN _ (.tail _ (hs p hp))
  · rw [List.mem_singleton.mp hp]
    exact hl q (hs q hq)
section
variable {w : World} {mg mb : Str → Option Value} {mean : ExcName → Option Value} {dp un : Nat} {gd : Option (List Code)} {cn : Str} {cs : Scope} {a : Addr} {ccd : Value} {cl : List (Str × Addr)} {outer : List Env} {A₀ : Around} {base h₀ : Heap} {L : Addr} {m : Str → Option Value} {news : List (Addr × Obj)} {s : Shared} {Q E : Value → Shared → Prop}
theorem written_spec (B : Below A₀ base outer h₀) (F : Fr h₀ L s.heap m) (X : (hd.heap_39 w.params).In h₀) (N : News h₀ L s.heap news) (T : Top hd.view_39 (looseW hd.view_39 [Str.ofString "length_hint"]) mean mg mb h₀) (hk : cs.kind = .function) (hdp : dp + 3 < recursionLimit) (hun : un + 64 < cLine)
  {n : Int} {t : Tok} (h0 : 0 ≤ n) (h1 : n < 576)
  (hret : ∀ r tl h' tk', Fr h₀ L h' m → News h₀ L h' (tl ++ news) → (∀ q ∈ news, ∀ p ∈ tl, q.1 < p.1) → DatIn tl r (.tuple [.str (wr n), .str (wr n)]) → Q r { s with heap := h', toks := tk' }) :
  wpAny (model PySem.Challenge.rw_yf0015_01.row.prog w) (ktrTop dp un gd cn cs L a ccd cl outer) (call (.ref 109) [.int n t]) Q E s := by
  w_top off
  k_with_none
  (k_with "k_room" => ((simp only [depth_under_make, depth_under_kw, depth_in1, depth_deeper, depth_caller, ktrTop, recursionLimit] at *; omega)))
  (k_with "k_all" => (first | assumption | exact all_ne (by assumption) (Nat.le_refl _) | (refine all_ne' (by with_reducible assumption) ?_; omega) | (refine all_ne (by with_reducible assumption) ?_; omega)))
  (k_with "eval ListComp" => (refine Stop.mk ?_))
  (k_with "call ref" => (refine Stop.mk ?_))
  revert X; k_fill; intro X
  obtain ⟨k, rfl⟩ := Int.eq_ofNat_of_zero_le h0
  have hx : textOf k ∈ texts := textOf_mem k (by omega)
  refine wpAny_call ?_
  k_dflt (refine' code_defC ?k1 ?k2 ?k3 ?k4 ?k5 ?kA ?kF ?kK ?k6 ?k7 ?k8 ?k9 ?kB ?kD ?_ ?c2 ?c3 ?c4; (case kA => exact rfl); (case kF => exact rfl); (case kK => assumption); (case k1 => k_asm); (case k2 => k_asm); (case k3 => k_asm); (case k4 => k_asm); (case k5 => k_asm); (case k6 => k_is); (case k7 => k_is); (case k8 => k_room); (case k9 => exact BindsTo.of_eq rfl); (case kB => exact rfl); (case kD => decide +kernel); (case c2 => exact rfl); (case c3 => exact rfl); (case c4 => exact rfl); k_whole; intro g' L' h' tk' cells' FG' F' N' Y' B' X' T' lL; (try k_lt lL); k_cells Y'; (try simp only [List.cons_append, List.nil_append] at N'); (try dsimp only); (try k_lift B'); (try k_fold))
  k_steps
  unfold Stop
  rename Fr _ _ _ _ => F1
  rename News _ _ _ _ => N1
  refine ListComp_str (txt := textOf k) rfl F1 N1 (by rfl) (by decide) (by rfl) (by decide) (by rfl) (text_signs hx).1 (Nat.le_trans (text_signs hx).2.1 (by rw [sizeLine_eq]; decide)) ?hit ?hR
  case hit =>
    intro Q' hQ'
    walk1
    exact hQ' _
  case hR =>
    intro g
    refine compRest_str (dueOf ((k : Int).fmod 3).toNat) ?_ ?_ _ 0 [] (by omega) .nil
    · intro i c t' I oI C oC D m₂ h tk ys E' Q' hc hC hm F2 N2 hQ'
      have hcs : c ∈ sgn.cps.toList := (text_signs hx).2.2 c (List.mem_of_getElem? (by rw [Array.getElem?_toList]; exact hc))
      have hcs' : c = 38 ∨ c = 60 ∨ c = 62 ∨ c = 34 ∨ c = 13 ∨ c = 10 ∨ c = 9 ∨ c = 64 := by
        have e : sgn.cps.toList = [38, 60, 62, 34, 13, 10, 9, 64] := by decide +kernel
        rw [e] at hcs
        simpa using hcs
      clear hcs hc
      dsimp only at hQ' ⊢
      k_steps
      have hr : (k : Int).fmod 3 = 0 ∨ (k : Int).fmod 3 = 1 ∨ (k : Int).fmod 3 = 2 := by
        have h1 := Int.fmod_nonneg_of_pos (k : Int) (show (0 : Int) < 3 by decide)
        have h2 := Int.fmod_lt_of_pos (k : Int) (show (0 : Int) < 3 by decide)
        omega
      rcases hr with hr | hr | hr
      all_goals (
        rw [hr] at hQ' ⊢
        k_steps
        rename PyProof.V.Flat _ _ => hv9
        rename_i v9
        have hv8 : ∃ t9, v9 = .str (dueOf ((k : Int).fmod 3).toNat c) t9 := by
          rw [hr]
          rcases hcs' with rfl | rfl | rfl | rfl | rfl | rfl | rfl | rfl <;> exact flat_str hv9
        obtain ⟨t9, rfl⟩ := hv8
        rw [hr]
        exact hQ' _ _ _ F2 N2)
    · intro ys hys D h tk F2 N2 o1
      dsimp only
      k_steps
      refine join_list (ys := (textOf k).cps.toList.map (dueOf ((k : Int).fmod 3).toNat)) ⟨_, (N2 _ (.head _)).1, rfl, _, rfl⟩ hys (due_fits hx _) ?_
      intro t9 k9
      k_steps
      have hr : (k : Int).fmod 3 = 0 ∨ (k : Int).fmod 3 = 1 ∨ (k : Int).fmod 3 = 2 := by
        have h1 := Int.fmod_nonneg_of_pos (k : Int) (show (0 : Int) < 3 by decide)
        have h2 := Int.fmod_lt_of_pos (k : Int) (show (0 : Int) < 3 by decide)
        omega
      rcases hr with hr | hr | hr
      · rw [hr]
        k_steps
        unfold Stop
        rename Fr _ _ _ _ => F3
        rename News _ _ _ _ => N3
        rename Below _ _ _ _ => B3
        rename Frag.In _ _ => X3
        rename Top _ _ _ _ _ _ => T3
        refine call_spec B3 F3 X3 N3 T3 rfl (by show dp + 1 + 2 < recursionLimit; omega) (x := textOf k) ⟨_, _, _, _, rfl⟩ (escOk_html hx) ?_
        intro t8 tl h8 tk8 F4 N4 hlt
        k_steps
        rename Fr _ _ _ _ => kF
        rename News _ _ _ _ => kN
        exact wr_fin (s := s) (y := wr k) kF kN (by unfold wr; rw [hr]; exact (due_is hx).1) rfl (fun p hp => List.mem_append.mpr (.inr (.tail _ (.tail _ (.tail _ (.tail _ (.tail _ (.tail _ (.tail _ (.tail _ hp)))))))))) (by assumption) hret
      · rw [hr]
        k_steps
        unfold Stop
        rename Fr _ _ _ _ => F3
        rename News _ _ _ _ => N3
        rename Below _ _ _ _ => B3
        rename Frag.In _ _ => X3
        rename Top _ _ _ _ _ _ => T3
        refine call_spec B3 F3 X3 N3 T3 rfl (by show dp + 1 + 2 < recursionLimit; omega) (x := textOf k) ⟨_, _, _, _, rfl⟩ (escOk_cdata hx) ?_
        intro t8 tl h8 tk8 F4 N4 hlt
        k_steps
        rename Fr _ _ _ _ => kF
        rename News _ _ _ _ => kN
        exact wr_fin (s := s) (y := wr k) kF kN (by unfold wr; rw [hr]; exact (due_is hx).2.1) rfl (fun p hp => List.mem_append.mpr (.inr (.tail _ (.tail _ (.tail _ (.tail _ (.tail _ (.tail _ (.tail _ (.tail _ hp)))))))))) (by assumption) hret
      · rw [hr]
        k_steps
        unfold Stop
        rename Fr _ _ _ _ => F3
        rename News _ _ _ _ => N3
        rename Below _ _ _ _ => B3
        rename Frag.In _ _ => X3
        rename Top _ _ _ _ _ _ => T3
        refine call_spec B3 F3 X3 N3 T3 rfl (by show dp + 1 + 2 < recursionLimit; omega) (x := textOf k) ⟨_, _, _, _, rfl⟩ (escOk_attrib hx) ?_
        intro t8 tl h8 tk8 F4 N4 hlt
        k_steps
        rename Fr _ _ _ _ => kF
        rename News _ _ _ _ => kN
        exact wr_fin (s := s) (y := wr k) kF kN (by unfold wr; rw [hr]; exact (due_is hx).2.2) rfl (fun p hp => List.mem_append.mpr (.inr (.tail _ (.tail _ (.tail _ (.tail _ (.tail _ (.tail _ (.tail _ (.tail _ hp)))))))))) (by assumption) hret
end
end
section
open PySem PySem.W PyProof.Rows
set_option maxRecDepth 100000
set_option maxHeartbeats 8000000
theorem owner_filter : Manifest.owners.lookup (String.ofList ['r', 'e', 't', 'l', 'i', 'f'].reverse) = some Manifest.sig_filter := by kernel_rfl
theorem slot_filter_next : Slot "filter" "__next__" "filter.__next__" :=
  .of (owner := "filter") (n := "__next__") (by rw [typeLookup_type, builtinLookup_eq_fast]; kernel_rfl) (by decide +kernel) (by decide +kernel) (by decide +kernel)
    (by first | exact .inl (by decide +kernel) | exact .inr (by decide +kernel)) (by rw [isSubtype_type]; kernel_rfl)
theorem entry_filter_next : entryFor table "filter.__next__" = some Builtin.«filter.__next__» := entryFor_of_tree (by kernel_rfl)
theorem args_filter_next (a : Value) : argsOk "filter.__next__" ⟨[a], []⟩ := by
  unfold argsOk; rw [signature?_of (id := "filter.__next__") (n := ['_', '_', 't', 'x', 'e', 'n', '_', '_']) (o := ['r', 'e', 't', 'l', 'i', 'f']) (by kernel_rfl) owner_filter]; kernel_rfl
theorem slot_filter_iter : Slot "filter" "__iter__" "filter.__iter__" :=
  .of (owner := "filter") (n := "__iter__") (by rw [typeLookup_type, builtinLookup_eq_fast]; kernel_rfl) (by decide +kernel) (by decide +kernel) (by decide +kernel)
    (by first | exact .inl (by decide +kernel) | exact .inr (by decide +kernel)) (by rw [isSubtype_type]; kernel_rfl)
theorem entry_filter_iter : entryFor table "filter.__iter__" = some Builtin.«dict_keyiterator.__iter__» :=
  entryFor_alias (id' := "dict_keyiterator.__iter__") (by kernel_rfl) rfl (by decide +kernel) (by kernel_rfl)
theorem args_filter_iter (a : Value) : argsOk "filter.__iter__" ⟨[a], []⟩ := by
  unfold argsOk; rw [signature?_of (id := "filter.__iter__") (n := ['_', '_', 'r', 'e', 't', 'i', '_', '_']) (o := ['r', 'e', 't', 'l', 'i', 'f']) (by kernel_rfl) owner_filter]; kernel_rfl
theorem slot_filter_init : Slot "filter" "__init__" "object.__init__" :=
  .of (owner := "object") (n := "__init__") (by rw [typeLookup_type, builtinLookup_eq_fast]; kernel_rfl) (by decide +kernel) (by decide +kernel) (by decide +kernel)
    (by first | exact .inl (by decide +kernel) | exact .inr (by decide +kernel)) (by rw [isSubtype_type]; kernel_rfl)
theorem mro_filter : mroOf (.type "filter") = pure [.type "filter", .type "object"] := by rw [mroOf_type]; kernel_rfl
theorem lookup_filter_new : typeLookup (.type "filter") "__new__" = pure (some (.builtin "filter.__new__")) := by rw [typeLookup_type, builtinLookup_eq_fast]; kernel_rfl
theorem called_filter : TypeCalled "filter" "filter.__new__" "object.__init__" :=
  ⟨by decide +kernel, by decide +kernel, ⟨_, _, mro_filter⟩, madeBy_type mro_filter lookup_filter_new (by decide +kernel), by decide +kernel, by rw [isSubtype_type]; kernel_rfl, slot_filter_init⟩
theorem typeCall_filter (a b : Value) : checkTypeCall "filter" ⟨[a, b], []⟩ = pure () := by kernel_rfl
theorem newCall_filter (a b : Value) : checkBuiltinCall "filter.__new__" ⟨[.type "filter", a, b], []⟩ = pure () := by kernel_rfl
theorem entry_filter_new : entryFor table "filter.__new__" = some Builtin.«filter.__new__» := entryFor_of_tree (by kernel_rfl)
theorem sub_filter : isSubtype (.type "filter") (.type "filter") = pure true := by rw [isSubtype_type]; kernel_rfl
abbrev IsFilt (h : Heap) (z it : Addr) : Prop := h.get? z = some { cls := .type "filter", dict := none, data := .fields #[.none, .ref it], slots := #[] }
section
variable {prog : Program} {w : World} {K : Type} [DecidableEq K] {knd : KeyKind prog w K} {A : Around} {E : Value → Shared → Prop} {s : Shared}
theorem own_valiter : Builtin.Dict_items.ownsTuple "dict_valueiterator" = false := by decide
/-- the view's iterator hands on its next value -/
theorem valnext_item {it d : Addr} {i ep : Nat} {kvs : List (K × Value)} {k : K} {v : Value} {Q : Value → Shared → Prop} (hit : s.heap.IsValIter it d i kvs.length ep) (hm : s.heap.DictAt knd d kvs ep) (hx : kvs[i]? = some (k, v))
    (hQ : ∀ h', h'.IsValIter it d (i + 1) kvs.length ep → Heap.SameBut it s.heap h' → Q v { s with heap := h' }) : wpAny (model prog w) A (call (.builtin "dict_valueiterator.__next__") [.ref it]) Q E s := by
  obtain ⟨o, ho, hc, hd⟩ := id hit
  obtain ⟨od, es, hod, hcd, hdd, hk, hp, hn⟩ := id hm
  have hsz : es.size = kvs.length := by rw [← hp.length]; simp
  have hlt : i < kvs.length := by
    rcases Nat.lt_or_ge i kvs.length with h | h
    · exact h
    · rw [List.getElem?_eq_none h] at hx; cases hx
  have hlt' : i < es.size := by rw [hsz]; exact hlt
  have hval : es[i].val = v := (hp.get? (e := es[i]) (by simp [hlt']) hx).2
  refine wpAny_call_entry F.slot_dict_valueiterator_next hit.typeIs F.entry_dict_valueiterator_next ?_ (F.args_dict_valueiterator_next_1 _)
  refine wpAny_bind (wpAny_pure ?_)
  refine wpAny_bind (wpAny_bind ?_)
  refine wpAny_bind (wpAny_typeNameOfWhole_valiter hit.typeIs (wpAny_pure ?_))
  refine wpAny_bind (wpAny_fieldsOf ho hd ?_)
  rw [own_valiter]
  rw [if_neg Bool.false_ne_true]
  show wpAny _ _ (if (Value.ref d == Value.none) = true then _ else _) _ _ s
  rw [if_neg (show ¬ ((Value.ref d == Value.none) = true) from Bool.false_ne_true)]
  refine wpAny_bind (wpAny_pure ?_)
  refine wpAny_bind (wpAny_dictEntries hod hdd ?_)
  rw [if_neg (by rw [hsz]; simp)]
  refine wpAny_bind (wpAny_pure ?_)
  refine wpAny_bind (wpAny_dictEpoch hod hdd ?_)
  rw [if_neg (by simp)]
  refine wpAny_pure ?_
  dsimp only
  rw [if_neg (show ¬ ((i : Int) < 0) from Int.not_lt.mpr (Int.natCast_nonneg i)), Int.toNat_natCast, Array.getElem?_eq_getElem hlt']
  dsimp only
  refine wpAny_bind (wpAny_bind (wpAny_typeNameOfWhole_valiter hit.typeIs (wpAny_pure ?_)))
  refine wpAny_bind (wpAny_isOneOf_valiter hit.typeIs ?_)
  show wpAny _ _ (setField (.ref it) 1 (rawInt ((i : Int) + 1)) >>= _) _ _ s
  refine wpAny_bind (wpAny_setField ho hd (by simp) ?_)
  have hit' : (s.heap.update it (Obj.mapFields (·.setIfInBounds 1 (rawInt ((i : Int) + 1))))).IsValIter it d (i + 1) kvs.length ep :=
    ⟨_, Heap.get?_update_self _ ho (Obj.isFreed_of_fields (Obj.data_mapFields hd _)), (Obj.cls_mapFields ..).trans hc, by rw [Obj.data_mapFields hd]; simp [rawInt]⟩
  refine wpAny_bind (wpAny_holding ?_)
  refine wpAny_bind (wpAny_isOneOf_valiter (s := { s with heap := s.heap.update it (Obj.mapFields (·.setIfInBounds 1 (rawInt ((i : Int) + 1)))) }) hit'.typeIs ?_)
  refine wpAny_bind (wpAny_isOneOf_valiter (s := { s with heap := s.heap.update it (Obj.mapFields (·.setIfInBounds 1 (rawInt ((i : Int) + 1)))) }) hit'.typeIs ?_)
  show wpAny _ _ (pure es[i].val) _ _ _
  exact wpAny_pure (wpAny_pure ⟨_, rfl, hval ▸ hQ _ hit' (Heap.SameBut.update ..)⟩)
/-- behind its last it raises StopIteration -/
theorem valnext_end {it d : Addr} {i ep : Nat} {kvs : List (K × Value)} {Q : Value → Shared → Prop} (hh : A.handled = none) (hit : s.heap.IsValIter it d i kvs.length ep) (hm : s.heap.DictAt knd d kvs ep) (hx : kvs[i]? = none)
    (hE : ∀ h' e, Heap.ExtBut it s.heap h' → (∃ o, h'.get? e = some o ∧ o.cls = .type "StopIteration") → E (.ref e) { s with heap := h' }) : wpAny (model prog w) A (call (.builtin "dict_valueiterator.__next__") [.ref it]) Q E s := by
  obtain ⟨o, ho, hc, hd⟩ := id hit
  obtain ⟨od, es, hod, hcd, hdd, hk, hp, hn⟩ := id hm
  have hsz : es.size = kvs.length := by rw [← hp.length]; simp
  have hge : es.size ≤ i := by rw [hsz]; simpa using hx
  refine wpAny_call_entry F.slot_dict_valueiterator_next hit.typeIs F.entry_dict_valueiterator_next ?_ (F.args_dict_valueiterator_next_1 _)
  refine wpAny_bind (wpAny_pure ?_)
  refine wpAny_bind (wpAny_bind ?_)
  refine wpAny_bind (wpAny_typeNameOfWhole_valiter hit.typeIs (wpAny_pure ?_))
  refine wpAny_bind (wpAny_fieldsOf ho hd ?_)
  rw [own_valiter]
  rw [if_neg Bool.false_ne_true]
  show wpAny _ _ (if (Value.ref d == Value.none) = true then _ else _) _ _ s
  rw [if_neg (show ¬ ((Value.ref d == Value.none) = true) from Bool.false_ne_true)]
  refine wpAny_bind (wpAny_pure ?_)
  refine wpAny_bind (wpAny_dictEntries hod hdd ?_)
  rw [if_neg (by rw [hsz]; simp)]
  refine wpAny_bind (wpAny_pure ?_)
  refine wpAny_bind (wpAny_dictEpoch hod hdd ?_)
  rw [if_neg (by simp)]
  refine wpAny_pure ?_
  dsimp only
  rw [if_neg (show ¬ ((i : Int) < 0) from Int.not_lt.mpr (Int.natCast_nonneg i)), Int.toNat_natCast, Array.getElem?_eq_none hge]
  dsimp only
  refine wpAny_bind (wpAny_bind (wpAny_typeNameOfWhole_valiter hit.typeIs (wpAny_pure ?_)))
  show wpAny _ _ (setField (.ref it) 0 .none >>= _) _ _ s
  refine wpAny_bind (wpAny_setField ho hd (by simp) ?_)
  show wpAny _ _ (newExc (.type "StopIteration") [] >>= _) _ _ _
  refine wpAny_bind ?_
  simp only [newExc, newTuple]
  refine wpAny_bind (wpAny_newObj_type ?_ (by size_fits))
  refine wpAny_bind (m := firstArgMember _ _) (wpAny_of_eq (a := Value.none) (by first | rfl | (simp only [firstArgMember]; rfl)) ?_)
  refine wpAny_newObj_type ?_ (by size_fits)
  simp only [raiseNew]
  refine wpAny_bind (wpAny_handled ?_)
  rw [show A.in1.handled = none from hh]
  refine wpAny_bind (wpAny_pure (wpAny_throw ?_))
  exact hE _ _ (((Heap.SameBut.update ..).extBut.push _).push _) ⟨_, Heap.get?_push_size _ rfl, rfl⟩
end
end
section
open PySem PySem.W PyProof.Rows
set_option maxRecDepth 100000
set_option maxHeartbeats 8000000
section
variable {prog : Program} {w : World} {K : Type} [DecidableEq K] {knd : KeyKind prog w K} {A : Around} {E : Value → Shared → Prop} {s : Shared}
theorem filt_item {z it d : Addr} {i ep : Nat} {kvs : List (K × Value)} {k : K} {v : Value} {Qf : Fin → Shared → Prop} (hne : z ≠ it) (hz : IsFilt s.heap z it) (hit : s.heap.IsValIter it d i kvs.length ep) (hm : s.heap.DictAt knd d kvs ep) (hx : kvs[i]? = some (k, v))
    (hv : v = .none ∨ ∃ x t, v = .int x t ∧ x ≠ 0)
    (hQ : ∀ h', IsFilt h' z it → h'.IsValIter it d (i + 1) kvs.length ep → Heap.SameBut it s.heap h' → Qf (if v = .none then .again (.builtin "filter.__next__" ⟨[.ref z], []⟩) else .done (.ret v)) { s with heap := h' }) :
    wpAny (model prog w) A (Builtin.«filter.__next__» ⟨[.ref z], []⟩) Qf E s := by
  show wpAny _ _ (field (.ref z) 0 >>= _) _ _ _
  refine wpAny_bind (wpAny_field hz rfl (x := .none) rfl ?_)
  show wpAny _ _ (field (.ref z) 1 >>= _) _ _ _
  refine wpAny_bind (wpAny_field hz rfl (x := .ref it) rfl ?_)
  refine wpAny_bind (wpAny_callSpecial?_slot (name := Str.ofString "__next__") hit.typeIs F.slot_dict_valueiterator_next (valnext_item hit hm hx fun h' hit' hs' => ?_))
  have hz' : IsFilt h' z it := hs'.extBut _ _ hne hz
  have q := hQ h' hz' hit' hs'
  refine wpAny_bind (wpAny_holding ?_)
  show wpAny _ _ (if (Value.none == Value.none || Value.none == Value.type "bool") = true then _ else _) _ _ _
  rw [if_pos (by decide)]
  refine wpAny_bind (wpAny_rule ?_)
  rcases hv with rfl | ⟨x, t, rfl, hx0⟩
  · rw [if_pos rfl] at q
    refine wpAny_pure ?_
    exact wpAny_pure q
  · rw [if_neg (by intro e; cases e)] at q
    refine P.truthy_int ?_
    have e : (x != 0) = true := by simpa using hx0
    rw [e]
    exact wpAny_pure q
theorem filt_end {z it d : Addr} {i ep : Nat} {kvs : List (K × Value)} {Qf : Fin → Shared → Prop} (hh : A.handled = none) (hne : z ≠ it) (hz : IsFilt s.heap z it) (hit : s.heap.IsValIter it d i kvs.length ep) (hm : s.heap.DictAt knd d kvs ep) (hx : kvs[i]? = none)
    (hE : ∀ h' e, Heap.ExtBut it s.heap h' → (∃ o, h'.get? e = some o ∧ o.cls = .type "StopIteration") → E (.ref e) { s with heap := h' }) :
    wpAny (model prog w) A (Builtin.«filter.__next__» ⟨[.ref z], []⟩) Qf E s := by
  show wpAny _ _ (field (.ref z) 0 >>= _) _ _ _
  refine wpAny_bind (wpAny_field hz rfl (x := .none) rfl ?_)
  show wpAny _ _ (field (.ref z) 1 >>= _) _ _ _
  refine wpAny_bind (wpAny_field hz rfl (x := .ref it) rfl ?_)
  exact wpAny_bind (wpAny_callSpecial?_slot (name := Str.ofString "__next__") hit.typeIs F.slot_dict_valueiterator_next (valnext_end hh hit hm hx hE))

/-- the values that a filter by None lets through -/
def live (kvs : List (K × Value)) : List Value := (kvs.map (·.2)).filter fun v => decide (v ≠ .none)
def Plain (kvs : List (K × Value)) : Prop := ∀ p ∈ kvs, p.2 = .none ∨ ∃ x t, p.2 = .int x t ∧ x ≠ 0

theorem plain_filter_next : plainId "filter.__next__" = true := by decide +kernel
/-- what a turn of the filter's next gives: the next live value, or the end -/
theorem filt_code {z it d : Addr} {ep : Nat} {kvs : List (K × Value)} (hh : A.handled = none) (hne : z ≠ it) (hzd : d ≠ it) (hpl : Plain kvs) :
    ∀ (n i : Nat) (s : Shared) (R : Result → Shared → Prop), kvs.length - i = n → i ≤ kvs.length → IsFilt s.heap z it → s.heap.IsValIter it d i kvs.length ep → s.heap.DictAt knd d kvs ep →
    (∀ j k v h', kvs[j]? = some (k, v) → v ≠ .none → i ≤ j → (∀ l, i ≤ l → l < j → ∃ k', kvs[l]? = some (k', .none)) → IsFilt h' z it → h'.IsValIter it d (j + 1) kvs.length ep → h'.DictAt knd d kvs ep → (∀ b o, b ≠ it → s.heap.get? b = some o → h'.get? b = some o) → R (.ok (.ret v)) { s with heap := h' }) →
    (∀ e h', (∀ l, i ≤ l → l < kvs.length → ∃ k', kvs[l]? = some (k', .none)) → (∃ o, h'.get? e = some o ∧ o.cls = .type "StopIteration") → (∀ b o, b ≠ it → s.heap.get? b = some o → h'.get? b = some o) → R (.error (.ref e)) { s with heap := h' }) →
    codeAny (model prog w) A (.builtin "filter.__next__" ⟨[.ref z], []⟩) R s := by
  intro n
  induction n with
  | zero =>
    intro i s R hn hi hz hit hm h1 h2
    refine codeAny_builtin entry_filter_next ?_
    rw [Around.under_plainId plain_filter_next _]
    refine filt_end (by exact hh) hne hz hit hm (List.getElem?_eq_none (by omega)) fun h' e he ho => ?_
    exact h2 e h' (fun l hl hl' => by omega) ho fun b o hb e' => he b o hb e'
  | succ n ih =>
    intro i s R hn hi hz hit hm h1 h2
    refine codeAny_builtin entry_filter_next ?_
    rw [Around.under_plainId plain_filter_next _]
    have hlt : i < kvs.length := by omega
    obtain ⟨⟨k, v⟩, hx⟩ : ∃ p, kvs[i]? = some p := ⟨kvs[i], by simp [hlt]⟩
    refine filt_item hne hz hit hm hx (hpl _ (List.mem_of_getElem? hx)) fun h' hz' hit' hs' => ?_
    have hm' : h'.DictAt knd d kvs ep := hm.extBut hs'.extBut hzd
    have keep : ∀ b o, b ≠ it → s.heap.get? b = some o → h'.get? b = some o := fun b o hb e => hs'.extBut b o hb e
    by_cases hv : v = .none
    · rw [if_pos hv]
      subst hv
      refine ⟨plainId_quiet plain_filter_next _, ih (i + 1) _ R (by omega) hlt hz' hit' hm' (fun j k' v' h'' hj hv' hij hl hz'' hit'' hm'' hk => ?_) fun e h'' hl ho hk => ?_⟩
      · refine h1 j k' v' h'' hj hv' (by omega) (fun l hl1 hl2 => ?_) hz'' hit'' hm'' fun b o hb e => hk b o hb (keep b o hb e)
        rcases Nat.lt_or_ge i l with q | q
        · exact hl l q hl2
        · obtain rfl : i = l := Nat.le_antisymm hl1 q
          exact ⟨k, hx⟩
      · refine h2 e h'' (fun l hl1 hl2 => ?_) ho fun b o hb e' => hk b o hb (keep b o hb e')
        rcases Nat.lt_or_ge i l with q | q
        · exact hl l q hl2
        · obtain rfl : i = l := Nat.le_antisymm hl1 q
          exact ⟨k, hx⟩
    · rw [if_neg hv]
      exact h1 i k v h' hx hv (Nat.le_refl _) (fun l hl1 hl2 => by omega) hz' hit' hm' keep

theorem live_snoc {kvs : List (K × Value)} {j : Nat} {k : K} {v : Value} (hx : kvs[j]? = some (k, v)) : live (kvs.take (j + 1)) = live (kvs.take j) ++ (if v = .none then [] else [v]) := by
  unfold live
  rw [List.take_add_one, hx, List.map_append, List.filter_append]
  by_cases hv : v = .none <;> simp [hv]
theorem live_skip {kvs : List (K × Value)} {p : Nat} : ∀ {n j : Nat}, j = p + n → (∀ l, p ≤ l → l < j → ∃ k', kvs[l]? = some (k', .none)) → live (kvs.take j) = live (kvs.take p)
  | 0, j, hj, _ => by rw [hj]; rfl
  | n + 1, j, hj, h => by
    obtain ⟨k', e⟩ := h (p + n) (by omega) (by omega)
    have := live_skip (kvs := kvs) (p := p) (n := n) (j := p + n) rfl fun l h1 h2 => h l h1 (by omega)
    rw [hj, show p + (n + 1) = p + n + 1 by omega, live_snoc e, if_pos rfl, List.append_nil, this]
theorem live_split (kvs : List (K × Value)) (j : Nat) : live kvs = live (kvs.take j) ++ live (kvs.drop j) := by
  unfold live
  rw [← List.filter_append, ← List.map_append, List.take_append_drop]

theorem Walks_filter {z it d : Addr} {ep : Nat} {kvs : List (K × Value)} (hh : A.handled = none) (hne : z ≠ it) (hzd : d ≠ it) (hpl : Plain kvs) :
    Walks prog w A z [z, it, d] [it] (live kvs).length (fun i v => (live kvs)[i]? = some v)
      (fun i h => IsFilt h z it ∧ (∃ p, p ≤ kvs.length ∧ h.IsValIter it d p kvs.length ep ∧ (live (kvs.take p)).length = i) ∧ h.DictAt knd d kvs ep) where
  sub := fun b hb => by simp at hb; simp [hb]
  frame := fun i h h' st hk => by
    obtain ⟨hz, ⟨p, hp, hit, hl⟩, hm⟩ := st
    exact ⟨hk z (by simp) _ hz, ⟨p, hp, hit.at fun o e => hk it (by simp) o e, hl⟩, hm.at' fun o e => hk d (by simp) o e⟩
  item := fun i s Q E hi st hQ => by
    obtain ⟨hz, ⟨p, hp, hit, hl⟩, hm⟩ := st
    have hT : s.TypeIs (.ref z) "filter" := ⟨_, hz, rfl⟩
    unfold pyNext
    refine wpAny_bind (wpAny_attempt (wpAny_callSpecial?_slot (name := Str.ofString "__next__") hT slot_filter_next (wpAny_call ?_)))
    refine codeAny_call_builtin_code (plainId_quiet plain_filter_next _) (slot_filter_next.check _ _ _ _ _ _ _ _ hT (args_filter_next _) ?_)
    refine filt_code hh hne hzd hpl _ p s _ rfl hp hz hit hm (fun j k v h' hj hv hpj hl' hz' hit' hm' hk => ?_) fun e h' hl' ho hk => ?_
    · have hjl : j < kvs.length := by
        rcases Nat.lt_or_ge j kvs.length with q | q
        · exact q
        · rw [List.getElem?_eq_none q] at hj; cases hj
      have e1 : live (kvs.take (j + 1)) = live (kvs.take p) ++ [v] := by
        rw [live_snoc hj, if_neg hv, live_skip (n := j - p) (by omega) hl']
      have e2 : (live kvs)[i]? = some v := by
        rw [live_split kvs (j + 1), e1, List.append_assoc, List.getElem?_append_right (by omega), hl, Nat.sub_self]
        rfl
      refine wpAny_pure (hQ v h' s.toks e2 ⟨hz', ⟨j + 1, hjl, hit', ?_⟩, hm'⟩ fun b o hb e => hk b o (fun q => hb (by simp [q])) e)
      rw [e1, List.length_append, hl]; rfl
    · have e1 : live kvs = live (kvs.take p) := by
        have := live_skip (kvs := kvs) (p := p) (n := kvs.length - p) (j := kvs.length) (by omega) hl'
        rw [List.take_length] at this
        exact this
      rw [e1, hl] at hi
      exact absurd hi (Nat.lt_irrefl _)
  done := fun s Q E st hQ => by
    obtain ⟨hz, ⟨p, hp, hit, hl⟩, hm⟩ := st
    have hT : s.TypeIs (.ref z) "filter" := ⟨_, hz, rfl⟩
    unfold pyNext
    refine wpAny_bind (wpAny_attempt (wpAny_callSpecial?_slot (name := Str.ofString "__next__") hT slot_filter_next (wpAny_call ?_)))
    refine codeAny_call_builtin_code (plainId_quiet plain_filter_next _) (slot_filter_next.check _ _ _ _ _ _ _ _ hT (args_filter_next _) ?_)
    refine filt_code hh hne hzd hpl _ p s _ rfl hp hz hit hm (fun j k v h' hj hv hpj hl' hz' hit' hm' hk => ?_) fun e h' hl' ho hk => ?_
    · have e1 : live (kvs.take (j + 1)) = live (kvs.take p) ++ [v] := by
        rw [live_snoc hj, if_neg hv, live_skip (n := j - p) (by omega) hl']
      have e2 := congrArg List.length (live_split kvs (j + 1))
      rw [e1, List.length_append, List.length_append, hl] at e2
      simp only [List.length_cons, List.length_nil] at e2
      omega
    · obtain ⟨o, ho, hc⟩ := ho
      refine wpAny_bind (wpAny_isInstance (T := "StopIteration") (b := true) ⟨o, ho, hc⟩ isSubtype_stop ?_)
      exact wpAny_pure (hQ h' s.toks fun b o hb e => hk b o (fun q => hb (by simp [q])) e)
  self := fun i s Q E st hQ => by
    obtain ⟨hz, _, _⟩ := st
    have hT : s.TypeIs (.ref z) "filter" := ⟨_, hz, rfl⟩
    refine wpAny_pyIter_slot hT slot_filter_iter (wpAny_call_entry slot_filter_iter hT entry_filter_iter ?_ (args_filter_iter _))
    show wpAny _ _ (ret (.ref z)) _ _ s
    exact wpAny_pure ⟨_, rfl, "filter", _, hT, slot_filter_next.lookup, hQ⟩
end
end
section
open PySem PySem.W PyProof.Rows
set_option maxRecDepth 100000
set_option maxHeartbeats 8000000
abbrev filtH1 (h : Heap) (d : Addr) (n ep : Nat) : Heap := h.push { cls := .type "dict_valueiterator", data := .fields #[.ref d, .int 0 0, .int n 0, .int ep 0] }
abbrev filtH2 (h : Heap) (d : Addr) (n ep : Nat) : Heap := (filtH1 h d n ep).push { cls := .type "filter", data := .fields #[.none, .ref h.objs.size] }
section
variable {prog : Program} {w : World} {K : Type} [DecidableEq K] {knd : KeyKind prog w K} {A : Around} {E : Value → Shared → Prop} {s : Shared}
theorem meets_filter_new (v d : Addr) (kvs : List (K × Value)) (ep : Nat) :
    MeetsIn prog w (Builtin.«filter.__new__» ⟨[.type "filter", .none, .ref v], []⟩) (fun _ R s => s.heap.IsValuesView v d ∧ s.heap.DictAt knd d kvs ep ∧
      R (.ok (.ret (.ref (filtH1 s.heap d kvs.length ep).objs.size))) { s with heap := filtH2 s.heap d kvs.length ep }) :=
  .of_wp fun A R s h => by
    w_top off
    k_with_none
    obtain ⟨hp, g, dr, tk, os⟩ := s
    obtain ⟨hv, hm, h⟩ := h
    have hsub := sub_filter
    have hv' : Heap.IsValuesView (Shared.heap ⟨hp, g, dr, tk, os⟩) v d := hv
    have hm' : Heap.DictAt knd (Shared.heap ⟨hp, g, dr, tk, os⟩) d kvs ep := hm
    wp_walk using wpAny_pyIter_values hv' hm'
    exact ⟨_, rfl, h⟩
theorem call_filter {v d : Addr} {kvs : List (K × Value)} {ep : Nat} {Q : Value → Shared → Prop} (hv : s.heap.IsValuesView v d) (hm : s.heap.DictAt knd d kvs ep)
    (h : Q (.ref (s.heap.objs.size + 1)) { s with heap := filtH2 s.heap d kvs.length ep }) : wpAny (model prog w) A (call (.type "filter") [.none, .ref v]) Q E s := by
  refine callType_newIn called_filter (by decide) (typeCall_filter _ _) (newCall_filter _ _) (fun obj => F.args_object_init_3 obj _ _) entry_filter_new (meets_filter_new (knd := knd) v d kvs ep) ⟨hv, hm, ?_⟩
  have z1 : (filtH1 s.heap d kvs.length ep).objs.size = s.heap.objs.size + 1 := Heap.size_push ..
  show _ ∧ _
  rw [z1]
  have g1 : (filtH2 s.heap d kvs.length ep).get? (filtH1 s.heap d kvs.length ep).objs.size = some _ := Heap.get?_push_size _ rfl
  rw [z1] at g1
  exact ⟨⟨_, g1, rfl⟩, h⟩
end
end
section
open PySem PySem.W PyProof.Rows
set_option maxRecDepth 100000
set_option maxHeartbeats 8000000
theorem check_max_d (a b : Value) : checkBuiltinCall "max" ⟨[a], [("default", b)]⟩ = pure () := by kernel_rfl
abbrev dkw (b : Value) : List (Str × Value) := [("default", b)]
section
variable {prog : Program} {w : World} {A : Around} {E : Value → Shared → Prop} {s : Shared} {I : Addr} {fp wr : List Addr} {n : Nat} {P : Nat → Value → Prop} {St : Nat → Heap → Prop} {R : Result → Shared → Prop}
theorem maxD_name : (toString "max" ++ toString ".loop" : String) = "max.loop" := by decide
/-- the loop of max behind its first item: a default stands by and is not asked -/
theorem maxD_loop (b : Value) (W : Walks prog w A.in1 I fp wr n P St) (bt : Nat → Nat → Bool) (hcmp : CmpOf prog w A.in1 .Gt P bt) (S : Addr) (hSf : S ∉ fp) :
    ∀ (k j : Nat) (s : Shared) (vb : Value) (c : Nat), n - (j + 1) = k → j + 1 ≤ n → St (j + 1) s.heap → P (argBest bt j) vb →
    s.heap.get? S = some { cls := .type "list", dict := none, data := .seq #[vb, vb] c, slots := #[] } →
    (∀ v h' tk, P (argBest bt (n - 1)) v → (∀ b o, b ∉ S :: wr → s.heap.get? b = some o → h'.get? b = some o) → R (.ok (.ret v)) { s with heap := h', toks := tk }) →
    codeAny (model prog w) A (.builtin "max.loop" ⟨[.ref I, .none, .ref S], dkw b⟩) R s := by
  have hSw : S ∉ wr := fun h => hSf (W.sub _ h)
  have notS : ∀ {b : Addr}, b ∉ S :: wr → S ≠ b := fun hb h => hb (by rw [h]; exact List.mem_cons_self)
  have notW : ∀ {b : Addr}, b ∉ S :: wr → b ∉ wr := fun hb h => hb (List.mem_cons_of_mem _ h)
  intro k
  induction k with
  | zero =>
    intro j s vb c hk hj hst hPb hS hR
    have hin : j + 1 = n := by omega
    refine codeAny_builtin F.entry_max_loop ?_
    rw [Around.under_plainId F.plain_max_loop _]
    show wpAny _ A.in1 (seqItems? (.ref S) >>= _) _ _ s
    refine wpAny_bind (wpAny_seqItems hS rfl ?_)
    show wpAny _ A.in1 (tryCatch (pyNext (.ref I)) _ >>= _) _ _ s
    refine wpAny_bind (wpAny_tryCatch (W.done s _ _ (hin ▸ hst) fun h' tk hm => ?_))
    have hS' := hm S _ hSw hS
    show wpAny _ A.in1 (updateSeq S (fun _ => #[]) >>= _) _ _ _
    refine wpAny_bind (wpAny_updateSeq hS' rfl (wpAny_bind (wpAny_letGo (wpAny_pure ?_))))
    exact hR vb _ _ (by rw [← hin]; exact hPb) fun b o hb e => (Heap.get?_update_other _ _ (notS hb)).trans (hm b o (notW hb) e)
  | succ k ih =>
    intro j s vb c hk hj hst hPb hS hR
    have hlt : j + 1 < n := by omega
    refine codeAny_builtin F.entry_max_loop ?_
    rw [Around.under_plainId F.plain_max_loop _]
    show wpAny _ A.in1 (seqItems? (.ref S) >>= _) _ _ s
    refine wpAny_bind (wpAny_seqItems hS rfl ?_)
    show wpAny _ A.in1 (tryCatch (pyNext (.ref I)) _ >>= _) _ _ s
    refine wpAny_bind (wpAny_tryCatch (W.item (j + 1) s _ _ hlt hst fun v h' tk hP hst' hm => ?_))
    have hS' := hm S _ hSw hS
    show wpAny _ A.in1 (tryCatch (holding [v, v] (richCompare .Gt v vb >>= _)) _ >>= _) _ _ _
    refine wpAny_bind (wpAny_tryCatch (wpAny_holding (wpAny_bind (hcmp (j + 1) (argBest bt j) v vb _ _ _ hP hPb ?_))))
    refine wpAny_bind (wpAny_holding (wpAny_truthy_bool ?_))
    refine wpAny_bind (wpAny_letGo (wpAny_pure ?_))
    cases hb : bt (j + 1) (argBest bt j) with
    | true =>
      simp only [if_true]
      refine wpAny_bind (wpAny_updateSeq hS' rfl (wpAny_bind (wpAny_letGo ?_)))
      rw [maxD_name]
      refine wpAny_pure ⟨plainId_quiet F.plain_max_loop _, ih (j + 1) _ v _ (by omega) hlt (W.frame _ _ _ hst' fun b hbf o e => ?_) (by simp only [argBest, hb, if_true]; exact hP) (Heap.get?_update_self _ hS' rfl) fun v' h'' tk' hP' hm'' => ?_⟩
      · exact (Heap.get?_update_other _ _ (fun h : S = b => hSf (by rw [h]; exact hbf))).trans e
      · exact hR v' h'' tk' hP' fun b o hb e => hm'' b o hb ((Heap.get?_update_other _ _ (notS hb)).trans (hm b o (notW hb) e))
    | false =>
      simp only [Bool.false_eq_true, if_false]
      refine wpAny_bind (wpAny_letGo ?_)
      rw [maxD_name]
      refine wpAny_pure ⟨plainId_quiet F.plain_max_loop _, ih (j + 1) _ vb c (by omega) hlt hst' (by simp only [argBest, hb, Bool.false_eq_true, if_false]; exact hPb) hS' fun v' h'' tk' hP' hm'' => ?_⟩
      exact hR v' h'' tk' hP' fun b o hb e => hm'' b o hb (hm b o (notW hb) e)
/-- max of what an iterator gives, or its default -/
theorem call_max_d {x b : Value} {Q : Value → Shared → Prop}
    (h : wpAny (model prog w) A.in1 (pyIter x) (fun it s₂ => ∃ I fp wr n P St bt, it = .ref I ∧ Walks prog w A.in1 I fp wr n P St ∧ St 0 s₂.heap ∧ (∀ b ∈ fp, b < s₂.heap.objs.size) ∧ CmpOf prog w A.in1 .Gt P bt ∧
      ∀ v h' tk, (if n = 0 then v = b else P (argBest bt (n - 1)) v) → (∀ b o, b ∉ wr → s₂.heap.get? b = some o → h'.get? b = some o) → Q v { s₂ with heap := h', toks := tk }) E s) :
    wpAny (model prog w) A (call (.builtin "max") [x] (dkw b)) Q E s := by
  refine wpAny_call (codeAny_call_builtin F.plain_max F.entry_max ?_)
  rw [check_max_d]
  refine wpAny_pure ?_
  show wpAny _ A.in1 (Builtin.Builtins.bindParams "max" ["key", "default"] 0 ⟨[], dkw b⟩ >>= _) _ _ s
  refine wpAny_bind (wpAny_of_eq (show Builtin.Builtins.bindParams "max" ["key", "default"] 0 ⟨[], dkw b⟩ = pure [none, some b] from rfl) ?_)
  refine wpAny_bind (wpAny_pure ?_)
  refine wpAny_bind (wpAny_mono h (fun it s₂ h₂ => ?_) fun _ _ e => e)
  obtain ⟨I, fp, wr, n, P, St, bt, rfl, W, hst, hfp, hcmp, hQ⟩ := h₂
  refine wpAny_bind (wpAny_newObj_type ?_)
  have hSf : s₂.heap.objs.size ∉ fp := fun hm => Nat.lt_irrefl _ (hfp _ hm)
  have hSw : s₂.heap.objs.size ∉ wr := fun h => hSf (W.sub _ h)
  rw [maxD_name]
  refine wpAny_pure ⟨plainId_quiet F.plain_max_loop _, ?_⟩
  show codeAny _ _ (.builtin "max.loop" ⟨[.ref I, .none, .ref s₂.heap.objs.size], dkw b⟩) _ _
  have up : ∀ b o, s₂.heap.get? b = some o → (s₂.heap.push { cls := .type "list", dict := none, data := .seq ([] : List Value).toArray }).get? b = some o := fun b o e => Heap.get?_push_of_some _ e
  have hS0 : (s₂.heap.push { cls := .type "list", dict := none, data := .seq ([] : List Value).toArray }).get? s₂.heap.objs.size = some { cls := .type "list", dict := none, data := .seq #[], slots := #[] } := Heap.get?_push_size _ rfl
  have hst0 := W.frame 0 _ _ hst fun b _ o e => up b o e
  have old : ∀ {b : Addr} {o : Obj}, s₂.heap.get? b = some o → b ≠ s₂.heap.objs.size := fun e q => Nat.lt_irrefl _ (q ▸ Heap.lt_size e)
  refine codeAny_builtin F.entry_max_loop ?_
  rw [Around.under_plainId F.plain_max_loop _]
  show wpAny _ A.in1 (seqItems? (.ref s₂.heap.objs.size) >>= _) _ _ _
  refine wpAny_bind (wpAny_seqItems hS0 rfl ?_)
  show wpAny _ A.in1 (tryCatch (pyNext (.ref I)) _ >>= _) _ _ _
  by_cases hn : n = 0
  · subst hn
    refine wpAny_bind (wpAny_tryCatch (W.done _ _ _ hst0 fun h' tk hm => ?_))
    refine wpAny_bind (wpAny_rule ?_)
    refine wpAny_pure ?_
    exact hQ b h' tk (by rw [if_pos rfl]) fun b o hb e => hm b o hb (up b o e)
  · refine wpAny_bind (wpAny_tryCatch (W.item 0 _ _ _ (Nat.pos_of_ne_zero hn) hst0 fun v h' tk hP hst' hm => ?_))
    have hS' := hm _ _ hSw hS0
    refine wpAny_bind (wpAny_pure ?_)
    refine wpAny_bind (wpAny_updateSeq hS' rfl ?_)
    rw [maxD_name]
    refine wpAny_pure ⟨plainId_quiet F.plain_max_loop _, ?_⟩
    refine maxD_loop b W bt hcmp s₂.heap.objs.size hSf _ 0 _ v _ rfl (Nat.pos_of_ne_zero hn) (W.frame _ _ _ hst' fun b hbf o e => ?_) hP (Heap.get?_update_self _ hS' rfl) fun v' h'' tk' hP' hm'' => ?_
    · exact (Heap.get?_update_other _ _ (fun h : s₂.heap.objs.size = b => hSf (by rw [h]; exact hbf))).trans e
    · refine hQ v' h'' tk' (by rw [if_neg hn]; exact hP') fun b o hb e => hm'' b o (fun q => ?_) ((Heap.get?_update_other _ _ (Ne.symm (old e))).trans (hm b o hb (up b o e)))
      rcases List.mem_cons.mp q with q | q
      · exact old e q
      · exact hb q
end
end
section
open PySem PySem.W PyProof.Rows
set_option maxRecDepth 100000
set_option maxHeartbeats 8000000
/-- a table of lines: None, or a power of ten -/
inductive Pows : List (Int × Value) → List Nat → Prop
  | nil : Pows [] []
  | none (k : Int) {kvs es} : Pows kvs es → Pows ((k, .none) :: kvs) (0 :: es)
  | pow (k : Int) {e : Nat} (t : Tok) {kvs es} : 4 ≤ e → e ≤ 60 → Pows kvs es → Pows ((k, .int (10 ^ e) t) :: kvs) (e :: es)
def top : List Nat → Nat
  | [] => 0
  | e :: es => Nat.max e (top es)
def wid (es : List Nat) : Int := if top es = 0 then 0 else top es + 1
theorem Pows.plain {kvs : List (Int × Value)} {es : List Nat} (h : Pows kvs es) : Plain kvs := by
  induction h with
  | nil => exact fun p hp => absurd hp (List.not_mem_nil)
  | none k h ih => exact fun p hp => (List.mem_cons.mp hp).elim (fun e => .inl (by rw [e])) (ih p)
  | pow k t h1 h2 h ih =>
    intro p hp
    rcases List.mem_cons.mp hp with rfl | hp
    · exact .inr ⟨_, t, rfl, Int.ne_of_gt (Int.pow_pos (by decide))⟩
    · exact ih p hp
/-- what a live value is -/
theorem Pows.live {kvs : List (Int × Value)} {es : List Nat} (h : Pows kvs es) : ∀ v ∈ live kvs, ∃ e ∈ es, 4 ≤ e ∧ e ≤ 60 ∧ ∃ t, v = .int (10 ^ e) t := by
  intro v hv
  unfold Mine.live at hv
  induction h with
  | nil => simp at hv
  | none k h ih =>
    obtain ⟨e, he, r⟩ := ih (by simpa using hv)
    exact ⟨e, .tail _ he, r⟩
  | pow k t h1 h2 h ih =>
    rename_i e kvs es
    simp only [List.map_cons, ne_eq, reduceCtorEq, not_false_eq_true, decide_true, List.filter_cons_of_pos, List.mem_cons] at hv
    rcases hv with rfl | hv
    · exact ⟨e, .head _, h1, h2, t, rfl⟩
    · obtain ⟨e, he, r⟩ := ih (by simpa using hv)
      exact ⟨e, .tail _ he, r⟩
theorem Pows.seen {kvs : List (Int × Value)} {es : List Nat} (h : Pows kvs es) : ∀ e ∈ es, e ≠ 0 → ∃ t, .int (10 ^ e) t ∈ Mine.live kvs := by
  intro e he h0
  unfold Mine.live
  induction h with
  | nil => simp at he
  | none k h ih =>
    rcases List.mem_cons.mp he with rfl | he
    · exact absurd rfl h0
    · obtain ⟨t, ht⟩ := ih he
      exact ⟨t, by simpa using ht⟩
  | pow k t h1 h2 h ih =>
    simp only [List.map_cons, ne_eq, reduceCtorEq, not_false_eq_true, decide_true, List.filter_cons_of_pos, List.mem_cons]
    rcases List.mem_cons.mp he with rfl | he
    · exact ⟨t, .inl rfl⟩
    · obtain ⟨t, ht⟩ := ih he
      exact ⟨t, .inr (by simpa using ht)⟩
theorem top_ge {es : List Nat} : ∀ e ∈ es, e ≤ top es := by
  induction es with
  | nil => exact fun e he => by simp at he
  | cons x xs ih =>
    intro e he
    rcases List.mem_cons.mp he with rfl | he
    · exact Nat.le_max_left ..
    · exact Nat.le_trans (ih e he) (Nat.le_max_right ..)
theorem top_le {es : List Nat} {b : Nat} (h : ∀ e ∈ es, e ≤ b) : top es ≤ b := by
  induction es with
  | nil => exact Nat.zero_le _
  | cons x xs ih => exact Nat.max_le.mpr ⟨h x (.head _), ih fun e he => h e (.tail _ he)⟩
def vnum : Option Value → Int
  | some (.int x _) => x
  | _ => 0
theorem Pows.int {kvs : List (Int × Value)} {es : List Nat} (h : Pows kvs es) (i : Nat) (v : Value) (hv : (Mine.live kvs)[i]? = some v) : ∃ t, v = .int (vnum ((Mine.live kvs)[i]?)) t := by
  obtain ⟨e, _, _, _, t, rfl⟩ := h.live v (List.mem_of_getElem? hv)
  exact ⟨t, by rw [hv]; rfl⟩
/-- what max tells: -1, or the heaviest power -/
theorem Pows.max {kvs : List (Int × Value)} {es : List Nat} (h : Pows kvs es) {v : Value} {tb : Tok} (hv : if (Mine.live kvs).length = 0 then v = .int (-1) tb else (Mine.live kvs)[argBest (fun i j => decide (vnum ((Mine.live kvs)[i]?) > vnum ((Mine.live kvs)[j]?))) ((Mine.live kvs).length - 1)]? = some v) :
    (top es = 0 ∧ v = .int (-1) tb) ∨ (4 ≤ top es ∧ top es ≤ 60 ∧ ∃ t, v = .int (10 ^ top es) t) := by
  by_cases hn : (Mine.live kvs).length = 0
  · rw [if_pos hn] at hv
    refine .inl ⟨Nat.le_zero.mp (top_le fun e he => ?_), hv⟩
    by_cases h0 : e = 0
    · omega
    · obtain ⟨t, ht⟩ := h.seen e he h0
      rw [List.length_eq_zero_iff.mp hn] at ht
      simp at ht
  · rw [if_neg hn] at hv
    obtain ⟨h1, h2⟩ := argBest_gt (fun i => vnum ((Mine.live kvs)[i]?)) ((Mine.live kvs).length - 1)
    obtain ⟨e, he, h4, h60, t, rfl⟩ := h.live v (List.mem_of_getElem? hv)
    have hle : ∀ e' ∈ es, e' ≤ e := by
      intro e' he'
      by_cases h0 : e' = 0
      · omega
      · obtain ⟨t', ht'⟩ := h.seen e' he' h0
        obtain ⟨i, hi, hx⟩ := List.getElem_of_mem ht'
        have q := h2 i (by omega)
        rw [hv, List.getElem?_eq_getElem hi, hx] at q
        have q' : (10 : Int) ^ e' ≤ 10 ^ e := q
        have q'' : (10 : Nat) ^ e' ≤ 10 ^ e := by exact_mod_cast q'
        exact (Nat.pow_le_pow_iff_right (by decide)).mp q''
    have : top es = e := Nat.le_antisymm (top_le hle) (top_ge e he)
    exact .inr ⟨by omega, by omega, t, by rw [this]⟩
theorem pow_len {e : Nat} (h : e ≤ 60) : (Str.ofString (toString ((10 : Int) ^ e))).length = e + 1 ∧ ((10 : Int) ^ e).natAbs.log2 < 1920 ∧ ((10 : Int) ^ e == -1) = false := by
  have q : ((List.range 61).all fun e => decide ((Str.ofString (toString ((10 : Int) ^ e))).length = e + 1 ∧ ((10 : Int) ^ e).natAbs.log2 < 1920 ∧ ((10 : Int) ^ e == -1) = false)) = true := by decide +kernel
  exact of_decide_eq_true (List.all_eq_true.mp q e (List.mem_range.mpr (by omega)))
end
section
open PySem PySem.W PyProof.Rows
set_option maxRecDepth 100000
set_option maxHeartbeats 8000000
theorem dictAt_of {prog : Program} {w : World} {K : Type} [DecidableEq K] {knd : KeyKind prog w K} {h : Heap} {d : Addr} {od : Obj} {kvs : List (K × Value)} (ho : h.get? d = some od) (hd : od.IsDictOf knd kvs) : ∃ ep, h.DictAt knd d kvs ep := by
  obtain ⟨es, ep, r⟩ := hd
  exact ⟨ep, od, es, ho, r⟩
section
variable {w : World} {mg mb : Str → Option Value} {mean : ExcName → Option Value} {dp un : Nat} {gd : Option (List Code)} {cn : Str} {cs : Scope} {a : Addr} {ccd : Value} {cl : List (Str × Addr)} {outer : List Env} {A₀ : Around} {base h₀ : Heap} {L : Addr} {m : Str → Option Value} {news : List (Addr × Obj)} {s : Shared} {Q E : Value → Shared → Prop}
theorem width_spec (B : Below A₀ base outer h₀) (F : Fr h₀ L s.heap m) (X : (hd.heap_39 w.params).In h₀) (N : News h₀ L s.heap news) (T : Top hd.view_39 (looseW hd.view_39 [Str.ofString "length_hint"]) mean mg mb h₀) (hk : cs.kind = .function) (hdp : dp + 3 < recursionLimit)
  {d : Addr} {od : Obj} {kvs : List (Int × Value)} {es : List Nat} (hm : (d, od) ∈ news) (hdk : Obj.IsDictOf (PySem.intKind PySem.Challenge.rw_yf0015_01.row.prog w) od kvs) (hns : (d == sysModules) = false) (hes : Pows kvs es)
  (hret : ∀ t h' tk', Fr h₀ L h' m → News h₀ L h' news → Q (.int (wid es) t) { s with heap := h', toks := tk' }) :
  wpAny (model PySem.Challenge.rw_yf0015_01.row.prog w) (ktrTop dp un gd cn cs L a ccd cl outer) (call (.ref 21) [.ref d]) Q E s := by
  w_top off
  k_with_none
  (k_with "k_room" => ((simp only [depth_under_make, depth_under_kw, depth_in1, depth_deeper, depth_caller, ktrTop, recursionLimit] at *; omega)))
  (k_with "k_all" => (first | assumption | exact all_ne (by assumption) (Nat.le_refl _) | (refine all_ne' (by with_reducible assumption) ?_; omega) | (refine all_ne (by with_reducible assumption) ?_; omega)))
  (k_with "getMethod ref" => (refine Stop.mk ?_))
  (k_with "call builtin:max" => (refine Stop.mk ?_))
  revert X; k_fill; intro X
  refine wpAny_call ?_
  k_dflt (refine' code_def ?k1 ?k2 ?k3 ?k4 ?k5 ?kA ?kF ?kK ?k6 ?k7 ?k8 ?k9 ?kB ?_ ?c2 ?c3 ?c4 ?c5; (case kA => exact rfl); (case kF => exact rfl); (case kK => assumption); (case k1 => k_asm); (case k2 => k_asm); (case k3 => k_asm); (case k4 => k_asm); (case k5 => k_asm); (case k6 => k_is); (case k7 => k_is); (case k8 => k_room); (case k9 => first | exact BindsTo.of_eq rfl | (refine' kp_binds ?kx ?ke; (case kx => k_in); (case ke => exact fun _ => rfl))); (case c5 => decide); (case kB => exact locs rfl); (case c2 => exact rfl); (case c3 => exact rfl); (case c4 => exact rfl); k_whole; intro g' L' h' FG' F' N' B' X' T'; (try dsimp only); (try k_lift B'); (try k_fold))
  k_steps
  unfold Stop
  rename Fr _ _ _ _ => F1
  rename News _ _ _ _ => N1
  refine kdl_method (knd := PySem.intKind _ _) PySem.F.slot_dict_values PySem.F.type_dict_values N1 hm hdk ?_
  refine callWith_method0 ?_
  refine kta_callValues (knd := PySem.intKind _ _) F1 N1 hm hdk hns ?_
  intro h1 hv1 F1 N1
  dsimp only
  k_steps
  obtain ⟨ep, hD1⟩ := dictAt_of (N1 _ hm).1 hdk
  refine call_filter hv1 hD1 ?_
  have F2 := (F1.push { cls := .type "dict_valueiterator", data := .fields #[.ref d, .int 0 0, .int kvs.length 0, .int ep 0] }).push { cls := .type "filter", data := .fields #[.none, .ref h1.objs.size] }
  have N2 := (N1.pushKeep { cls := .type "dict_valueiterator", data := .fields #[.ref d, .int 0 0, .int kvs.length 0, .int ep 0] }).pushKeep { cls := .type "filter", data := .fields #[.none, .ref h1.objs.size] }
  dsimp only

  k_steps
  unfold Stop
  have z1 : IsFilt (filtH2 h1 d kvs.length ep) (h1.objs.size + 1) h1.objs.size := by
    have g := Heap.get?_push_size (filtH1 h1 d kvs.length ep) (o := { cls := .type "filter", data := .fields #[.none, .ref h1.objs.size] }) rfl
    have e : (filtH1 h1 d kvs.length ep).objs.size = h1.objs.size + 1 := Heap.size_push ..
    rw [e] at g
    exact g
  have z2 : Heap.IsValIter (filtH2 h1 d kvs.length ep) h1.objs.size d 0 kvs.length ep := ⟨_, Heap.get?_push_of_some _ (Heap.get?_push_size _ rfl), rfl, rfl⟩
  have z3 : Heap.DictAt (PySem.intKind PySem.Challenge.rw_yf0015_01.row.prog w) (filtH2 h1 d kvs.length ep) d kvs ep := hD1.at' fun o e => Heap.get?_push_of_some _ (Heap.get?_push_of_some _ e)
  have hne : h1.objs.size + 1 ≠ h1.objs.size := by omega
  have hdl : d < h1.objs.size := Heap.lt_size (N1 _ hm).1
  refine call_max_d ?_
  refine (Walks_filter rfl hne (Nat.ne_of_lt hdl) hes.plain).self 0 _ _ _ ⟨z1, ⟨0, Nat.zero_le _, z2, rfl⟩, z3⟩ ?_
  refine ⟨_, _, _, _, _, _, _, rfl, Walks_filter rfl hne (Nat.ne_of_lt hdl) hes.plain, ⟨z1, ⟨0, Nat.zero_le _, z2, rfl⟩, z3⟩, ?_, CmpOf.ints_gt (fun i => vnum ((live kvs)[i]?)) hes.int, fun v h2 tk hP hk2 => ?_⟩
  · intro b hb
    have e : (filtH2 h1 d kvs.length ep).objs.size = h1.objs.size + 1 + 1 := (Heap.size_push ..).trans (congrArg (· + 1) (Heap.size_push ..))
    show b < (filtH2 h1 d kvs.length ep).objs.size
    rw [e]
    simp only [List.mem_cons, List.not_mem_nil, or_false] at hb
    rcases hb with rfl | rfl | rfl
    · exact Nat.lt_succ_self _
    · exact Nat.lt_succ_of_lt (Nat.lt_succ_self _)
    · exact Nat.lt_succ_of_lt (Nat.lt_succ_of_lt hdl)
  have up : ∀ b o, h1.get? b = some o → h2.get? b = some o := fun b o e => hk2 b o (fun q => Nat.lt_irrefl _ ((List.mem_singleton.mp q) ▸ Heap.lt_size e)) (Heap.get?_push_of_some _ (Heap.get?_push_of_some _ e))
  replace F2 := F1.keeps up
  replace N2 := News.grown N1 up
  rcases hes.max hP with ⟨h0, rfl⟩ | ⟨h4, h60, t', rfl⟩
  · dsimp only
    k_steps
    have q := hret tk
    unfold wid at q
    rw [if_pos h0] at q
    exact q _ _ (by assumption) (by assumption)
  · dsimp only
    k_steps
    · rename (10 : Int) ^ top es = -1 => hx
      have := (pow_len h60).2.2
      rw [hx] at this
      cases this
    refine P.str_of_int (pow_len h60).2.1 ?_
    k_steps
    refine P.len_str (by rw [(pow_len h60).1]; omega) ?_
    rw [(pow_len h60).1]
    k_steps
    unfold Stop
    rename Fr _ _ _ _ => F3
    rename News _ _ _ _ => N3
    refine max_two_ints rfl ?_
    intro h3 tk3 up3
    replace F3 := F3.keeps up3
    replace N3 := News.grown N3 up3
    rw [if_pos (by omega)]
    dsimp only
    k_steps
    have e : wid es = ((top es + 1 : Nat) : Int) := by
      unfold wid
      rw [if_neg (by omega)]
      rfl
    rename Fr h₀ _ _ _ => kF
    rename News h₀ _ _ _ => kN
    have q := hret
    rw [e] at q
    exact q _ _ _ kF kN
end
end
section
open PySem PySem.W PyProof.Rows
set_option maxRecDepth 100000
set_option maxHeartbeats 8000000
/-- what a list of lists holds -/
def RowAt (tl : List (Addr × Obj)) (v : Value) (ns : List Int) : Prop := ∃ r vs n, v = .ref r ∧ (r, listOf vs.toArray n) ∈ tl ∧ IntsAre vs ns
inductive RowsAre (tl : List (Addr × Obj)) : List Value → List (List Int) → Prop
  | nil : RowsAre tl [] []
  | cons {v ns vs rows} : RowAt tl v ns → RowsAre tl vs rows → RowsAre tl (v :: vs) (ns :: rows)
def RowsAt (tl : List (Addr × Obj)) (v : Value) (rows : List (List Int)) : Prop := ∃ l vs n, v = .ref l ∧ (l, listOf vs.toArray n) ∈ tl ∧ RowsAre tl vs rows
theorem RowAt.mono {tl tl' : List (Addr × Obj)} {v : Value} {ns : List Int} (h : RowAt tl v ns) (hs : ∀ p ∈ tl, p ∈ tl') : RowAt tl' v ns := let ⟨r, vs, n, e, hm, hi⟩ := h; ⟨r, vs, n, e, hs _ hm, hi⟩
theorem RowsAre.mono {tl tl' : List (Addr × Obj)} {vs : List Value} {rows : List (List Int)} (h : RowsAre tl vs rows) (hs : ∀ p ∈ tl, p ∈ tl') : RowsAre tl' vs rows := by
  induction h with
  | nil => exact .nil
  | cons h _ ih => exact .cons (h.mono hs) ih
theorem RowsAt.mono {tl tl' : List (Addr × Obj)} {v : Value} {rows : List (List Int)} (h : RowsAt tl v rows) (hs : ∀ p ∈ tl, p ∈ tl') : RowsAt tl' v rows := let ⟨r, vs, n, e, hm, hi⟩ := h; ⟨r, vs, n, e, hs _ hm, hi.mono hs⟩
theorem RowsAre.get {tl : List (Addr × Obj)} {vs : List Value} {rows : List (List Int)} (h : RowsAre tl vs rows) : ∀ (k : Nat) (ns : List Int), rows[k]? = some ns → ∃ v, vs[k]? = some v ∧ RowAt tl v ns := by
  induction h with
  | nil => intro k ns e; simp at e
  | cons h _ ih =>
    intro k ns e
    cases k with
    | zero => simp at e; subst e; exact ⟨_, rfl, h⟩
    | succ k => simpa using ih k ns (by simpa using e)
theorem RowsAre.length {tl : List (Addr × Obj)} {vs : List Value} {rows : List (List Int)} (h : RowsAre tl vs rows) : vs.length = rows.length := by
  induction h with
  | nil => rfl
  | cons _ _ ih => simp [ih]
theorem RowsAre.snoc {tl : List (Addr × Obj)} {vs : List Value} {rows : List (List Int)} {v : Value} {ns : List Int} (h : RowsAre tl vs rows) (hv : RowAt tl v ns) : RowsAre tl (vs ++ [v]) (rows ++ [ns]) := by
  induction h with
  | nil => exact .cons hv .nil
  | cons h _ ih => exact .cons h ih
theorem RowsAre.last {tl : List (Addr × Obj)} : ∀ {vs : List Value} {rows : List (List Int)} {ns : List Int}, RowsAre tl vs (rows ++ [ns]) → ∃ vs' r, vs = vs' ++ [.ref r] ∧ RowAt tl (.ref r) ns := by
  intro vs rows
  induction rows generalizing vs with
  | nil =>
    intro ns h
    cases h with
    | cons h1 h2 =>
      cases h2
      obtain ⟨r, _, _, rfl, _⟩ := id h1
      exact ⟨[], r, rfl, h1⟩
  | cons x xs ih =>
    intro ns h
    cases h with
    | cons h1 h2 =>
      obtain ⟨vs', r, rfl, hr⟩ := ih h2
      exact ⟨_ :: vs', r, rfl, hr⟩
theorem ints_snoc {vs : List Value} {ns : List Int} {n : Int} {t : Tok} (h : IntsAre vs ns) : IntsAre (vs ++ [.int n t]) (ns ++ [n]) := IntsAre.append h (.cons _ _ .nil)
section
variable {prog : Program} {w : World} {A : Around} {E : Value → Shared → Prop} {s : Shared} {h₀ : Heap} {L : Addr} {led tl : List (Addr × Obj)}
theorem item_at {value slice : PySem.Expr} {l : Addr} {vs : List Value} {n : Nat} {k : Nat} {u : Tok} {v : Value} {Q : Value → Shared → Prop} (N : News h₀ L s.heap led) (hm : (l, listOf vs.toArray n) ∈ led) (hk : k < 2 ^ 62) (hv : vs[k]? = some v) (h : Q v s)
    (hs : subscripted slice false (.ref l) (.int (k : Int) u) = operate [.ref l, .int (k : Int) u] (getItem (.ref l) (.int (k : Int) u)) := by with_unfolding_all rfl) :
    wpAny (model prog w) A (subscriptTail value slice (.ref l) (.int (k : Int) u)) Q E s := by
  have hl : s.heap.IsList l vs.toArray := ⟨_, (N _ hm).1, rfl, n, rfl⟩
  have hk' : (k : Int) < 2 ^ 63 := by omega
  exact tail_any hl.typeIs slot_list_getitem.lookup (wpAny_getItem_list hl (Int.natCast_nonneg k) hk' (by simpa using hv) h) hs
theorem row_item {value slice : PySem.Expr} {l : Addr} {ns : List Int} {k : Nat} {u : Tok} {x : Int} {Q : Value → Shared → Prop} (N : News h₀ L s.heap led) (R : RowAt tl (.ref l) ns) (hsub : ∀ p ∈ tl, p ∈ led) (hk : k < 2 ^ 62) (hv : ns[k]? = some x) (h : ∀ t, Q (.int x t) s)
    (hs : subscripted slice false (.ref l) (.int (k : Int) u) = operate [.ref l, .int (k : Int) u] (getItem (.ref l) (.int (k : Int) u)) := by with_unfolding_all rfl) :
    wpAny (model prog w) A (subscriptTail value slice (.ref l) (.int (k : Int) u)) Q E s := by
  obtain ⟨r, vs, n, e, hm, hi⟩ := R
  cases e
  obtain ⟨t, ht⟩ := hi.get k x hv
  exact item_at N (hsub _ hm) hk ht (h t) hs
theorem rows_item {value slice : PySem.Expr} {l : Addr} {rows : List (List Int)} {ns : List Int} {k : Nat} {u : Tok} {Q : Value → Shared → Prop} (N : News h₀ L s.heap led) (R : RowsAt tl (.ref l) rows) (hsub : ∀ p ∈ tl, p ∈ led) (hk : k < 2 ^ 62) (hv : rows[k]? = some ns) (h : ∀ r, RowAt tl (.ref r) ns → Q (.ref r) s)
    (hs : subscripted slice false (.ref l) (.int (k : Int) u) = operate [.ref l, .int (k : Int) u] (getItem (.ref l) (.int (k : Int) u)) := by with_unfolding_all rfl) :
    wpAny (model prog w) A (subscriptTail value slice (.ref l) (.int (k : Int) u)) Q E s := by
  obtain ⟨r, vs, n, e, hm, hi⟩ := R
  cases e
  obtain ⟨v, ht, hr⟩ := hi.get k ns hv
  obtain ⟨r', _, _, rfl, _⟩ := id hr
  exact item_at N (hsub _ hm) hk ht (h _ hr) hs
theorem item_last {value slice : PySem.Expr} {l : Addr} {vs : List Value} {n : Nat} {u : Tok} {v : Value} {Q : Value → Shared → Prop} (N : News h₀ L s.heap led) (hm : (l, listOf (vs ++ [v]).toArray n) ∈ led) (h : Q v s)
    (hs : subscripted slice false (.ref l) (.int (-1) u) = operate [.ref l, .int (-1) u] (getItem (.ref l) (.int (-1) u)) := by with_unfolding_all rfl) :
    wpAny (model prog w) A (subscriptTail value slice (.ref l) (.int (-1) u)) Q E s := by
  have hl : s.heap.IsList l (vs ++ [v]).toArray := ⟨_, (N _ hm).1, rfl, n, rfl⟩
  have e : ((-1 : Int) + ((vs ++ [v]).toArray.size : Int)).toNat = vs.length := by
    simp only [List.size_toArray, List.length_append, List.length_cons, List.length_nil]; omega
  refine tail_any hl.typeIs slot_list_getitem.lookup (wpAny_getItem_list_neg hl (by decide) ?_ (by decide) ?_ h) hs
  · simp only [List.size_toArray, List.length_append, List.length_cons, List.length_nil]; omega
  · rw [e]; simp
end
section
variable {h₀ h : Heap} {L : Addr} {m : Str → Option Value}
theorem kstB_same {ps : List (Str × Value)} (hp : ∀ p ∈ ps, m p.1 = some p.2) : kstB m ps = m := by
  funext y
  exact kstB_eq hp fun _ => rfl
theorem fr_ps {ps : List (Str × Value)} (hp : ∀ p ∈ ps, m p.1 = some p.2) (F : Fr h₀ L h m) : Fr h₀ L h (kstB m ps) := by rw [kstB_same hp]; exact F
end
/-- the loop's state: names' values and a ledger -/
def InvJ (Inv : Nat → List (Str × Value) → List (Addr × Obj) → Prop) (i : Nat) (m : Str → Option Value) (nx : List (Addr × Obj)) : Prop := ∃ ps, (∀ p ∈ ps, m p.1 = some p.2) ∧ Inv i ps nx
theorem inv_end {Inv : Nat → List (Str × Value) → List (Addr × Obj) → Prop} {i : Nat} {h₀ : Heap} {L : Addr} {m' : Str → Option Value} {own news' : List (Addr × Obj)} {s₁ : Shared} {h' : Heap} {tk : Nat} (F : Fr h₀ L h' m') (N : News h₀ L h' news') (ps : List (Str × Value)) (nx : List (Addr × Obj))
    (hi : Inv i ps nx) (hp : ∀ p ∈ ps, m' p.1 = some p.2) (ha : ∀ p ∈ own, ∀ q ∈ nx, p.1 ≠ q.1) (hn : ∀ p ∈ nx, p ∈ news') (ho : ∀ p ∈ own, p ∈ news') :
    InvEndG h₀ L (InvJ Inv i) own s₁ { s₁ with heap := h', toks := tk } :=
  InvEndG.intro F N ⟨ps, hp, hi⟩ (fun p hp b hb => by obtain ⟨q, hq, rfl⟩ := List.mem_map.mp hb; exact ha p hp q hq) hn ho
theorem apart_of {own nx nx₀ : List (Addr × Obj)} (ha : ∀ p ∈ own, ∀ q ∈ nx₀, p.1 ≠ q.1) (e : nx.map (·.1) = nx₀.map (·.1)) : ∀ p ∈ own, ∀ q ∈ nx, p.1 ≠ q.1 := by
  intro p hp q hq
  have h1 : q.1 ∈ nx₀.map (·.1) := e ▸ List.mem_map.mpr ⟨q, hq, rfl⟩
  obtain ⟨r, hr, e'⟩ := List.mem_map.mp h1
  rw [← e']
  exact ha p hp r hr
theorem inv_endA {Inv : Nat → List (Str × Value) → List (Addr × Obj) → Prop} {i : Nat} {h₀ : Heap} {L : Addr} {m' : Str → Option Value} {own news' nx₀ : List (Addr × Obj)} {s₁ : Shared} {h' : Heap} {tk : Nat} (F : Fr h₀ L h' m') (N : News h₀ L h' news') (ps : List (Str × Value)) (nx : List (Addr × Obj))
    (hi : Inv i ps nx) (hp : ∀ p ∈ ps, m' p.1 = some p.2) (ha : ∀ p ∈ own, ∀ q ∈ nx₀, p.1 ≠ q.1) (e : nx.map (·.1) = nx₀.map (·.1)) (hn : ∀ p ∈ nx, p ∈ news') (ho : ∀ p ∈ own, p ∈ news') :
    InvEndG h₀ L (InvJ Inv i) own s₁ { s₁ with heap := h', toks := tk } := inv_end F N ps nx hi hp (apart_of ha e) hn ho
section
variable {prog : Program} {w : World} {A : Around} {E : Value → Shared → Prop} {s : Shared} {env : Env} {h₀ : Heap} {x : Str} {body : List Stmt} {Q : Flow → Shared → Prop}
theorem range_loop (Inv : Nat → List (Str × Value) → List (Addr × Obj) → Prop) {r : Addr} {n : Nat} {t₀ u₀ v₀ : Tok} {m₀ : Str → Option Value} {news : List (Addr × Obj)} (ps : List (Str × Value)) (nx : List (Addr × Obj))
    (hh : A.handled = none) (hr : IsRange s.heap r 0 (n : Int) 1 t₀ u₀ v₀) (hsmall : Builtin.Range.small 0 n 1 = true) (F : Fr h₀ env.locals s.heap m₀) (N : News h₀ env.locals s.heap news) (hs : ∀ p ∈ nx, p ∈ news) (hp : ∀ p ∈ ps, m₀ p.1 = some p.2) (hi : Inv 0 ps nx)
    (turn : ∀ i t ps m₁ nx h tk own, i < n → (∀ p ∈ own, ∀ q ∈ nx, p.1 ≠ q.1) → Inv i ps nx → Fr h₀ env.locals h (fun y => if y = x then some (.int (i : Int) t) else kstB m₁ ps y) → News h₀ env.locals h (nx ++ own) →
      wpAny (model prog w) A (execs body env) (InvPostG h₀ env.locals (InvJ Inv (i + 1)) own { s with heap := h, toks := tk } Q) E { s with heap := h, toks := tk })
    (done : ∀ ps m₁ nx h tk, Inv n ps nx → Fr h₀ env.locals h (kstB m₁ ps) → News h₀ env.locals h nx → Q .next { s with heap := h, toks := tk }) :
    wpAny (model prog w) A (pyIter (.ref r)) (fun it s₂ => LoopAtV prog w A h₀ env x body Q E it s₂) E s := by
  refine wpAny_pyIter_range hr hsmall ?_
  have hsz : Builtin.Range.rangeSize 0 (n : Int) 1 = (n : Int) := by rw [rangeSize_one]; split <;> omega
  have W : Walks prog w A s.heap.objs.size [s.heap.objs.size] [s.heap.objs.size] n (fun i v => i < n ∧ ∃ t, v = .int (0 + i * 1) t)
      (fun i h => IsRangeIter h s.heap.objs.size (0 + (i : Nat) * 1) ((n : Int) - (i : Nat)) 1) := (Walks.range hh _ 0 1 n).bound
  refine kdr_loop (InvJ Inv) W (fun _ h => h) (fun _ h => h) ?_ ?_ ?_ ?_ (by show IsRangeIter _ _ _ _ _; rw [hsz]; simpa using Heap.get?_push_size _ rfl) (F.push _) (fun p hp => ⟨Heap.get?_push_of_some _ (N p (hs p hp)).1, (N p (hs p hp)).2⟩) ⟨ps, hp, hi⟩ ?_ ?_
  · intro i h hi b hb
    rw [List.mem_singleton.mp hb]
    exact ⟨_, hi⟩
  · intro hm
    exact absurd F.ns.lt ((List.mem_singleton.mp hm) ▸ Nat.lt_irrefl _)
  · intro b hb
    rw [List.mem_singleton.mp hb]
    exact next_is_new F
  · intro p hp hI
    exact absurd (Heap.lt_size (N p (hs p hp)).1) ((List.mem_singleton.mp hI) ▸ Nat.lt_irrefl _)
  · rintro i v m₁ nx h tk own hi ⟨_, t, rfl⟩ hoff ⟨ps, hp, hinv⟩ F₁ N₁
    have e1 : 0 + (i : Int) * 1 = (i : Int) := by omega
    rw [e1] at F₁
    refine turn i t ps m₁ nx h tk own hi (fun p hp q hq => hoff p hp q.1 (List.mem_map.mpr ⟨q, hq, rfl⟩)) hinv ?_ N₁
    rw [kstB_same hp]
    exact F₁
  · rintro m₁ nx h tk ⟨ps, hp, hinv⟩ F₁ N₁
    exact done ps m₁ nx h tk hinv (by rw [kstB_same hp]; exact F₁) N₁
end
end
section
open PySem PySem.W PyProof.Rows
set_option maxRecDepth 100000
set_option maxHeartbeats 8000000
def eAt (M : Nat → Nat → Nat) (W : Nat → Nat) (j i : Nat) : Nat := if W i ≠ 0 ∧ M i j ≠ 0 then W i - 1 + M i j else 0
def wnat (es : List Nat) : Nat := if top es = 0 then 0 else top es + 1
def Wd (M : Nat → Nat → Nat) : Nat → Nat → Nat
  | 0, _ => 4
  | k + 1, j => wnat ((List.range 4).map (eAt M (Wd M k) j))
def rowR (M : Nat → Nat → Nat) (k : Nat) : List Int := (List.range 4).map fun j => (Wd M k j : Int)
def matR (M : Nat → Nat → Nat) : List (List Int) := (List.range 4).map fun i => (List.range 4).map fun j => (M i j : Int)
theorem wid_nat (es : List Nat) : wid es = (wnat es : Int) := by
  unfold wid wnat
  split <;> simp
theorem Wd_small {M : Nat → Nat → Nat} (hM : ∀ i j, M i j ≤ 12) : ∀ k j, Wd M k j = 0 ∨ (4 ≤ Wd M k j ∧ Wd M k j ≤ 4 + 12 * k) := by
  intro k
  induction k with
  | zero => intro j; exact .inr ⟨Nat.le_refl _, Nat.le_refl _⟩
  | succ k ih =>
    intro j
    show wnat _ = 0 ∨ (4 ≤ wnat _ ∧ wnat _ ≤ 4 + 12 * (k + 1))
    unfold wnat
    by_cases h0 : top ((List.range 4).map (eAt M (Wd M k) j)) = 0
    · rw [if_pos h0]; exact .inl rfl
    · rw [if_neg h0]
      refine .inr ?_
      have hall : ∀ e ∈ (List.range 4).map (eAt M (Wd M k) j), e = 0 ∨ (4 ≤ e ∧ e ≤ 3 + 12 * (k + 1)) := by
        intro e he
        obtain ⟨i, _, rfl⟩ := List.mem_map.mp he
        unfold eAt
        split
        · rename_i hc
          rcases ih i with h | h
          · exact absurd h hc.1
          · have := hM i j
            exact .inr (by omega)
        · exact .inl rfl
      have h1 : top ((List.range 4).map (eAt M (Wd M k) j)) ≤ 3 + 12 * (k + 1) := top_le fun e he => by rcases hall e he with h | h <;> omega
      have h2 : 4 ≤ top ((List.range 4).map (eAt M (Wd M k) j)) := by
        apply Decidable.byContradiction
        intro hn
        refine h0 (Nat.le_zero.mp (top_le fun e he => ?_))
        have h3 := top_ge e he
        rcases hall e he with h | h <;> omega
      omega
theorem eAt_small {M : Nat → Nat → Nat} (hM : ∀ i j, M i j ≤ 12) {k : Nat} (hk : k ≤ 3) (i j : Nat) (hW : Wd M k i ≠ 0) (hm : M i j ≠ 0) : eAt M (Wd M k) j i = Wd M k i - 1 + M i j ∧ 4 ≤ Wd M k i ∧ 4 ≤ eAt M (Wd M k) j i ∧ eAt M (Wd M k) j i ≤ 60 := by
  have e : eAt M (Wd M k) j i = Wd M k i - 1 + M i j := by unfold eAt; rw [if_pos ⟨hW, hm⟩]
  have := hM i j
  rcases Wd_small hM k i with h | h
  · exact absurd h hW
  · rw [e]; omega
theorem Pows.len {kvs : List (Int × Value)} {es : List Nat} (h : Pows kvs es) : kvs.length = es.length := by
  induction h with
  | nil => rfl
  | none _ _ ih => simp [ih]
  | pow _ _ _ _ _ ih => simp [ih]
theorem Pows.snoc_none {kvs : List (Int × Value)} {es : List Nat} (h : Pows kvs es) (k : Int) : Pows (kvs ++ [(k, .none)]) (es ++ [0]) := by
  induction h with
  | nil => exact .none k .nil
  | none k' _ ih => exact .none k' ih
  | pow k' t h1 h2 _ ih => exact .pow k' t h1 h2 ih
theorem Pows.snoc_pow {kvs : List (Int × Value)} {es : List Nat} (h : Pows kvs es) (k : Int) {e : Nat} {t : Tok} (h4 : 4 ≤ e) (h60 : e ≤ 60) : Pows (kvs ++ [(k, .int (10 ^ e) t)]) (es ++ [e]) := by
  induction h with
  | nil => exact .pow k t h4 h60 .nil
  | none k' _ ih => exact .none k' ih
  | pow k' t h1 h2 _ ih => exact .pow k' t h1 h2 ih
theorem pow_fits {e : Nat} (h : e ≤ 60) : ¬ Builtin.Int.intTooBig (((Builtin.Int.intBits 10 : Nat) : Int) * (e : Int)) = true := by
  have q : ((List.range 61).all fun e => decide (¬ Builtin.Int.intTooBig (((Builtin.Int.intBits 10 : Nat) : Int) * ((e : Nat) : Int)) = true)) = true := by decide +kernel
  exact of_decide_eq_true (List.all_eq_true.mp q e (List.mem_range.mpr (by omega)))
def Upto (kvs : List (Int × Value)) (k : Nat) : Prop := ∀ p ∈ kvs, p.1 < (k : Int)
theorem stored_new {kvs : List (Int × Value)} {k : Nat} (h : Upto kvs k) (v : Value) : stored kvs (k : Int) v = kvs ++ [((k : Int), v)] := by
  unfold stored
  rw [if_neg]
  intro q
  obtain ⟨p, hp, e⟩ := List.any_eq_true.mp q
  have := h p hp
  simp at e
  omega
theorem stored_again {kvs : List (Int × Value)} {k : Nat} (h : Upto kvs k) (x v : Value) : stored (kvs ++ [((k : Int), x)]) (k : Int) v = kvs ++ [((k : Int), v)] := by
  unfold stored
  rw [if_pos (by simp)]
  rw [List.map_append]
  congr 1
  · rw [List.map_congr_left (g := id)]
    · simp
    · intro p hp
      have := h p hp
      rw [if_neg (by omega)]
      rfl
  · simp
theorem Upto.snoc {kvs : List (Int × Value)} {k : Nat} (h : Upto kvs k) (v : Value) : Upto (kvs ++ [((k : Int), v)]) (k + 1) := by
  intro p hp
  rcases List.mem_append.mp hp with hp | hp
  · have := h p hp
    show p.1 < ((k + 1 : Nat) : Int)
    omega
  · rw [List.mem_singleton.mp hp]
    show (k : Int) < ((k + 1 : Nat) : Int)
    omega
theorem matR_row {M : Nat → Nat → Nat} {i : Nat} (hi : i < 4) : (matR M)[i]? = some ((List.range 4).map fun j => (M i j : Int)) := by
  unfold matR
  rw [List.getElem?_map, List.getElem?_range hi]; rfl
theorem rng_at {f : Nat → Int} {n i : Nat} (hi : i < n) : ((List.range n).map f)[i]? = some (f i) := by
  rw [List.getElem?_map, List.getElem?_range hi]; rfl
theorem rng_snoc {α : Type} {f : Nat → α} {n : Nat} : (List.range (n + 1)).map f = (List.range n).map f ++ [f n] := by
  rw [List.range_succ, List.map_append]; rfl
end
section
open PySem PySem.W PyProof.Rows
set_option maxRecDepth 100000
set_option maxHeartbeats 800000
section
variable {w : World} {mg mb : Str → Option Value} {mean : ExcName → Option Value} {dp un : Nat} {gd : Option (List Code)} {cn : Str} {cs : Scope} {a : Addr} {ccd : Value} {cl : List (Str × Addr)} {outer : List Env} {A₀ : Around} {base h₀ : Heap} {L : Addr} {m : Str → Option Value} {news : List (Addr × Obj)} {s : Shared} {Q E : Value → Shared → Prop}
inductive IOut (l R : Addr) (M : Nat → Nat → Nat) (news : List (Addr × Obj)) (i : Nat) (ps : List (Str × Value)) (nx : List (Addr × Obj)) : Prop
  | mk (vs : List Value) (c : Nat) (add : List (Addr × Obj)) (eps : ps = [(Str.ofString "lengths", .ref l), (Str.ofString "rows", .ref R)]) (enx : nx = (R, listOf vs.toArray c) :: (add ++ news)) (hR : ∀ p ∈ add ++ news, p.1 ≠ R) (hRn : ∀ q ∈ news, q.1 < R) (hadd : ∀ q ∈ news, ∀ p ∈ add, q.1 < p.1) (hvs : RowsAre add vs ((List.range (i + 1)).map (rowR M))) : IOut l R M news i ps nx
inductive IMid (l R row : Addr) (oR : Obj) (M : Nat → Nat → Nat) (i : Nat) (T : List (Addr × Obj)) (j : Nat) (ps : List (Str × Value)) (nx : List (Addr × Obj)) : Prop
  | mk (vs : List Value) (c : Nat) (eps : ps = [(Str.ofString "lengths", .ref l), (Str.ofString "rows", .ref R), (Str.ofString "row", .ref row)]) (enx : nx = (row, listOf vs.toArray c) :: (R, oR) :: T) (hvs : IntsAre vs ((List.range j).map fun j => (Wd M (i + 1) j : Int))) : IMid l R row oR M i T j ps nx
inductive IIn (prog : Program) (w : World) (l R row d : Addr) (oR orow : Obj) (M : Nat → Nat → Nat) (i j : Nat) (tj : Tok) (T : List (Addr × Obj)) (k : Nat) (ps : List (Str × Value)) (nx : List (Addr × Obj)) : Prop
  | mk (kvs : List (Int × Value)) (od : Obj) (eps : ps = [(Str.ofString "lengths", .ref l), (Str.ofString "rows", .ref R), (Str.ofString "row", .ref row), (Str.ofString "goal", .int (j : Int) tj), (Str.ofString "lines", .ref d)]) (enx : nx = (d, od) :: (row, orow) :: (R, oR) :: T) (hd : Obj.IsDictOf (PySem.intKind prog w) od kvs) (hup : Upto kvs k) (hp : Pows kvs ((List.range k).map (eAt M (Wd M i) j))) : IIn prog w l R row d oR orow M i j tj T k ps nx
theorem widths_spec (B : Below A₀ base outer h₀) (F : Fr h₀ L s.heap m) (X : (hd.heap_39 w.params).In h₀) (N : News h₀ L s.heap news) (T : Top hd.view_39 (looseW hd.view_39 [Str.ofString "length_hint"]) mean mg mb h₀) (hk : cs.kind = .function) (hdp : dp + 4 < recursionLimit)
  {l : Addr} {M : Nat → Nat → Nat} (hM : ∀ i j, M i j ≤ 12) (hl : RowsAt news (.ref l) (matR M))
  (hret : ∀ r tl h' tk', Fr h₀ L h' m → News h₀ L h' (tl ++ news) → (∀ q ∈ news, ∀ p ∈ tl, q.1 < p.1) → RowsAt tl r ((List.range 5).map (rowR M)) → Q r { s with heap := h', toks := tk' }) :
  wpAny (model PySem.Challenge.rw_yf0015_01.row.prog w) (ktrTop dp un gd cn cs L a ccd cl outer) (call (.ref 116) [.ref l]) Q E s := by
  w_top off
  k_with_none
  (k_with "k_room" => ((simp only [depth_under_make, depth_under_kw, depth_in1, depth_deeper, depth_caller, ktrTop, recursionLimit] at *; omega)))
  (k_with "k_all" => (first | assumption | exact all_ne (by assumption) (Nat.le_refl _) | (refine all_ne' (by with_reducible assumption) ?_; omega) | (refine all_ne (by with_reducible assumption) ?_; omega)))
  (k_with "exec For" => (refine Stop.mk ?_))
  (k_with "exec For Name Call cons nil" => (refine Stop.mk ?_))
  (k_with "pyIter ref" => (refine Stop.mk ?_))
  (k_with "InvPostG" => (refine Stop.mk ?_))
  (k_with "subscriptTail" => ((first
    | ((with_reducible show wpAny _ _ (subscriptTail _ _ _ (Value.int (-1) _)) _ _ _); (refine item_last (by with_reducible assumption) (by k_mem) ?_))
    | ((with_reducible show wpAny _ _ (subscriptTail _ _ _ (Value.int (Nat.cast _) _)) _ _ _); (refine row_item (by with_reducible assumption) (by assumption) (by (intro p hp; (repeat' (first | exact hp | exact List.mem_append_left _ hp | (rcases List.mem_cons.mp hp with rfl | hp) | exact List.mem_cons_self | apply List.mem_cons_of_mem)))) (by omega) (rng_at (by assumption)) ?_); intro _)
    | ((with_reducible show wpAny _ _ (subscriptTail _ _ _ (Value.int (Nat.cast _) _)) _ _ _); (refine rows_item (by with_reducible assumption) (by assumption) (by (intro p hp; (repeat' (first | exact hp | exact List.mem_append_left _ hp | (rcases List.mem_cons.mp hp with rfl | hp) | exact List.mem_cons_self | apply List.mem_cons_of_mem)))) (by omega) (matR_row (by assumption)) ?_); intro _ _))))
  (k_with "call ref" => ((with_reducible show wpAny _ _ (call (Value.ref 21) _ _) _ _ _); (refine Stop.mk ?_)))
  (k_with "call builtin:list.append" => (refine Stop.mk ?_))
  (k_with "setItem ref int" => (refine Stop.mk ?_))
  revert X; k_fill; intro X
  refine wpAny_call ?_
  k_dflt (refine' code_def ?k1 ?k2 ?k3 ?k4 ?k5 ?kA ?kF ?kK ?k6 ?k7 ?k8 ?k9 ?kB ?_ ?c2 ?c3 ?c4 ?c5; (case kA => exact rfl); (case kF => exact rfl); (case kK => assumption); (case k1 => k_asm); (case k2 => k_asm); (case k3 => k_asm); (case k4 => k_asm); (case k5 => k_asm); (case k6 => k_is); (case k7 => k_is); (case k8 => k_room); (case k9 => first | exact BindsTo.of_eq rfl | (refine' kp_binds ?kx ?ke; (case kx => k_in); (case ke => exact fun _ => rfl))); (case c5 => decide); (case kB => exact locs rfl); (case c2 => exact rfl); (case c3 => exact rfl); (case c4 => exact rfl); k_whole; intro g' L' h' FG' F' N' B' X' T'; (try dsimp only); (try k_lift B'); (try k_fold))
  k_steps
  unfold Stop
  rename Fr _ _ _ _ => F1
  rename_i r0 _ l0 R _ l1 _ _
  refine For_invVF F1 (by rfl) (by rfl) ?_
  k_steps
  unfold Stop
  rename Fr _ _ _ _ => F2
  rename News _ _ _ _ => N2
  rename IsRange _ _ _ _ _ _ _ _ => R2
  refine range_loop (n := 4) (IOut l R M news) [(Str.ofString "lengths", .ref l), (Str.ofString "rows", .ref R)] _ rfl R2 (by decide) F2 N2 (fun p hp => hp) ?hp ?hi ?turn ?done
  case hp => (repeat' (first | exact List.forall_mem_nil _ | (refine List.forall_mem_cons.mpr ⟨rfl, ?_⟩)))
  case hi => exact ⟨[.ref r0], _, [_], rfl, rfl, (fun p hp => by rcases List.mem_cons.mp hp with rfl | hp; exact Nat.ne_of_lt l1.1; exact Nat.ne_of_lt (allLt_get l1.2 p hp)), (fun q hq => allLt_get l1.2 q hq), (fun q hq p hp => by rw [List.mem_singleton.mp hp]; exact l0 q hq), .cons ⟨r0, _, _, rfl, .head _, .cons _ _ (.cons _ _ (.cons _ _ (.cons _ _ .nil)))⟩ .nil⟩
  case done =>
    rintro ps m₁ nx h tk ⟨vs, c, add, rfl, rfl, hR, hRn, hadd, hvs⟩ F3 N3
    k_steps
    rename Fr h₀ _ _ _ => F8
    rename News h₀ _ _ _ => N8
    exact hret (.ref R) ((R, _) :: add) _ _ F8 N8 (fun q hq p hp => by rcases List.mem_cons.mp hp with rfl | hp; exact hRn q hq; exact hadd q hq p hp) ⟨R, vs, c, rfl, .head _, hvs.mono fun p hp => .tail _ hp⟩
  case turn =>
    rintro i t ps m₁ nx h tk own hi hown ⟨vs, c, add, rfl, rfl, hR, hRn, hadd, hvs⟩ F3 N3
    clear F2 N2 R2
    rw [List.cons_append, List.append_assoc] at N3
    have hR' : ∀ p ∈ add ++ (news ++ own), p.1 ≠ R := by
      intro p hp
      rcases List.mem_append.mp hp with hp | hp
      · exact hR p (List.mem_append_left _ hp)
      · rcases List.mem_append.mp hp with hp | hp
        · exact hR p (List.mem_append_right _ hp)
        · exact hown p hp _ (.head _)
    have hlT : RowsAt (add ++ (news ++ own)) (.ref l) (matR M) := hl.mono fun p hp => List.mem_append_right _ (List.mem_append_left _ hp)
    have hvT : RowsAre (add ++ (news ++ own)) vs ((List.range (i + 1)).map (rowR M)) := hvs.mono fun p hp => List.mem_append_left _ hp
    generalize hT : add ++ (news ++ own) = T at N3 hR' hlT hvT
    have hvl := hvT
    rw [rng_snoc] at hvl
    obtain ⟨vs', rl, hvs', hrl⟩ := hvl.last
    subst hvs'
    k_steps
    unfold Stop
    rename Fr _ _ _ _ => F1
    rename_i row _ _ _ lrow _ N1
    refine For_invVF F1 (by rfl) (by rfl) ?_
    k_steps
    unfold Stop
    rename Fr _ _ _ _ => F2
    rename News _ _ _ _ => N2
    rename IsRange _ _ _ _ _ _ _ _ => R2
    refine range_loop (n := 4) (IMid l R row (listOf (vs' ++ [PySem.Value.ref rl]).toArray c) M i T) [(Str.ofString "lengths", .ref l), (Str.ofString "rows", .ref R), (Str.ofString "row", .ref row)] _ rfl R2 (by decide) F2 N2 (fun p hp => hp) ?hp2 ?hi2 ?turn2 ?done2
    case hp2 => (repeat' (first | exact List.forall_mem_nil _ | (refine List.forall_mem_cons.mpr ⟨rfl, ?_⟩)))
    case hi2 => exact ⟨[], _, rfl, rfl, .nil⟩
    case done2 =>
      rintro ps m₂ nx h tk ⟨vs2, c2, rfl, rfl, hvs2⟩ F4 N4
      clear F2 N2 R2
      have hRrow : @Ne Nat R row := Nat.ne_of_lt lrow.1
      k_steps
      unfold Stop
      rename Fr _ _ _ _ => F8
      rename News _ _ _ _ => N8
      refine append_K F8 N8 (.tail (Ne.symm hRrow) (.head hR')) ?_ (by rw [List.size_toArray, hvT.length, List.length_map, List.length_range]; exact Nat.le_trans (Nat.succ_le_of_lt hi) (by rw [sizeLine_eq]; decide))
      intro h9 F9 N9
      rw [List.push_toArray] at N9
      dsimp only at N9 ⊢
      k_steps
      unfold Stop
      rename Fr _ _ _ _ => F10
      rename News _ _ _ _ => N10
      subst hT
      refine inv_end F10 N10 [(Str.ofString "lengths", .ref l), (Str.ofString "rows", .ref R)] ((R, listOf ((vs' ++ [PySem.Value.ref rl]) ++ [PySem.Value.ref row]).toArray (c + 1)) :: (((row, listOf vs2.toArray c2) :: add) ++ news)) ⟨(vs' ++ [PySem.Value.ref rl]) ++ [PySem.Value.ref row], _, (row, listOf vs2.toArray c2) :: add, rfl, rfl, ?_, hRn, ?_, ?_⟩ (by (repeat' (first | exact List.forall_mem_nil _ | (refine List.forall_mem_cons.mpr ⟨rfl, ?_⟩)))) ?_ ?_ ?_
      · intro p hp
        rcases List.mem_cons.mp hp with rfl | hp
        · exact Ne.symm hRrow
        · exact hR p hp
      · intro q hq p hp
        rcases List.mem_cons.mp hp with rfl | hp
        · exact allLt_get lrow.2 q (List.mem_append_right _ (List.mem_append_left _ hq))
        · exact hadd q hq p hp
      · rw [rng_snoc]
        exact (hvs.mono fun p hp => .tail _ hp).snoc ⟨row, vs2, c2, rfl, .head _, hvs2⟩
      · intro p hp q hq
        rcases List.mem_cons.mp hq with rfl | hq
        · exact hown p hp (R, listOf (vs' ++ [PySem.Value.ref rl]).toArray c) (.head _)
        rcases List.mem_cons.mp hq with rfl | hq
        · exact Nat.ne_of_lt (allLt_get lrow.2 p (List.mem_append_right _ (List.mem_append_right _ hp)))
        · exact hown p hp _ (.tail _ hq)
      · intro p hp
        rcases List.mem_cons.mp hp with rfl | hp
        · exact .tail _ (.head _)
        rcases List.mem_cons.mp hp with rfl | hp
        · exact .head _
        · refine .tail _ (.tail _ ?_)
          rcases List.mem_append.mp hp with hp | hp
          · exact List.mem_append_left _ hp
          · exact List.mem_append_right _ (List.mem_append_left _ hp)
      · exact fun p hp => .tail _ (.tail _ (List.mem_append_right _ (List.mem_append_right _ hp)))
    case turn2 =>
      rintro j tj ps m₂ nx h tk own2 hj hown2 ⟨vs2, c2, rfl, rfl, hvs2⟩ F4 N4
      clear F2 N2 R2
      rw [List.cons_append, List.cons_append] at N4
      have hR2 : ∀ p ∈ T ++ own2, p.1 ≠ R := fun p hp => (List.mem_append.mp hp).elim (hR' p) fun hp => hown2 p hp _ (.tail _ (.head _))
      have hrow2 : ∀ p ∈ T ++ own2, p.1 ≠ row := fun p hp => (List.mem_append.mp hp).elim (fun hp => Nat.ne_of_lt (allLt_get lrow.2 p hp)) fun hp => hown2 p hp _ (.head _)
      have hRrow : @Ne Nat R row := Nat.ne_of_lt lrow.1
      have hlT2 : RowsAt (T ++ own2) (.ref l) (matR M) := hlT.mono fun p hp => List.mem_append_left _ hp
      have hrl2 : RowAt (T ++ own2) (.ref rl) (rowR M i) := hrl.mono fun p hp => List.mem_append_left _ hp
      generalize hT2 : T ++ own2 = T2 at N4 hR2 hrow2 hlT2 hrl2
      k_steps
      unfold Stop
      rename Fr _ _ _ _ => F1
      rename_i d _ od _ _ dlo _ _ did _ ldr _ _
      refine For_invVF F1 (by rfl) (by rfl) ?_
      k_steps
      unfold Stop
      rename Fr _ _ _ _ => F2
      rename News _ _ _ _ => N2
      rename IsRange _ _ _ _ _ _ _ _ => R2
      refine range_loop (n := 4) (IIn PySem.Challenge.rw_yf0015_01.row.prog w l R row d (listOf (vs' ++ [PySem.Value.ref rl]).toArray c) (listOf vs2.toArray c2) M i j tj T2) [(Str.ofString "lengths", .ref l), (Str.ofString "rows", .ref R), (Str.ofString "row", .ref row), (Str.ofString "goal", .int (j : Int) tj), (Str.ofString "lines", .ref d)] _ rfl R2 (by decide) F2 N2 (fun p hp => hp) ?hp3 ?hi3 ?turn3 ?done3
      case hp3 => (repeat' (first | exact List.forall_mem_nil _ | (refine List.forall_mem_cons.mpr ⟨rfl, ?_⟩)))
      case hi3 => exact ⟨[], _, rfl, rfl, did, (fun p hp => nomatch hp), .nil⟩
      case done3 =>
        rintro ps m₃ nx h tk ⟨kvs, od3, rfl, rfl, hd3, hup, hpow⟩ F5 N5
        clear F2 N2 R2
        have hRd : @Ne Nat R d := Nat.ne_of_lt ldr.2.1
        have hrd : @Ne Nat row d := Nat.ne_of_lt ldr.1
        have hd2 : ∀ p ∈ T2, p.1 ≠ d := fun p hp => Nat.ne_of_lt (allLt_get ldr.2.2 p hp)
        k_steps
        unfold Stop
        rename Fr _ _ _ _ => F6
        rename News _ _ _ _ => N6
        rename Below _ _ _ _ => B6
        rename Frag.In _ _ => X6
        rename Top _ _ _ _ _ _ => T6
        refine width_spec B6 F6 X6 N6 T6 rfl (by show dp + 1 + 3 < recursionLimit; omega) (.head _) hd3 dlo hpow ?_
        intro t7 h7 tk7 F7 N7
        rw [wid_nat]
        dsimp only
        k_steps
        unfold Stop
        rename Fr _ _ _ _ => F8
        rename News _ _ _ _ => N8
        refine append_K F8 N8 (.tail (Ne.symm hrd) (.head (List.forall_mem_cons.mpr ⟨hRrow, hrow2⟩))) ?_ (by rw [List.size_toArray, hvs2.length, List.length_map, List.length_range]; exact Nat.le_trans (Nat.le_of_lt hj) (by rw [sizeLine_eq]; decide))
        intro h9 F9 N9
        rw [List.push_toArray] at N9
        dsimp only at N9 ⊢
        k_steps
        unfold Stop
        rename Fr _ _ _ _ => F10
        rename News _ _ _ _ => N10
        subst hT2
        refine inv_endA F10 N10 [(Str.ofString "lengths", .ref l), (Str.ofString "rows", .ref R), (Str.ofString "row", .ref row)] ((row, listOf (vs2 ++ [PySem.Value.int (wnat ((List.range 4).map (eAt M (Wd M i) j)) : Int) t7]).toArray (c2 + 1)) :: (R, _) :: T) ⟨vs2 ++ [PySem.Value.int (wnat ((List.range 4).map (eAt M (Wd M i) j)) : Int) t7], _, rfl, rfl, ?_⟩ (by (repeat' (first | exact List.forall_mem_nil _ | (refine List.forall_mem_cons.mpr ⟨rfl, ?_⟩)))) hown2 rfl ?_ ?_
        · rw [rng_snoc (f := fun j => ((Wd M (i + 1) j : Nat) : Int))]
          exact ints_snoc hvs2
        · intro p hp
          rcases List.mem_cons.mp hp with rfl | hp
          · exact .tail _ (.head _)
          rcases List.mem_cons.mp hp with rfl | hp
          · exact .tail _ (.tail _ (.head _))
          exact .tail _ (.tail _ (.tail _ (List.mem_append_left _ hp)))
        · exact fun p hp => .tail _ (.tail _ (.tail _ (List.mem_append_right _ hp)))
      case turn3 =>
        rintro k tk3 ps m₃ nx h tk own3 hk3 hown3 ⟨kvs, od3, rfl, rfl, hd3, hup, hpow⟩ F5 N5
        clear F2 N2 R2
        rw [List.cons_append, List.cons_append, List.cons_append] at N5
        have hR3 : ∀ p ∈ T2 ++ own3, p.1 ≠ R := fun p hp => (List.mem_append.mp hp).elim (hR2 p) fun hp => hown3 p hp _ (.tail _ (.tail _ (.head _)))
        have hrow3 : ∀ p ∈ T2 ++ own3, p.1 ≠ row := fun p hp => (List.mem_append.mp hp).elim (hrow2 p) fun hp => hown3 p hp _ (.tail _ (.head _))
        have hd3' : ∀ p ∈ T2 ++ own3, p.1 ≠ d := fun p hp => (List.mem_append.mp hp).elim (fun hp => Nat.ne_of_lt (allLt_get ldr.2.2 p hp)) fun hp => hown3 p hp _ (.head _)
        have hRd : @Ne Nat R d := Nat.ne_of_lt ldr.2.1
        have hrd : @Ne Nat row d := Nat.ne_of_lt ldr.1
        have hlT3 : RowsAt (T2 ++ own3) (.ref l) (matR M) := hlT2.mono fun p hp => List.mem_append_left _ hp
        have hrl3 : RowAt (T2 ++ own3) (.ref rl) (rowR M i) := hrl2.mono fun p hp => List.mem_append_left _ hp
        generalize hT3 : T2 ++ own3 = T3 at N5 hR3 hrow3 hd3' hlT3 hrl3
        k_steps
        unfold Stop
        refine kda_set F5 N5 (UpdF.head (List.forall_mem_cons.mpr ⟨hrd, List.forall_mem_cons.mpr ⟨hRd, hd3'⟩⟩)) hd3 (intKind_is _ _ _ _) (by rw [hpow.len, List.length_map, List.length_range]; exact Nat.le_trans (Nat.le_of_lt hk3) (by rw [sizeLine_eq]; decide)) ?_
        intro h6 od4 F6 N6 hd4
        rw [stored_new hup] at hd4
        dsimp only at N6 ⊢
        k_steps
        · have hW0 : Wd M i k ≠ 0 := by
            have z : ((Wd M i k : Nat) : Int) ≠ 0 := by assumption
            omega
          have hM0 : M k j ≠ 0 := by
            have z : ((M k j : Nat) : Int) ≠ 0 := by assumption
            omega
          obtain ⟨he, hw4, he4, he60⟩ := eAt_small hM (Nat.le_of_lt_succ hi) k j hW0 hM0
          have ez : ((Wd M i k : Nat) : Int) - 1 + ((M k j : Nat) : Int) = ((eAt M (Wd M i) j k : Nat) : Int) := by rw [he]; omega
          rw [ez]
          refine PySem.AutoIntOps.ipow_4 (by omega) (by simp; omega) (by decide) (by decide) (pow_fits he60) ?_
          rw [Int.toNat_natCast]
          generalize heE : eAt M (Wd M i) j k = e0 at *
          dsimp only [Made.post]
          k_steps
          unfold Stop
          rename Fr _ _ _ _ => F8
          rename News _ _ _ _ => N8
          refine kda_set F8 N8 (UpdF.head (List.forall_mem_cons.mpr ⟨hrd, List.forall_mem_cons.mpr ⟨hRd, hd3'⟩⟩)) hd4 (intKind_is _ _ _ _) (by rw [List.length_append, hpow.len, List.length_map, List.length_range, List.length_singleton]; exact Nat.le_trans (Nat.succ_le_of_lt hk3) (by rw [sizeLine_eq]; decide)) ?_
          intro h9 od5 F9 N9 hd5
          rw [stored_again hup] at hd5
          dsimp only at N9 ⊢
          k_steps
          unfold Stop
          rename Fr _ _ _ _ => F8
          rename News _ _ _ _ => N8
          subst hT3
          refine inv_endA F8 N8 [(Str.ofString "lengths", .ref l), (Str.ofString "rows", .ref R), (Str.ofString "row", .ref row), (Str.ofString "goal", .int (j : Int) tj), (Str.ofString "lines", .ref d)] (_ :: (row, _) :: (R, _) :: T2) ⟨_, _, rfl, rfl, hd5, hup.snoc _, ?_⟩ (by (repeat' (first | exact List.forall_mem_nil _ | (refine List.forall_mem_cons.mpr ⟨rfl, ?_⟩)))) hown3 rfl (by intro p hp; rcases List.mem_cons.mp hp with rfl | hp; exact .head _; rcases List.mem_cons.mp hp with rfl | hp; exact .tail _ (.head _); rcases List.mem_cons.mp hp with rfl | hp; exact .tail _ (.tail _ (.head _)); exact .tail _ (.tail _ (.tail _ (List.mem_append_left _ hp)))) (fun p hp => .tail _ (.tail _ (.tail _ (List.mem_append_right _ hp))))
          rw [rng_snoc, heE]
          exact hpow.snoc_pow _ he4 he60
        · have he0 : eAt M (Wd M i) j k = 0 := by
            unfold eAt
            rw [if_neg (fun q => ?_)]
            have z : ((M k j : Nat) : Int) = 0 := by assumption
            exact q.2 (by omega)
          unfold Stop
          rename Fr _ _ _ _ => F8
          rename News _ _ _ _ => N8
          subst hT3
          refine inv_endA F8 N8 [(Str.ofString "lengths", .ref l), (Str.ofString "rows", .ref R), (Str.ofString "row", .ref row), (Str.ofString "goal", .int (j : Int) tj), (Str.ofString "lines", .ref d)] (_ :: (row, _) :: (R, _) :: T2) ⟨_, _, rfl, rfl, hd4, hup.snoc _, ?_⟩ (by (repeat' (first | exact List.forall_mem_nil _ | (refine List.forall_mem_cons.mpr ⟨rfl, ?_⟩)))) hown3 rfl (by intro p hp; rcases List.mem_cons.mp hp with rfl | hp; exact .head _; rcases List.mem_cons.mp hp with rfl | hp; exact .tail _ (.head _); rcases List.mem_cons.mp hp with rfl | hp; exact .tail _ (.tail _ (.head _)); exact .tail _ (.tail _ (.tail _ (List.mem_append_left _ hp)))) (fun p hp => .tail _ (.tail _ (.tail _ (List.mem_append_right _ hp))))
          rw [rng_snoc, he0]
          exact hpow.snoc_none _
        · have he0 : eAt M (Wd M i) j k = 0 := by
            unfold eAt
            rw [if_neg (fun q => ?_)]
            have z : ((Wd M i k : Nat) : Int) = 0 := by assumption
            exact q.1 (by omega)
          unfold Stop
          rename Fr _ _ _ _ => F8
          rename News _ _ _ _ => N8
          subst hT3
          refine inv_endA F8 N8 [(Str.ofString "lengths", .ref l), (Str.ofString "rows", .ref R), (Str.ofString "row", .ref row), (Str.ofString "goal", .int (j : Int) tj), (Str.ofString "lines", .ref d)] (_ :: (row, _) :: (R, _) :: T2) ⟨_, _, rfl, rfl, hd4, hup.snoc _, ?_⟩ (by (repeat' (first | exact List.forall_mem_nil _ | (refine List.forall_mem_cons.mpr ⟨rfl, ?_⟩)))) hown3 rfl (by intro p hp; rcases List.mem_cons.mp hp with rfl | hp; exact .head _; rcases List.mem_cons.mp hp with rfl | hp; exact .tail _ (.head _); rcases List.mem_cons.mp hp with rfl | hp; exact .tail _ (.tail _ (.head _)); exact .tail _ (.tail _ (.tail _ (List.mem_append_left _ hp)))) (fun p hp => .tail _ (.tail _ (.tail _ (List.mem_append_right _ hp))))
          rw [rng_snoc, he0]
          exact hpow.snoc_none _

end
end
section
open PySem PySem.W PyProof.Rows
set_option maxRecDepth 100000
set_option maxHeartbeats 8000000
inductive All2 {α : Type} (R : Value → α → Prop) : List Value → List α → Prop
  | nil : All2 R [] []
  | cons {v x vs xs} : R v x → All2 R vs xs → All2 R (v :: vs) (x :: xs)
section
variable {α : Type} {R R' : Value → α → Prop}
theorem All2.mono {vs : List Value} {xs : List α} (h : All2 R vs xs) (hs : ∀ v x, R v x → R' v x) : All2 R' vs xs := by
  induction h with
  | nil => exact .nil
  | cons h _ ih => exact .cons (hs _ _ h) ih
theorem All2.length {vs : List Value} {xs : List α} (h : All2 R vs xs) : vs.length = xs.length := by
  induction h with
  | nil => rfl
  | cons _ _ ih => simp [ih]
theorem All2.snoc {vs : List Value} {xs : List α} {v : Value} {x : α} (h : All2 R vs xs) (hv : R v x) : All2 R (vs ++ [v]) (xs ++ [x]) := by
  induction h with
  | nil => exact .cons hv .nil
  | cons h _ ih => exact .cons h ih
theorem All2.at {vs : List Value} {xs : List α} (h : All2 R vs xs) : ∀ (i : Nat) (v : Value), vs[i]? = some v → ∃ x, xs[i]? = some x ∧ R v x := by
  induction h with
  | nil => intro i v e; simp at e
  | cons h _ ih =>
    intro i v e
    cases i with
    | zero => simp at e; subst e; exact ⟨_, rfl, h⟩
    | succ i => simpa using ih i v (by simpa using e)
theorem All2.get {vs : List Value} {xs : List α} (h : All2 R vs xs) : ∀ (i : Nat) (x : α), xs[i]? = some x → ∃ v, vs[i]? = some v ∧ R v x := by
  induction h with
  | nil => intro i v e; simp at e
  | cons h _ ih =>
    intro i v e
    cases i with
    | zero => simp at e; subst e; exact ⟨_, rfl, h⟩
    | succ i => simpa using ih i v (by simpa using e)
end
section
variable {prog : Program} {w : World} {A : Around} {E : Value → Shared → Prop} {s : Shared} {env : Env} {h₀ : Heap} {target : Expr} {body : List Stmt} {Q : Flow → Shared → Prop}
/-- a for over a list of the ledger that stays -/
theorem list_turns (Inv : Nat → List (Str × Value) → List (Addr × Obj) → Prop) {l : Addr} {vs : List Value} {c : Nat} {m₀ : Str → Option Value} {news : List (Addr × Obj)} (ps : List (Str × Value)) (nx : List (Addr × Obj))
    (hh : A.handled = none) (hl : ∀ i ps nx, Inv i ps nx → (l, listOf vs.toArray c) ∈ nx) (F : Fr h₀ env.locals s.heap m₀) (N : News h₀ env.locals s.heap news) (hs : ∀ p ∈ nx, p ∈ news) (hp : ∀ p ∈ ps, m₀ p.1 = some p.2) (hi : Inv 0 ps nx)
    (turn : ∀ i v ps m₁ nx h tk own, vs[i]? = some v → (∀ p ∈ own, ∀ q ∈ nx, p.1 ≠ q.1) → Inv i ps nx → Fr h₀ env.locals h (kstB m₁ ps) → News h₀ env.locals h (nx ++ own) →
      wpAny (model prog w) A (assign target env v) (fun _ s₃ => wpAny (model prog w) A (execs body env) (InvPostG h₀ env.locals (InvJ Inv (i + 1)) own { s with heap := h, toks := tk } Q) E s₃) E { s with heap := h, toks := tk })
    (done : ∀ ps m₁ nx h tk, Inv vs.length ps nx → Fr h₀ env.locals h (kstB m₁ ps) → News h₀ env.locals h nx → Q .next { s with heap := h, toks := tk }) :
    wpAny (model prog w) A (pyIter (.ref l)) (fun it s₂ => TurnsAt prog w A h₀ env target body Q E it s₂) E s := by
  have hol : s.heap.get? l = some (listOf vs.toArray c) := (N _ (hs _ (hl _ _ _ hi))).1
  have hls : s.heap.IsList l vs.toArray := ⟨_, hol, rfl, c, rfl⟩
  have hne : l ≠ s.heap.objs.size := Nat.ne_of_lt (Heap.lt_size hol)
  have hlL : l ≠ env.locals := (N _ (hs _ (hl _ _ _ hi))).2.1
  refine wpAny_pyIter_list hls ?_
  have hlen : vs.toArray.size = vs.length := by simp
  have W := KTurns.ofWalks (target := target) (Walks.list (prog := prog) (w := w) hh s.heap.objs.size l hne vs.toArray) fun i v s Q E st q => letGo_listiter st.1 q
  rw [hlen] at W
  refine ⟨_, _, _, vs.length, _, _, _, m₀, nx, InvJ Inv, rfl, W, ?_, ?_, ?_, ⟨⟨_, Heap.get?_push_size _ rfl, rfl, rfl⟩, hls.at fun o e => Heap.get?_push_of_some _ e⟩, F.push _, (fun p hp => ⟨Heap.get?_push_of_some _ (N p (hs p hp)).1, (N p (hs p hp)).2⟩), ⟨ps, hp, hi⟩, ?_, ?_⟩
  · intro hm
    rcases List.mem_cons.mp hm with e | hm
    · exact absurd F.ns.lt (e ▸ Nat.lt_irrefl _)
    · exact hlL ((List.mem_singleton.mp hm).symm)
  · intro b hb
    rw [List.mem_singleton.mp hb]
    exact next_is_new F
  · intro p hp hI
    exact absurd (Heap.lt_size (N p (hs p hp)).1) ((List.mem_singleton.mp hI) ▸ Nat.lt_irrefl _)
  · rintro i v m₁ nx₁ hh' tk' own hin hP ⟨ps₁, hps, hinv⟩ hoff hown hget hfp hst F₁ N₁
    have hP' : vs[i]? = some v := by simpa using hP
    have hI0 : h₀.get? s.heap.objs.size = none := next_is_new F
    obtain ⟨⟨oI, hoI, _⟩, _⟩ := id hst
    have hIown : (s.heap.objs.size, oI) ∈ own.filter fun p => decide (p.1 = s.heap.objs.size) := List.mem_filter.mpr ⟨hfp _ (List.mem_cons.mpr (.inl rfl)) hI0 _ hoI, by simp⟩
    have hsep : ∀ p ∈ own.filter fun p => decide (p.1 = s.heap.objs.size), ∀ q ∈ nx₁, p.1 ≠ q.1 := by
      intro p hp q hq e
      have h1 : p.1 = s.heap.objs.size := by simpa using (List.mem_filter.mp hp).2
      exact hoff q hq (List.mem_singleton.mpr (e ▸ h1))
    have N₂ : News h₀ env.locals hh' (nx₁ ++ own.filter fun p => decide (p.1 = s.heap.objs.size)) := fun p hp => N₁ p ((List.mem_append.mp hp).elim (fun h => List.mem_append.mpr (.inr h)) fun h => List.mem_append.mpr (.inl ((List.mem_filter.mp h).1)))
    have hl₁ := hl _ _ _ hinv
    have hlo : hh'.get? l = some (listOf vs.toArray c) := (N₁ _ (List.mem_append.mpr (.inr hl₁))).1
    have fin : ∀ s₂, InvEndG h₀ env.locals (InvJ Inv (i + 1)) (own.filter fun p => decide (p.1 = s.heap.objs.size)) { s with heap := hh', toks := tk' } s₂ →
        LoopStepU h₀ env.locals [s.heap.objs.size] own (InvJ Inv (i + 1)) { s with heap := hh', toks := tk' } .next s₂ := by
      rintro s₂ ⟨h', tk, m', news', nx', e, F', N', hn, ho, ha, hm⟩
      refine ⟨rfl, h', tk, m', nx', e, F', fun p hp => ?_, fun p hp hq => ?_, hm⟩
      · rcases List.mem_append.mp hp with h | h
        · by_cases hI : p.1 = s.heap.objs.size
          · exact N' p (ho p (List.mem_filter.mpr ⟨h, by simpa using hI⟩))
          · have h1 : p.1 = l := by
              rcases List.mem_cons.mp (hown p h) with h2 | h2
              · exact absurd h2 hI
              · exact List.mem_singleton.mp h2
            have h2 : hh'.get? p.1 = some p.2 := hget p h
            rw [h1, hlo] at h2
            have h3 : p = (l, listOf vs.toArray c) := Prod.ext h1 (Option.some.inj h2).symm
            rw [h3]
            obtain ⟨ps', _, hinv'⟩ := hm
            exact N' _ (hn _ (hl _ _ _ hinv'))
        · exact N' p (hn p h)
      · exact ha _ hIown p.1 (List.mem_map.mpr ⟨p, hp, rfl⟩) (List.mem_singleton.mp hq).symm
    refine wpAny_mono (turn i v ps₁ m₁ nx₁ hh' tk' _ hP' hsep hinv (by rw [kstB_same hps]; exact F₁) N₂) (fun _ s₃ q => wpAny_mono q (fun f s₂ p => ?_) fun _ _ e => e) fun _ _ e => e
    cases f with
    | ret v => exact .ret p
    | brk => exact .brk p
    | next => exact .next (fin _ p)
    | cont => exact .cont (fin _ p)
  · rintro h' tk m' nx' F' N' _ ⟨ps', hps', hinv'⟩
    exact done ps' m' nx' h' tk hinv' (by rw [kstB_same hps']; exact F') N'
/-- a while whose state is told by a number that falls -/
theorem while_loop (Inv : Nat → List (Str × Value) → List (Addr × Obj) → Prop) {test : Expr} {pos : Pos} {n₀ : Nat} {m₀ : Str → Option Value} {news : List (Addr × Obj)} (ps : List (Str × Value)) (nx : List (Addr × Obj))
    (F : Fr h₀ env.locals s.heap m₀) (N : News h₀ env.locals s.heap news) (hs : ∀ p ∈ nx, p ∈ news) (hp : ∀ p ∈ ps, m₀ p.1 = some p.2) (hi : Inv n₀ ps nx)
    (turn : ∀ n ps m₁ nx h tk, Inv n ps nx → Fr h₀ env.locals h (kstB m₁ ps) → News h₀ env.locals h nx →
      wpAny (model prog w) A (isTrue test env (eval test env)) (fun b s₂ =>
        if b = true then wpAny (model prog w) A (execs body env) (WhileStep h₀ env.locals s (InvJ Inv) n) E s₂ else Q .next s₂) E { s with heap := h, toks := tk })
    (hE : PassesOwn (model prog w) A env E := by passes_own) :
    wpAny (model prog w) A (exec (.While test body [] pos) env) Q E s := by
  refine While_inv (InvJ Inv) F (fun p hp => N p (hs p hp)) ⟨ps, hp, hi⟩ ?_ hE
  rintro n m₁ nx₁ h₁ tk₁ F₁ N₁ ⟨ps₁, hps, hinv⟩
  exact turn n ps₁ m₁ nx₁ h₁ tk₁ hinv (by rw [kstB_same hps]; exact F₁) N₁
theorem while_end {Inv : Nat → List (Str × Value) → List (Addr × Obj) → Prop} {n n' : Nat} {L : Addr} {m' : Str → Option Value} {news' : List (Addr × Obj)} {h' : Heap} {tk : Nat} (F : Fr h₀ L h' m') (N : News h₀ L h' news') (ps : List (Str × Value)) (nx : List (Addr × Obj))
    (hi : Inv n' ps nx) (hlt : n' < n) (hp : ∀ p ∈ ps, m' p.1 = some p.2) (hn : ∀ p ∈ nx, p ∈ news') : WhileStep h₀ L s (InvJ Inv) n .next { s with heap := h', toks := tk } :=
  ⟨rfl, h', tk, m', nx, n', rfl, F, fun p hp => N p (hn p hp), hlt, ps, hp, hi⟩
end
end
section
open PySem PySem.W PyProof.Rows
set_option maxRecDepth 100000
set_option maxHeartbeats 8000000
def fin (w : List Nat) : Nat := w.getLastD 0
def fst (w : List Nat) : Nat := w.headD 0
theorem fin_mem {w : List Nat} (h : w ≠ []) : fin w ∈ w := by
  unfold fin
  rw [List.getLastD_eq_getLast?, List.getLast?_eq_some_getLast h]
  exact List.getLast_mem h
/-- the steps of a round -/
def cycAt (w : List Nat) (k : Nat) : Nat × Nat := (if k = 0 then fin w else w.getD (k - 1) 0, w.getD k 0)
def cyc (w : List Nat) : List (Nat × Nat) := (List.range w.length).map (cycAt w)
abbrev St := List (List Nat) × List (List Nat)
/-- what a goal adds: a round closed, or a longer way -/
def stepOf (M : Nat → Nat → Nat) (w : List Nat) (st : St) (g : Nat) : St :=
  if M (fin w) g = 0 then st else if g = fst w then (st.1 ++ [w], st.2) else if fst w < g ∧ g ∉ w then (st.1, st.2 ++ [w ++ [g]]) else st
def goG (M : Nat → Nat → Nat) (w : List Nat) (st : St) (n : Nat) : St := (List.range n).foldl (stepOf M w) st
def goW (M : Nat → Nat → Nat) (ws : List (List Nat)) (st : St) : St := ws.foldl (fun st w => goG M w st 4) st
def stage (M : Nat → Nat → Nat) : Nat → St
  | 0 => ([], [[0], [1], [2], [3]])
  | t + 1 => goW M (stage M t).2 ((stage M t).1, [])
def ranked (M : Nat → Nat → Nat) : List (List Nat) := (stage M 4).1
theorem goG_zero {M : Nat → Nat → Nat} {w : List Nat} {st : St} : goG M w st 0 = st := rfl
theorem goG_succ {M : Nat → Nat → Nat} {w : List Nat} {st : St} {n : Nat} : goG M w st (n + 1) = stepOf M w (goG M w st n) n := by
  unfold goG
  rw [List.range_succ, List.foldl_append]
  rfl
theorem goW_snoc {M : Nat → Nat → Nat} {ws : List (List Nat)} {w : List Nat} {st : St} : goW M (ws ++ [w]) st = goG M w (goW M ws st) 4 := by
  unfold goW
  rw [List.foldl_append]
  rfl
/-- what holds of every way -/
def Way (t : Nat) (w : List Nat) : Prop := w.length = t + 1 ∧ w.Nodup ∧ (∀ x ∈ w, x < 4) ∧ ∀ x ∈ w.tail, fst w < x
def Good (t : Nat) (st : St) : Prop := (∀ w ∈ st.2, Way t w)
theorem stepOf_good {M : Nat → Nat → Nat} {t : Nat} {w : List Nat} {st : St} {g : Nat} (hw : Way t w) (hg : g < 4) (h : Good (t + 1) st) : Good (t + 1) (stepOf M w st g) := by
  unfold stepOf
  split
  · exact h
  split
  · exact h
  split
  · rename_i hc
    intro u hu
    rcases List.mem_append.mp hu with hu | hu
    · exact h u hu
    · rw [List.mem_singleton.mp hu]
      obtain ⟨h1, h2, h3, h4⟩ := hw
      have hne : w ≠ [] := by intro e; rw [e] at h1; simp at h1
      refine ⟨by simp [h1], ?_, ?_, ?_⟩
      · refine List.nodup_append.mpr ⟨h2, by simp, ?_⟩
        intro a ha b hb
        rw [List.mem_singleton.mp hb]
        exact fun e => hc.2 (e ▸ ha)
      · intro x hx
        rcases List.mem_append.mp hx with hx | hx
        · exact h3 x hx
        · rw [List.mem_singleton.mp hx]; exact hg
      · intro x hx
        obtain ⟨a, r, rfl⟩ := List.exists_cons_of_ne_nil hne
        rcases List.mem_append.mp (show x ∈ r ++ [g] from hx) with hx | hx
        · exact h4 x hx
        · rw [List.mem_singleton.mp hx]; exact hc.1
  · exact h
theorem goG_good {M : Nat → Nat → Nat} {t : Nat} {w : List Nat} {st : St} (hw : Way t w) (h : Good (t + 1) st) : ∀ n, n ≤ 4 → Good (t + 1) (goG M w st n) := by
  intro n
  induction n with
  | zero => exact fun _ => h
  | succ n ih =>
    intro hn
    rw [goG_succ]
    exact stepOf_good hw (by omega) (ih (by omega))
theorem goW_good {M : Nat → Nat → Nat} {t : Nat} : ∀ {ws : List (List Nat)} {st : St}, (∀ w ∈ ws, Way t w) → Good (t + 1) st → Good (t + 1) (goW M ws st) := by
  intro ws
  induction ws with
  | nil => exact fun _ h => h
  | cons w ws ih => exact fun hw h => ih (fun u hu => hw u (.tail _ hu)) (goG_good (hw w (.head _)) h 4 (Nat.le_refl _))
theorem stage_good (M : Nat → Nat → Nat) : ∀ t, Good t (stage M t) := by
  intro t
  induction t with
  | zero =>
    intro w hw
    simp only [stage, List.mem_cons, List.not_mem_nil, or_false] at hw
    rcases hw with rfl | rfl | rfl | rfl <;> exact ⟨rfl, by decide, by decide, by decide⟩
  | succ t ih => exact goW_good ih fun w hw => by simp at hw
theorem nodup_short : ∀ (n : Nat) (w : List Nat), w.Nodup → (∀ x ∈ w, x < n) → w.length ≤ n := by
  intro n
  induction n with
  | zero =>
    intro w _ h
    cases w with
    | nil => exact Nat.le_refl _
    | cons x r => exact absurd (h x (.head _)) (Nat.not_lt_zero _)
  | succ n ih =>
    intro w hn h
    by_cases hm : n ∈ w
    · have h1 := ih (w.erase n) (hn.erase n) (fun x hx => by
        have h2 := h x (List.mem_of_mem_erase hx)
        have h3 : x ≠ n := fun e => (List.Nodup.not_mem_erase hn) (e ▸ hx)
        omega)
      have h4 := List.length_erase_of_mem hm
      omega
    · exact Nat.le_succ_of_le (ih w hn fun x hx => by
        have h2 := h x hx
        have h3 : x ≠ n := fun e => hm (e ▸ hx)
        omega)
theorem stage4_nil (M : Nat → Nat → Nat) : (stage M 4).2 = [] := by
  cases e : (stage M 4).2 with
  | nil => rfl
  | cons w r =>
    obtain ⟨h1, h2, h3, _⟩ := stage_good M 4 w (by rw [e]; exact .head _)
    have := nodup_short 4 w h2 h3
    omega
theorem stepOf_len {M : Nat → Nat → Nat} {w : List Nat} {st : St} {g : Nat} : (stepOf M w st g).1.length ≤ st.1.length + 1 ∧ (stepOf M w st g).2.length ≤ st.2.length + 1 := by
  unfold stepOf
  repeat' split
  all_goals simp
theorem goG_len {M : Nat → Nat → Nat} {w : List Nat} {st : St} : ∀ n, (goG M w st n).1.length ≤ st.1.length + n ∧ (goG M w st n).2.length ≤ st.2.length + n := by
  intro n
  induction n with
  | zero => exact ⟨Nat.le_refl _, Nat.le_refl _⟩
  | succ n ih =>
    rw [goG_succ]
    have := @stepOf_len M w (goG M w st n) n
    omega
theorem goW_len {M : Nat → Nat → Nat} : ∀ {ws : List (List Nat)} {st : St}, (goW M ws st).1.length ≤ st.1.length + 4 * ws.length ∧ (goW M ws st).2.length ≤ st.2.length + 4 * ws.length := by
  intro ws
  induction ws with
  | nil => exact fun {st} => ⟨Nat.le_refl _, Nat.le_refl _⟩
  | cons w ws ih =>
    intro st
    have h1 := @goG_len M w st 4
    have h2 := @ih (goG M w st 4)
    rw [List.length_cons]
    show (goW M ws (goG M w st 4)).1.length ≤ _ ∧ (goW M ws (goG M w st 4)).2.length ≤ _
    omega
theorem stage_len (M : Nat → Nat → Nat) : ∀ t, t ≤ 4 → (stage M t).2.length ≤ 1024 ∧ (stage M t).1.length ≤ 4096 * t := by
  have h : ∀ t, (stage M t).2.length ≤ 4 ^ (t + 1) ∧ (t ≤ 4 → (stage M t).1.length ≤ 4096 * t) := by
    intro t
    induction t with
    | zero => exact ⟨Nat.le_refl _, fun _ => Nat.le_refl _⟩
    | succ t ih =>
      have h1 := @goW_len M (stage M t).2 ((stage M t).1, [])
      show (goW M (stage M t).2 ((stage M t).1, [])).2.length ≤ _ ∧ (_ → (goW M (stage M t).2 ((stage M t).1, [])).1.length ≤ _)
      have h2 : (4 : Nat) ^ (t + 1 + 1) = 4 ^ (t + 1) * 4 := Nat.pow_succ ..
      refine ⟨by simp only [List.length_nil] at h1; omega, fun ht => ?_⟩
      have h3 : (4 : Nat) ^ (t + 1) ≤ 4 ^ 4 := Nat.pow_le_pow_right (by decide) ht
      have h4 := ih.2 (by omega)
      have h5 := ih.1
      have h6 : (4 : Nat) ^ 4 = 256 := by decide
      dsimp only at h1
      omega
  intro t ht
  have h1 := h t
  have h3 : (4 : Nat) ^ (t + 1) ≤ 4 ^ 5 := Nat.pow_le_pow_right (by decide) (by omega)
  have h6 : (4 : Nat) ^ 5 = 1024 := by decide
  exact ⟨by omega, h1.2 ht⟩
theorem stage_stop {M : Nat → Nat → Nat} {t : Nat} (ht : t ≤ 4) (h : (stage M t).2 = []) : (stage M t).1 = ranked M := by
  have key : ∀ k, (stage M (t + k)).1 = (stage M t).1 ∧ (stage M (t + k)).2 = [] := by
    intro k
    induction k with
    | zero => exact ⟨rfl, h⟩
    | succ k ih =>
      show (goW M (stage M (t + k)).2 ((stage M (t + k)).1, [])).1 = _ ∧ (goW M (stage M (t + k)).2 ((stage M (t + k)).1, [])).2 = _
      rw [ih.2]
      exact ⟨ih.1, rfl⟩
  have := (key (4 - t)).1
  rw [show t + (4 - t) = 4 by omega] at this
  exact this.symm
end
section
open PySem PySem.W PyProof.Rows
set_option maxRecDepth 100000
set_option maxHeartbeats 800000
def intsW (w : List Nat) : List Int := w.map fun x : Nat => (x : Int)
theorem intsW_at {w : List Nat} {i : Nat} (h : i < w.length) : (intsW w)[i]? = some ((w.getD i 0 : Nat) : Int) := by
  unfold intsW
  rw [List.getElem?_map, List.getElem?_eq_getElem h, List.getD_eq_getElem?_getD, List.getElem?_eq_getElem h]
  rfl
def WayAt (tl : List (Addr × Obj)) (v : Value) (w : List Nat) : Prop := RowAt tl v (intsW w)
def PairAt (tl : List (Addr × Obj)) (v : Value) (p : Nat × Nat) : Prop := ∃ r t u n, v = .ref r ∧ (r, ({ cls := .type "tuple", data := .seq [Value.int (p.1 : Int) t, Value.int (p.2 : Int) u].toArray n } : Obj)) ∈ tl
def StepsAt (tl : List (Addr × Obj)) (v : Value) (w : List Nat) : Prop := ∃ r vs n, v = .ref r ∧ (r, listOf (vs : List Value).toArray n) ∈ tl ∧ All2 (PairAt tl) vs (cyc w)
theorem WayAt.mono {tl tl' : List (Addr × Obj)} (hs : ∀ p ∈ tl, p ∈ tl') (v : Value) (w : List Nat) (h : WayAt tl v w) : WayAt tl' v w := RowAt.mono h hs
theorem PairAt.mono {tl tl' : List (Addr × Obj)} (hs : ∀ p ∈ tl, p ∈ tl') (v : Value) (w : Nat × Nat) (h : PairAt tl v w) : PairAt tl' v w := let ⟨r, t, u, n, e, hm⟩ := h; ⟨r, t, u, n, e, hs _ hm⟩
theorem StepsAt.mono {tl tl' : List (Addr × Obj)} (hs : ∀ p ∈ tl, p ∈ tl') (v : Value) (w : List Nat) (h : StepsAt tl v w) : StepsAt tl' v w := let ⟨r, vs, n, e, hm, ha⟩ := h; ⟨r, vs, n, e, hs _ hm, ha.mono (PairAt.mono hs)⟩
def datW (w : List Nat) : Dat := .list ((intsW w).map Dat.int)
def datP (p : Nat × Nat) : Dat := .tuple [.int (p.1 : Int), .int (p.2 : Int)]
def datS (w : List Nat) : Dat := .list ((cyc w).map datP)
theorem ints_dat {tl : List (Addr × Obj)} {vs : List Value} {ns : List Int} (h : IntsAre vs ns) : DatAll tl vs (ns.map Dat.int) := by
  induction h with
  | nil => exact .nil
  | cons n t _ ih => exact .cons (.int n t) ih
theorem way_dat {tl : List (Addr × Obj)} {v : Value} {w : List Nat} (h : WayAt tl v w) : DatIn tl v (datW w) := by
  obtain ⟨r, vs, n, rfl, hm, hi⟩ := h
  exact .list hm (ints_dat hi)
theorem pair_dat {tl : List (Addr × Obj)} {v : Value} {p : Nat × Nat} (h : PairAt tl v p) : DatIn tl v (datP p) := by
  obtain ⟨r, t, u, n, rfl, hm⟩ := h
  exact .tuple hm (.cons (.int _ _) (.cons (.int _ _) .nil))
theorem all_dat {α : Type} {R : Value → α → Prop} {tl : List (Addr × Obj)} {f : α → Dat} (hf : ∀ v x, R v x → DatIn tl v (f x)) {vs : List Value} {xs : List α} (h : All2 R vs xs) : DatAll tl vs (xs.map f) := by
  induction h with
  | nil => exact .nil
  | cons h _ ih => exact .cons (hf _ _ h) ih
theorem steps_dat {tl : List (Addr × Obj)} {v : Value} {w : List Nat} (h : StepsAt tl v w) : DatIn tl v (datS w) := by
  obtain ⟨r, vs, n, rfl, hm, hi⟩ := h
  exact .list hm (all_dat (f := datP) (fun _ _ h => pair_dat h) hi)
theorem ints_ok (k : Nat) (ns : List Int) : ∀ d ∈ ns.map Dat.int, kqdOk k d = true := by
  intro d hd
  obtain ⟨x, _, rfl⟩ := List.mem_map.mp hd
  unfold kqdOk
  rfl
theorem way_ok (w : List Nat) : kqdOk 8 (datW w) = true := by
  unfold datW
  rw [kqdOk]
  exact List.all_eq_true.mpr (ints_ok 7 _)
theorem steps_ok (w : List Nat) : kqdOk 8 (datS w) = true := by
  unfold datS
  rw [kqdOk]
  refine List.all_eq_true.mpr fun d hd => ?_
  obtain ⟨p, _, rfl⟩ := List.mem_map.mp hd
  unfold datP
  simp [kqdOk]
section
variable {prog : Program} {w : World} {A : Around} {E : Value → Shared → Prop} {s : Shared} {h₀ : Heap} {L : Addr} {m : Str → Option Value} {led tl : List (Addr × Obj)}
theorem ways_ne {wy z : Addr} {vs : List Value} {c n : Nat} {ws : List (List Nat)} {Q : Value → Shared → Prop} (N : News h₀ L s.heap led) (mw : (wy, listOf vs.toArray c) ∈ led) (hvs : All2 (WayAt tl) vs ws) (sub : ∀ p ∈ tl, p ∈ led) (mz : (z, listOf #[] n) ∈ led) (hu : A.units + 64 < cLine)
    (h : Q (.bool (!ws.isEmpty)) s) : wpAny (model prog w) A (compareOp .NotEq (.ref wy) (.ref z)) Q E s := by
  refine kqd_ne N mw rfl rfl (all_dat (f := datW) (fun _ _ h => way_dat h) hvs) sub mz rfl (ys := []) rfl (.nil (news := [])) (fun _ h => nomatch h) (fun d hd => ?_) (fun _ h => nomatch h) hu ?_
  · obtain ⟨x, _, rfl⟩ := List.mem_map.mp hd
    exact way_ok x
  · cases ws with
    | nil => simpa using h
    | cons x r => simpa using h
theorem goal_notIn {l : Addr} {t : Tok} {g : Nat} {wy : List Nat} {Q : Value → Shared → Prop} (N : News h₀ L s.heap led) (R : WayAt tl (.ref l) wy) (sub : ∀ p ∈ tl, p ∈ led) (hu : A.units + 64 < cLine)
    (h : Q (.bool (!wy.contains g)) s) : wpAny (model prog w) A (compareOp .NotIn (.int (g : Int) t) (.ref l)) Q E s := by
  obtain ⟨r, vs, n, e, hm, hi⟩ := R
  cases e
  refine kqd_notIn N (sub _ hm) rfl rfl (ints_dat (tl := tl) hi) sub (.int (news := []) (g : Int) t) (fun _ h => nomatch h) (ints_ok 8 _) rfl hu ?_
  have : (Dat.int (g : Int) ∈ (intsW wy).map Dat.int) ↔ g ∈ wy := by
    unfold intsW
    simp only [List.map_map, List.mem_map, Function.comp]
    constructor
    · rintro ⟨x, hx, e⟩
      injection e with e
      have : x = g := by omega
      exact this ▸ hx
    · exact fun hx => ⟨g, hx, rfl⟩
  have hh : ∀ inst : Decidable (Dat.int (g : Int) ∈ (intsW wy).map Dat.int), @decide _ inst = wy.contains g := by
    intro inst
    by_cases hg : g ∈ wy
    · rw [@decide_eq_true _ inst (this.mpr hg)]
      exact (List.contains_iff_mem.mpr hg).symm
    · rw [@decide_eq_false _ inst (fun q => hg (this.mp q))]
      cases q : wy.contains g with
      | false => rfl
      | true => exact absurd (List.contains_iff_mem.mp q) hg
  rw [hh]
  exact h
theorem way_first {value slice : PySem.Expr} {l : Addr} {wy : List Nat} {u : Tok} {Q : Value → Shared → Prop} (N : News h₀ L s.heap led) (R : WayAt tl (.ref l) wy) (hsub : ∀ p ∈ tl, p ∈ led) (hne : wy ≠ []) (h : ∀ t, Q (.int (fst wy : Int) t) s)
    (hs : subscripted slice false (.ref l) (.int ((0 : Nat) : Int) u) = operate [.ref l, .int ((0 : Nat) : Int) u] (getItem (.ref l) (.int ((0 : Nat) : Int) u)) := by with_unfolding_all rfl) :
    wpAny (model prog w) A (subscriptTail value slice (.ref l) (.int 0 u)) Q E s := by
  refine row_item (k := 0) N R hsub (by decide) (x := (fst wy : Int)) ?_ h hs
  cases wy with
  | nil => exact absurd rfl hne
  | cons a r => rfl
theorem way_last {value slice : PySem.Expr} {l : Addr} {wy : List Nat} {u : Tok} {Q : Value → Shared → Prop} (N : News h₀ L s.heap led) (R : WayAt tl (.ref l) wy) (hsub : ∀ p ∈ tl, p ∈ led) (hne : wy ≠ []) (h : ∀ t, Q (.int (fin wy : Int) t) s)
    (hs : subscripted slice false (.ref l) (.int (-1) u) = operate [.ref l, .int (-1) u] (getItem (.ref l) (.int (-1) u)) := by with_unfolding_all rfl) :
    wpAny (model prog w) A (subscriptTail value slice (.ref l) (.int (-1) u)) Q E s := by
  obtain ⟨r, vs, n, e, hm, hi⟩ := R
  cases e
  have hlen := hi.length
  have hl0 : 0 < wy.length := List.length_pos_iff.mpr hne
  have hx : (intsW wy)[wy.length - 1]? = some (fin wy : Int) := by
    unfold intsW fin
    rw [List.getElem?_map, ← List.getLast?_eq_getElem?]
    rw [List.getLastD_eq_getLast?]
    cases q : wy.getLast? with
    | none => exact absurd (List.getLast?_eq_none_iff.mp q) hne
    | some x => rfl
  obtain ⟨t, ht⟩ := hi.get _ _ hx
  have hvl : vs.length = wy.length := by rw [hlen]; unfold intsW; simp
  have hv : vs = vs.dropLast ++ [Value.int (fin wy : Int) t] := by
    have h1 : vs ≠ [] := by intro e; rw [e] at hvl; simp at hvl; omega
    have h2 := List.dropLast_concat_getLast h1
    have h3 : vs.getLast h1 = Value.int (fin wy : Int) t := by
      have := List.getLast?_eq_getElem? (l := vs)
      rw [hvl, ht, List.getLast?_eq_some_getLast h1] at this
      exact Option.some.inj this
    rw [h3] at h2
    exact h2.symm
  rw [hv] at hm
  exact item_last N (hsub _ hm) (h t) hs
theorem way_at {value slice : PySem.Expr} {l : Addr} {wy : List Nat} {i : Nat} {u : Tok} {Q : Value → Shared → Prop} (N : News h₀ L s.heap led) (R : WayAt tl (.ref l) wy) (hsub : ∀ p ∈ tl, p ∈ led) (hi : i < wy.length) (hsz : wy.length ≤ 4) (h : ∀ t, Q (.int ((wy.getD i 0 : Nat) : Int) t) s)
    (hs : ∀ k : Int, subscripted slice false (.ref l) (.int k u) = operate [.ref l, .int k u] (getItem (.ref l) (.int k u)) := by intro _; with_unfolding_all rfl) :
    wpAny (model prog w) A (subscriptTail value slice (.ref l) (.int (i : Int) u)) Q E s :=
  row_item N R hsub (by omega) (intsW_at hi) h (hs _)
theorem way_back {value slice : PySem.Expr} {l : Addr} {wy : List Nat} {i : Nat} {u : Tok} {Q : Value → Shared → Prop} (N : News h₀ L s.heap led) (R : WayAt tl (.ref l) wy) (hsub : ∀ p ∈ tl, p ∈ led) (hi : i < wy.length) (hsz : wy.length ≤ 4) (h : ∀ t, Q (.int (((cycAt wy i).1 : Nat) : Int) t) s)
    (hs : ∀ k : Int, subscripted slice false (.ref l) (.int k u) = operate [.ref l, .int k u] (getItem (.ref l) (.int k u)) := by intro _; with_unfolding_all rfl) :
    wpAny (model prog w) A (subscriptTail value slice (.ref l) (.int ((i : Int) - 1) u)) Q E s := by
  cases i with
  | zero =>
    exact way_last N R hsub (List.length_pos_iff.mp hi) h (hs _)
  | succ i =>
    have e : (((i + 1 : Nat) : Int) - 1) = (i : Int) := by omega
    rw [e]
    exact way_at N R hsub (by omega) hsz h hs
theorem way_len {l : Addr} {wy : List Nat} {Q : Value → Shared → Prop} (N : News h₀ L s.heap led) (R : WayAt tl (.ref l) wy) (hsub : ∀ p ∈ tl, p ∈ led) (hsz : wy.length ≤ 4)
    (h : Q (.int (wy.length : Int) (s.toks + 1)) { s with toks := s.toks + 1 + 1 }) : wpAny (model prog w) A (call (.builtin "len") [.ref l]) Q E s := by
  obtain ⟨r, vs, n, e, hm, hi⟩ := R
  cases e
  have hl : s.heap.IsList l vs.toArray := ⟨_, (N _ (hsub _ hm)).1, rfl, n, rfl⟩
  have hlen : vs.length = wy.length := by rw [hi.length]; unfold intsW; simp
  have hsz' : vs.toArray.size = wy.length := by rw [List.size_toArray, hlen]
  refine Calls.call_len_list hl (by rw [hsz']; omega) ?_
  rw [hsz']
  exact h
end
theorem off1_mem {D : Addr} : ∀ {l : List (Addr × Obj)}, LCg.Off1 D l → ∀ p ∈ l, p.1 ≠ D
  | [], _, _, h => nomatch h
  | _ :: _, x, p, h => by
    rcases List.mem_cons.mp h with rfl | h
    · exact x.1
    · exact off1_mem x.2 p h
theorem small_le {k : Nat} (h : k ≤ 4) : Builtin.Range.small 0 (k : Int) 1 = true := by
  have q : ((List.range 5).all fun k => Builtin.Range.small 0 ((k : Nat) : Int) 1) = true := by decide +kernel
  exact List.all_eq_true.mp q k (List.mem_range.mpr (by omega))
section
open LCg
variable {prog : Program} {w : World} {A : Around} {E : Value → Shared → Prop} {s : Shared} {h₀ : Heap} {L : Addr} {m : Str → Option Value} {env : Env} {led : List (Addr × Obj)}
/-- a comprehension over a range whose element is a new pair of ints -/
theorem compRest_pair {elt : Expr} {x : Str} {scope : Scope} {cl : List (Str × Addr)} {n : Nat} {Fin : List Value → List (Addr × Obj) → Prop} (f : Nat → Nat × Nat)
    (elt_ok : ∀ (i : Nat) (t' : Tok) I oI C oC D m₂ h tk ys tups (E' Q' : Value → Shared → Prop), i < n → NsObj oC m₂ → m₂ x = some (.int (i : Int) t') → Fr h₀ L h m → News h₀ L h ((I, oI) :: (C, oC) :: (D, lst ys) :: (led ++ tups)) →
      (∀ T t u k h' tk', Fr h₀ L h' m → News h₀ L h' ((T, ({ cls := .type "tuple", data := .seq [Value.int ((f i).1 : Int) t, Value.int ((f i).2 : Int) u].toArray k } : Obj)) :: (I, oI) :: (C, oC) :: (D, lst ys) :: (led ++ tups)) →
        (∀ p ∈ (I, oI) :: (C, oC) :: (D, lst ys) :: (led ++ tups), p.1 < T) → Q' (.ref T) { s with heap := h', toks := tk' }) →
      wpAny (model prog w) A (eval elt (compEnvC scope cl C env)) Q' E' { s with heap := h, toks := tk })
    (fin : ∀ ys tups, All2 (PairAt tups) ys ((List.range n).map f) → (∀ p ∈ tups, ∀ q ∈ led, p.1 ≠ q.1) → Fin ys (tups ++ led)) :
    CompRest prog w A h₀ L m env elt x scope cl s (fun _ => True) (fun i v => ∃ t, v = .int (0 + (i : Int)) t) Fin n 0 [] led := by
  have key : ∀ k i ys tups, i + k = n → All2 (PairAt tups) ys ((List.range i).map f) → (∀ p ∈ tups, ∀ q ∈ led, p.1 ≠ q.1) →
      CompRest prog w A h₀ L m env elt x scope cl s (fun _ => True) (fun i v => ∃ t, v = .int (0 + (i : Int)) t) Fin k i ys (tups ++ led) := by
    intro k
    induction k with
    | zero =>
      intro i ys tups hi hy ha
      have : i = n := by omega
      subst this
      exact CompRest.zero (fin ys tups hy ha)
    | succ k ih =>
      intro i ys tups hi hy ha
      refine CompRest.succ ?_
      intro v I oI C oC D m₂ h tk E' hv hC hx F N off ne
      obtain ⟨t', rfl⟩ := hv
      rw [Int.zero_add] at hx
      have sw : ∀ p, p ∈ (I, oI) :: (C, oC) :: (D, lst ys) :: (led ++ tups) ↔ p ∈ (I, oI) :: (C, oC) :: (D, lst ys) :: (tups ++ led) := by
        intro p
        simp only [List.mem_cons, List.mem_append, or_comm (a := p ∈ led)]
      refine elt_ok i t' I oI C oC D m₂ h tk ys tups E' _ (by omega) hC hx F (fun p hp => N p ((sw p).mp hp)) ?_
      intro T t u c h' tk' F' N' hT
      replace hT : ∀ p ∈ (I, oI) :: (C, oC) :: (D, lst ys) :: (tups ++ led), p.1 < T := fun p hp => hT p ((sw p).mpr hp)
      replace N' : News h₀ L h' ((T, ({ cls := .type "tuple", data := .seq [Value.int ((f i).1 : Int) t, Value.int ((f i).2 : Int) u].toArray c } : Obj)) :: (I, oI) :: (C, oC) :: (D, lst ys) :: (tups ++ led)) := fun p hp => N' p (by
        rcases List.mem_cons.mp hp with rfl | hp
        · exact .head _
        · exact .tail _ ((sw p).mpr hp))
      have off' : Off3 I C D ((T, ({ cls := .type "tuple", data := .seq [Value.int ((f i).1 : Int) t, Value.int ((f i).2 : Int) u].toArray c } : Obj)) :: (tups ++ led)) :=
        ⟨⟨Nat.ne_of_gt (hT _ (.head _)), Nat.ne_of_gt (hT _ (.tail _ (.head _))), Nat.ne_of_gt (hT _ (.tail _ (.tail _ (.head _))))⟩, off⟩
      refine CompEnd.intro (s₁ := { s with heap := h, toks := tk }) F' N' _ ?_ off' trivial (ih (i + 1) _ ((T, _) :: tups) (by omega) ?_ ?_)
      · intro p hp
        rcases List.mem_cons.mp hp with rfl | hp
        · exact .tail _ (.head _)
        rcases List.mem_cons.mp hp with rfl | hp
        · exact .tail _ (.tail _ (.head _))
        rcases List.mem_cons.mp hp with rfl | hp
        · exact .tail _ (.tail _ (.tail _ (.head _)))
        rcases List.mem_cons.mp hp with rfl | hp
        · exact .head _
        · exact .tail _ (.tail _ (.tail _ (.tail _ hp)))
      · rw [List.range_succ, List.map_append]
        exact (hy.mono (PairAt.mono fun p hp => .tail _ hp)).snoc ⟨T, t, u, c, rfl, .head _⟩
      · intro p hp q hq
        rcases List.mem_cons.mp hp with rfl | hp
        · exact Nat.ne_of_gt (hT q (.tail _ (.tail _ (.tail _ (List.mem_append_right _ hq)))))
        · exact ha p hp q hq
  exact key n 0 [] [] (by omega) .nil (fun _ h => nomatch h)
end
end
section
open PySem PySem.W PyProof.Rows
set_option maxRecDepth 100000
set_option maxHeartbeats 800000
section
variable {w : World} {mg mb : Str → Option Value} {mean : ExcName → Option Value} {dp un : Nat} {gd : Option (List Code)} {cn : Str} {cs : Scope} {a : Addr} {ccd : Value} {cl : List (Str × Addr)} {outer : List Env} {A₀ : Around} {base h₀ : Heap} {L : Addr} {m : Str → Option Value} {news : List (Addr × Obj)} {s : Shared} {Q E : Value → Shared → Prop}
def RoundsAt (tl : List (Addr × Obj)) (v : Value) (rs : List (List Nat)) : Prop := ∃ r vs n, v = .ref r ∧ (r, listOf (vs : List Value).toArray n) ∈ tl ∧ All2 (StepsAt tl) vs rs
def Apart (add T : List (Addr × Obj)) : Prop := ∀ p ∈ add, ∀ q ∈ T, p.1 ≠ q.1
inductive IWh (l R cw : Addr) (M : Nat → Nat → Nat) (news : List (Addr × Obj)) (n : Nat) (ps : List (Str × Value)) (nx : List (Addr × Obj)) : Prop
  | mk (t : Nat) (wy : Addr) (vs : List Value) (c : Nat) (rv : List Value) (cr : Nat) (oc : Obj) (x : Option Value) (add : List (Addr × Obj)) (htn : t + n = 4) (eps : ps = [(Str.ofString "lengths", .ref l), (Str.ofString "rounds", .ref R), (Str.ofString "ways", .ref wy)]) (enx : nx = (wy, listOf vs.toArray c) :: (R, listOf rv.toArray cr) :: (cw, oc) :: (add ++ news)) (hoc : oc.data = .cell x) (hwR : wy ≠ R) (hwc : wy ≠ cw) (hRc : R ≠ cw)
    (haw : ∀ p ∈ add ++ news, p.1 ≠ wy) (haR : ∀ p ∈ add ++ news, p.1 ≠ R) (hac : ∀ p ∈ add ++ news, p.1 ≠ cw) (hap : Apart add news) (hvs : All2 (WayAt (add ++ news)) vs (stage M t).2) (hrv : All2 (StepsAt (add ++ news)) rv (stage M t).1) : IWh l R cw M news n ps nx
inductive IWay (l R lg cw : Addr) (M : Nat → Nat → Nat) (ws rs : List (List Nat)) (T : List (Addr × Obj)) (i : Nat) (ps : List (Str × Value)) (nx : List (Addr × Obj)) : Prop
  | mk (lv : List Value) (cl : Nat) (rv : List Value) (cr : Nat) (oc : Obj) (x : Option Value) (add : List (Addr × Obj)) (eps : ps = [(Str.ofString "lengths", .ref l), (Str.ofString "rounds", .ref R), (Str.ofString "longer", .ref lg)]) (enx : nx = (lg, listOf lv.toArray cl) :: (R, listOf rv.toArray cr) :: (cw, oc) :: (add ++ T)) (hoc : oc.data = .cell x)
    (ha : ∀ p ∈ add, p.1 ≠ lg ∧ p.1 ≠ R ∧ p.1 ≠ cw) (hap : Apart add T) (hlv : All2 (WayAt (add ++ T)) lv (goW M (ws.take i) (rs, [])).2) (hrv : All2 (StepsAt (add ++ T)) rv (goW M (ws.take i) (rs, [])).1) : IWay l R lg cw M ws rs T i ps nx
inductive IGoal (l R lg cw : Addr) (oc : Obj) (M : Nat → Nat → Nat) (wy : List Nat) (st : St) (T TB : List (Addr × Obj)) (j : Nat) (ps : List (Str × Value)) (nx : List (Addr × Obj)) : Prop
  | mk (lv : List Value) (cl : Nat) (rv : List Value) (cr : Nat) (add : List (Addr × Obj)) (eps : ps = [(Str.ofString "lengths", .ref l), (Str.ofString "rounds", .ref R), (Str.ofString "longer", .ref lg)]) (enx : nx = (lg, listOf lv.toArray cl) :: (R, listOf rv.toArray cr) :: (cw, oc) :: (add ++ T))
    (ha : ∀ p ∈ add, p.1 ≠ lg ∧ p.1 ≠ R ∧ p.1 ≠ cw) (hap : Apart add T) (hlv : All2 (WayAt (add ++ TB)) lv (goG M wy st j).2) (hrv : All2 (StepsAt (add ++ TB)) rv (goG M wy st j).1) : IGoal l R lg cw oc M wy st T TB j ps nx
theorem rounds_spec (B : Below A₀ base outer h₀) (F : Fr h₀ L s.heap m) (X : (hd.heap_39 w.params).In h₀) (N : News h₀ L s.heap news) (T : Top hd.view_39 (looseW hd.view_39 [Str.ofString "length_hint"]) mean mg mb h₀) (hk : cs.kind = .function) (hdp : dp + 4 < recursionLimit) (hun : un + 80 < cLine)
  {l : Addr} {M : Nat → Nat → Nat} (hl : RowsAt news (.ref l) (matR M))
  (hret : ∀ r tl h' tk', Fr h₀ L h' m → News h₀ L h' (tl ++ news) → (∀ p ∈ tl, ∀ q ∈ news, p.1 ≠ q.1) → RoundsAt (tl ++ news) r (ranked M) → Q r { s with heap := h', toks := tk' }) :
  wpAny (model PySem.Challenge.rw_yf0015_01.row.prog w) (ktrTop dp un gd cn cs L a ccd cl outer) (call (.ref 121) [.ref l]) Q E s := by
  w_top off
  k_with_none
  (k_with "k_room" => ((simp only [depth_under_make, depth_under_kw, depth_in1, depth_deeper, depth_caller, ktrTop, recursionLimit] at *; omega)))
  (k_with "k_all" => (first | assumption | exact all_ne (by assumption) (Nat.le_refl _) | (refine all_ne' (by with_reducible assumption) ?_; omega) | (refine all_ne (by with_reducible assumption) ?_; omega)))
  (k_with "exec For" => (refine Stop.mk ?_))
  (k_with "exec For Name Call cons nil" => (refine Stop.mk ?_))
  (k_with "exec For Name Name cons nil" => (refine Stop.mk ?_))
  (k_with "exec While Compare cons nil" => (refine Stop.mk ?_))
  (k_with "pyIter ref" => (refine Stop.mk ?_))
  (k_with "InvPostG" => (refine Stop.mk ?_))
  (k_with "compareOp NotEq ref ref" => (refine Stop.mk ?_))
  (k_with "call builtin:list.append" => (refine Stop.mk ?_))
  (k_with "binaryOp Add ref ref" => (refine Stop.mk ?_))
  (k_with "call builtin:len" => (refine Stop.mk ?_))
  (k_with "CompSrc" => (refine Stop.mk ?_))
  (k_with "subscriptTail" => (refine Stop.mk ?_))
  (k_with "subscriptTail" => ((first
    | ((with_reducible show wpAny _ _ (subscriptTail _ _ _ (Value.int (-1) _)) _ _ _); (refine way_last (by with_reducible assumption) (by with_reducible assumption) (by (intro p hp; (repeat' (first | exact hp | exact List.mem_append_left _ hp | (rcases List.mem_cons.mp hp with rfl | hp) | exact List.mem_cons_self | apply List.mem_cons_of_mem)))) (by with_reducible assumption) ?_); intro _)
    | ((with_reducible show wpAny _ _ (subscriptTail _ _ _ (Value.int 0 _)) _ _ _); (refine way_first (by with_reducible assumption) (by with_reducible assumption) (by (intro p hp; (repeat' (first | exact hp | exact List.mem_append_left _ hp | (rcases List.mem_cons.mp hp with rfl | hp) | exact List.mem_cons_self | apply List.mem_cons_of_mem)))) (by with_reducible assumption) ?_); intro _)
    | ((with_reducible show wpAny _ _ (subscriptTail _ _ _ (Value.int (Nat.cast _) _)) _ _ _); (refine row_item (by with_reducible assumption) (by with_reducible assumption) (by (intro p hp; (repeat' (first | exact hp | exact List.mem_append_left _ hp | (rcases List.mem_cons.mp hp with rfl | hp) | exact List.mem_cons_self | apply List.mem_cons_of_mem)))) (by omega) (rng_at (by with_reducible assumption)) ?_); intro _)
    | ((with_reducible show wpAny _ _ (subscriptTail _ _ _ (Value.int (Nat.cast _) _)) _ _ _); (refine rows_item (by with_reducible assumption) (by with_reducible assumption) (by (intro p hp; (repeat' (first | exact hp | exact List.mem_append_left _ hp | (rcases List.mem_cons.mp hp with rfl | hp) | exact List.mem_cons_self | apply List.mem_cons_of_mem)))) (by omega) (matR_row (by with_reducible assumption)) ?_); intro _ _))))
  (k_with "compareOp NotIn int ref" => ((refine goal_notIn (by with_reducible assumption) (by with_reducible assumption) (by (intro p hp; (repeat' (first | exact hp | exact List.mem_append_left _ hp | (rcases List.mem_cons.mp hp with rfl | hp) | exact List.mem_cons_self | apply List.mem_cons_of_mem)))) (by simp only [units_deeper, ktrTop]; omega) ?_)))
  (k_with "eval ListComp" => (refine Stop.mk ?_))
  revert X; k_fill; intro X
  refine wpAny_call ?_
  k_dflt (refine' code_defC ?k1 ?k2 ?k3 ?k4 ?k5 ?kA ?kF ?kK ?k6 ?k7 ?k8 ?k9 ?kB ?kD ?_ ?c2 ?c3 ?c4; (case kA => exact rfl); (case kF => exact rfl); (case kK => assumption); (case k1 => k_asm); (case k2 => k_asm); (case k3 => k_asm); (case k4 => k_asm); (case k5 => k_asm); (case k6 => k_is); (case k7 => k_is); (case k8 => k_room); (case k9 => exact BindsTo.of_eq rfl); (case kB => exact rfl); (case kD => decide +kernel); (case c2 => exact rfl); (case c3 => exact rfl); (case c4 => exact rfl); k_whole; intro g' L' h' tk' cells' FG' F' N' Y' B' X' T' lL; (try k_lt lL); k_cells Y'; (try simp only [List.cons_append, List.nil_append] at N'); (try dsimp only); (try k_lift B'); (try k_fold))
  k_steps
  unfold Stop
  rename Fr _ _ _ _ => F1
  rename News _ _ _ _ => N1
  rename_i oc doc R _ lR _ _ r0 _ l0 r1 _ l1 r2 _ l2 r3 _ l3 wy _ lw _
  refine while_loop (IWh l R (L' + 1) M news) (n₀ := 4) [(Str.ofString "lengths", .ref l), (Str.ofString "rounds", .ref R), (Str.ofString "ways", .ref wy)] ((wy, _) :: (R, _) :: (L' + 1, oc) :: (r3, _) :: (r2, _) :: (r1, _) :: (r0, _) :: news) F1 N1 (List.forall_mem_cons.mpr ⟨.head _, List.forall_mem_cons.mpr ⟨.tail _ (.tail _ (.tail _ (.tail _ (.tail _ (.head _))))), List.forall_mem_cons.mpr ⟨.tail _ (.tail _ (.tail _ (.tail _ (.tail _ (.tail _ (.head _)))))), List.forall_mem_cons.mpr ⟨.tail _ (.head _), List.forall_mem_cons.mpr ⟨.tail _ (.tail _ (.head _)), List.forall_mem_cons.mpr ⟨.tail _ (.tail _ (.tail _ (.head _))), List.forall_mem_cons.mpr ⟨.tail _ (.tail _ (.tail _ (.tail _ (.head _)))), fun p hp => .tail _ (.tail _ (.tail _ (.tail _ (.tail _ (.tail _ (.tail _ hp))))))⟩⟩⟩⟩⟩⟩⟩) ?hp ?hi ?turn
  case hp => (repeat' (first | exact List.forall_mem_nil _ | (refine List.forall_mem_cons.mpr ⟨rfl, ?_⟩)))
  case hi =>
    obtain ⟨a1, a2, a3, a4, a5, a6, a7⟩ := lw
    obtain ⟨b1, b2, b3, b4, b5, b6⟩ := l3
    obtain ⟨c1, c2, c3, c4, c5⟩ := l2
    obtain ⟨d1, d2, d3, d4⟩ := l1
    obtain ⟨e1, e2, e3⟩ := l0
    obtain ⟨f1, f2⟩ := lR
    refine ⟨0, wy, [.ref r0, .ref r1, .ref r2, .ref r3], 0, [], 0, oc, _, [(r3, _), (r2, _), (r1, _), (r0, _)], rfl, rfl, rfl, doc, Nat.ne_of_gt a5, Nat.ne_of_gt a6, Nat.ne_of_gt f1, ?_, ?_, ?_, ?_, ?_, .nil⟩
    · exact List.forall_mem_cons.mpr ⟨Nat.ne_of_lt a1, List.forall_mem_cons.mpr ⟨Nat.ne_of_lt a2, List.forall_mem_cons.mpr ⟨Nat.ne_of_lt a3, List.forall_mem_cons.mpr ⟨Nat.ne_of_lt a4, fun p hp => Nat.ne_of_lt (allLt_get a7 p hp)⟩⟩⟩⟩
    · exact List.forall_mem_cons.mpr ⟨Nat.ne_of_gt b4, List.forall_mem_cons.mpr ⟨Nat.ne_of_gt c3, List.forall_mem_cons.mpr ⟨Nat.ne_of_gt d2, List.forall_mem_cons.mpr ⟨Nat.ne_of_gt e1, fun p hp => Nat.ne_of_lt (allLt_get f2 p hp)⟩⟩⟩⟩
    · exact List.forall_mem_cons.mpr ⟨Nat.ne_of_gt b5, List.forall_mem_cons.mpr ⟨Nat.ne_of_gt c4, List.forall_mem_cons.mpr ⟨Nat.ne_of_gt d3, List.forall_mem_cons.mpr ⟨Nat.ne_of_gt e2, fun p hp => Nat.ne_of_lt (Nat.lt_succ_of_lt (lL p hp))⟩⟩⟩⟩
    · exact List.forall_mem_cons.mpr ⟨fun q hq => Nat.ne_of_gt (allLt_get b6 q hq), List.forall_mem_cons.mpr ⟨fun q hq => Nat.ne_of_gt (allLt_get c5 q hq), List.forall_mem_cons.mpr ⟨fun q hq => Nat.ne_of_gt (allLt_get d4 q hq), List.forall_mem_cons.mpr ⟨fun q hq => Nat.ne_of_gt (allLt_get e3 q hq), fun _ h => nomatch h⟩⟩⟩⟩
    · exact .cons ⟨r0, [.int 0 _], 0, rfl, .tail _ (.tail _ (.tail _ (.head _))), .cons _ _ .nil⟩ (.cons ⟨r1, [.int 1 _], 0, rfl, .tail _ (.tail _ (.head _)), .cons _ _ .nil⟩ (.cons ⟨r2, [.int 2 _], 0, rfl, .tail _ (.head _), .cons _ _ .nil⟩ (.cons ⟨r3, [.int 3 _], 0, rfl, .head _, .cons _ _ .nil⟩ .nil)))
  case turn =>
    rintro n ps m₁ nx h tk ⟨t, wy, vs, c, rv, cr, oc, x, add, htn, rfl, rfl, hoc, hwR, hwc, hRc, haw, haR, hac, hap, hvs, hrv⟩ F3 N3
    clear F1 N1
    k_steps
    unfold Stop
    rename Fr _ _ _ _ => F4
    rename News _ _ _ _ => N4
    refine ways_ne (tl := add ++ news) N4 (.tail _ (.head _)) hvs (fun p hp => .tail _ (.tail _ (.tail _ (.tail _ hp)))) (.head _) (by simp only [units_deeper, ktrTop]; omega) ?_
    cases hE : (stage M t).2.isEmpty with
    | true =>
      simp only [Bool.not_true]
      k_steps
      rename Fr h₀ _ _ _ => F8
      rename News h₀ _ _ _ => N8
      have hst := stage_stop (M := M) (t := t) (by omega) (List.isEmpty_iff.mp hE)
      refine hret (.ref R) ((R, listOf rv.toArray cr) :: add) _ _ F8 (fun p hp => N8 p ?_) ?_ ⟨R, rv, cr, rfl, .head _, ?_⟩
      · rcases List.mem_cons.mp hp with rfl | hp
        · exact .tail _ (.tail _ (.head _))
        · exact .tail _ (.tail _ (.tail _ (.tail _ hp)))
      · intro p hp q hq
        rcases List.mem_cons.mp hp with rfl | hp
        · exact Ne.symm (haR q (List.mem_append_right _ hq))
        · exact hap p hp q hq
      · rw [← hst]
        exact hrv.mono (StepsAt.mono fun p hp => .tail _ hp)
    | false =>
      simp only [Bool.not_false]
      k_steps
      unfold Stop
      rename Fr _ _ _ _ => F5
      rename News _ _ _ _ => N5
      rename_i z _ _ _ lz lg _ _ _ llg _
      have hT0 : ∀ p ∈ add ++ news, p ∈ (lg, listOf #[] 0) :: (z, listOf #[] 0) :: (wy, listOf vs.toArray c) :: (R, listOf rv.toArray cr) :: ((L' + 1), oc) :: (add ++ news) := fun p hp => .tail _ (.tail _ (.tail _ (.tail _ (.tail _ hp))))
      refine For_turns F5 ?_
      k_steps
      unfold Stop
      rename Fr _ _ _ _ => F6
      rename News _ _ _ _ => N6
      refine list_turns (vs := vs) (c := c) (IWay l R lg (L' + 1) M (stage M t).2 (stage M t).1 ((wy, listOf vs.toArray c) :: (add ++ news))) [(Str.ofString "lengths", .ref l), (Str.ofString "rounds", .ref R), (Str.ofString "longer", .ref lg)] ((lg, listOf #[] 0) :: (R, listOf rv.toArray cr) :: ((L' + 1), oc) :: ([] ++ (wy, listOf vs.toArray c) :: (add ++ news))) rfl ?hl2 F6 N6 ?hs2 ?hp2 ?hi2 ?turn2 ?done2
      case hl2 =>
        rintro i ps nx ⟨lv, cl, rv, cr, oc, x, add2, rfl, rfl, _⟩
        exact .tail _ (.tail _ (.tail _ (List.mem_append_right _ (.head _))))
      case hs2 => exact List.forall_mem_cons.mpr ⟨.head _, List.forall_mem_cons.mpr ⟨.tail _ (.tail _ (.tail _ (.head _))), List.forall_mem_cons.mpr ⟨.tail _ (.tail _ (.tail _ (.tail _ (.head _)))), List.forall_mem_cons.mpr ⟨.tail _ (.tail _ (.head _)), fun p hp => .tail _ (.tail _ (.tail _ (.tail _ (.tail _ hp))))⟩⟩⟩⟩
      case hp2 => (repeat' (first | exact List.forall_mem_nil _ | (refine List.forall_mem_cons.mpr ⟨rfl, ?_⟩)))
      case hi2 => exact ⟨[], 0, rv, cr, oc, x, [], rfl, rfl, hoc, (fun _ h => nomatch h), (fun _ h => nomatch h), .nil, hrv.mono (StepsAt.mono fun p hp => .tail _ hp)⟩
      case done2 =>
        rintro ps m₂ nx h tk ⟨lv, cl, rv, cr, oc, x, add2, rfl, rfl, hoc, ha2, hap2, hlv, hrv⟩ F7 N7
        rw [hvs.length, List.take_length] at hlv hrv
        k_steps
        rename Fr _ _ _ _ => F8
        rename News _ _ _ _ => N8
        have ht3 : t ≤ 3 := by
          apply Decidable.byContradiction
          intro q
          have : t = 4 := by omega
          rw [this, stage4_nil] at hE
          cases hE
        refine while_end (n' := n - 1) F8 N8 [(Str.ofString "lengths", .ref l), (Str.ofString "rounds", .ref R), (Str.ofString "ways", .ref lg)] ((lg, listOf lv.toArray cl) :: (R, listOf rv.toArray cr) :: (L' + 1, oc) :: ((add2 ++ (wy, listOf vs.toArray c) :: add) ++ news)) ⟨t + 1, lg, lv, cl, rv, cr, oc, x, add2 ++ (wy, listOf vs.toArray c) :: add, by omega, rfl, rfl, hoc, Nat.ne_of_gt llg.2.2.1, Nat.ne_of_gt llg.2.2.2.1, hRc, ?_, ?_, ?_, ?_, ?_, ?_⟩ (by omega) (by (repeat' (first | exact List.forall_mem_nil _ | (refine List.forall_mem_cons.mpr ⟨rfl, ?_⟩)))) ?_
        · intro p hp
          rw [List.append_assoc] at hp
          rcases List.mem_append.mp hp with hp | hp
          · exact (ha2 p hp).1
          rcases List.mem_cons.mp hp with rfl | hp
          · exact Nat.ne_of_lt llg.2.1
          · exact Nat.ne_of_lt (allLt_get llg.2.2.2.2 p hp)
        · intro p hp
          rw [List.append_assoc] at hp
          rcases List.mem_append.mp hp with hp | hp
          · exact (ha2 p hp).2.1
          rcases List.mem_cons.mp hp with rfl | hp
          · exact hwR
          · exact haR p hp
        · intro p hp
          rw [List.append_assoc] at hp
          rcases List.mem_append.mp hp with hp | hp
          · exact (ha2 p hp).2.2
          rcases List.mem_cons.mp hp with rfl | hp
          · exact hwc
          · exact hac p hp
        · intro p hp q hq
          rcases List.mem_append.mp hp with hp | hp
          · exact hap2 p hp q (.tail _ (List.mem_append_right _ hq))
          rcases List.mem_cons.mp hp with rfl | hp
          · exact Ne.symm (haw q (List.mem_append_right _ hq))
          · exact hap p hp q hq
        · rw [List.append_assoc]
          exact hlv
        · rw [List.append_assoc]
          exact hrv
        · rw [List.append_assoc]
          exact fun p hp => hp
      case turn2 =>
        rintro i v ps m₂ nx h tk own hv hown ⟨lv, cl, rv, cr, oc, x, add2, rfl, rfl, hoc, ha2, hap2, hlv, hrv⟩ F7 N7
        clear F6 N6
        obtain ⟨w1, hw1, hvw⟩ := hvs.at i v hv
        obtain ⟨wv, _, _, rfl, -⟩ := id hvw
        rw [List.cons_append, List.cons_append, List.cons_append, List.append_assoc] at N7
        generalize hT : (wy, listOf vs.toArray c) :: (add ++ news) = T at *
        have hlT : RowsAt (add2 ++ (T ++ own)) (.ref l) (matR M) := hl.mono fun p hp => List.mem_append_right _ (List.mem_append_left _ (hT ▸ .tail _ (List.mem_append_right _ hp)))
        have hvT : WayAt (add2 ++ (T ++ own)) (.ref wv) w1 := WayAt.mono (fun p hp => List.mem_append_right _ (List.mem_append_left _ (hT ▸ .tail _ hp))) _ _ hvw
        have hoT : ∀ b, (∀ p ∈ T, p.1 ≠ b) → (b = lg ∨ b = R ∨ b = (L' + 1)) → ∀ p ∈ add2 ++ (T ++ own), p.1 ≠ b := by
          intro b hb hc p hp
          rcases List.mem_append.mp hp with hp | hp
          · obtain ⟨q1, q2, q3⟩ := ha2 p hp
            rcases hc with hc | hc | hc
            · rw [hc]; exact q1
            · rw [hc]; exact q2
            · rw [hc]; exact q3
          · rcases List.mem_append.mp hp with hp | hp
            · exact hb p hp
            · rcases hc with hc | hc | hc
              · rw [hc]; exact hown p hp _ (.head _)
              · rw [hc]; exact hown p hp _ (.tail _ (.head _))
              · rw [hc]; exact hown p hp _ (.tail _ (.tail _ (.head _)))
        have hTlg : ∀ p ∈ add2 ++ (T ++ own), p.1 ≠ lg := hoT lg (hT ▸ List.forall_mem_cons.mpr ⟨Nat.ne_of_lt llg.2.1, fun p hp => Nat.ne_of_lt (allLt_get llg.2.2.2.2 p hp)⟩) (.inl rfl)
        have hTR : ∀ p ∈ add2 ++ (T ++ own), p.1 ≠ R := hoT R (hT ▸ List.forall_mem_cons.mpr ⟨hwR, haR⟩) (.inr (.inl rfl))
        have hTc : ∀ p ∈ add2 ++ (T ++ own), p.1 ≠ (L' + 1) := hoT (L' + 1) (hT ▸ List.forall_mem_cons.mpr ⟨hwc, hac⟩) (.inr (.inr rfl))
        have hRlg : @Ne Nat R lg := Nat.ne_of_lt llg.2.2.1
        have hclg : @Ne Nat (L' + 1) lg := Nat.ne_of_lt llg.2.2.2.1
        have hRc' : @Ne Nat R (L' + 1) := hRc
        generalize hT2 : add2 ++ (T ++ own) = T2 at N7 hlT hvT hTlg hTR hTc
        k_steps
        unfold Stop
        rename Fr _ _ _ _ => F8
        rename News _ _ _ _ => N8
        rename _ = Data.cell (some (Value.ref wv)) => hoc1
        rename_i _ oc1
        refine For_invVF F8 (by rfl) (by rfl) ?_
        k_steps
        unfold Stop
        rename Fr _ _ _ _ => F9
        rename News _ _ _ _ => N9
        rename IsRange _ _ _ _ _ _ _ _ => R9
        refine range_loop (n := 4) (IGoal l R lg (L' + 1) oc1 M w1 (goW M ((stage M t).2.take i) ((stage M t).1, [])) T2 (add2 ++ T)) [(Str.ofString "lengths", .ref l), (Str.ofString "rounds", .ref R), (Str.ofString "longer", .ref lg)] ((lg, listOf lv.toArray cl) :: (R, listOf rv.toArray cr) :: (L' + 1, oc1) :: ([] ++ T2)) rfl R9 (by decide) F9 N9 (fun p hp => hp) ?hp3 ?hi3 ?turn3 ?done3
        case hp3 => (repeat' (first | exact List.forall_mem_nil _ | (refine List.forall_mem_cons.mpr ⟨rfl, ?_⟩)))
        case hi3 => exact ⟨lv, cl, rv, cr, [], rfl, rfl, (fun _ h => nomatch h), (fun _ h => nomatch h), hlv, hrv⟩
        case done3 =>
          rintro ps m₃ nx h tk ⟨lv3, cl3, rv3, cr3, add3, rfl, rfl, ha3, hap3, hlv3, hrv3⟩ F10 N10
          k_steps
          unfold Stop
          rename Fr _ _ _ _ => F11
          rename News _ _ _ _ => N11
          subst hT2
          have e : goW M ((stage M t).2.take (i + 1)) ((stage M t).1, []) = goG M w1 (goW M ((stage M t).2.take i) ((stage M t).1, [])) 4 := by
            rw [List.take_add_one, hw1]
            exact goW_snoc
          have has : ∀ p, p ∈ add3 ++ (add2 ++ T) → p ∈ (add3 ++ add2) ++ T := fun p hp => by rw [List.append_assoc]; exact hp
          refine inv_end F11 N11 [(Str.ofString "lengths", .ref l), (Str.ofString "rounds", .ref R), (Str.ofString "longer", .ref lg)] ((lg, listOf lv3.toArray cl3) :: (R, listOf rv3.toArray cr3) :: (L' + 1, oc1) :: ((add3 ++ add2) ++ T)) ⟨lv3, cl3, rv3, cr3, oc1, _, add3 ++ add2, rfl, rfl, hoc1, ?_, ?_, ?_, ?_⟩ (by (repeat' (first | exact List.forall_mem_nil _ | (refine List.forall_mem_cons.mpr ⟨rfl, ?_⟩)))) ?_ ?_ ?_
          · intro p hp
            rcases List.mem_append.mp hp with hp | hp
            · exact ha3 p hp
            · exact ha2 p hp
          · intro p hp q hq
            rcases List.mem_append.mp hp with hp | hp
            · exact hap3 p hp q (List.mem_append_right _ (List.mem_append_left _ hq))
            · exact hap2 p hp q hq
          · rw [e]
            exact hlv3.mono (WayAt.mono has)
          · rw [e]
            exact hrv3.mono (StepsAt.mono has)
          · intro p hp q hq
            rcases List.mem_cons.mp hq with rfl | hq
            · exact hown p hp (lg, listOf lv.toArray cl) (.head _)
            rcases List.mem_cons.mp hq with rfl | hq
            · exact hown p hp (R, listOf rv.toArray cr) (.tail _ (.head _))
            rcases List.mem_cons.mp hq with rfl | hq
            · exact hown p hp (L' + 1, oc) (.tail _ (.tail _ (.head _)))
            rw [List.append_assoc] at hq
            rcases List.mem_append.mp hq with hq | hq
            · exact Ne.symm (hap3 q hq p (List.mem_append_right _ (List.mem_append_right _ hp)))
            · exact hown p hp q (.tail _ (.tail _ (.tail _ hq)))
          · intro p hp
            rcases List.mem_cons.mp hp with rfl | hp
            · exact .head _
            rcases List.mem_cons.mp hp with rfl | hp
            · exact .tail _ (.head _)
            rcases List.mem_cons.mp hp with rfl | hp
            · exact .tail _ (.tail _ (.head _))
            refine .tail _ (.tail _ (.tail _ ?_))
            rw [List.append_assoc] at hp
            rcases List.mem_append.mp hp with hp | hp
            · exact List.mem_append_left _ hp
            rcases List.mem_append.mp hp with hp | hp
            · exact List.mem_append_right _ (List.mem_append_left _ hp)
            · exact List.mem_append_right _ (List.mem_append_right _ (List.mem_append_left _ hp))
          · exact fun p hp => .tail _ (.tail _ (.tail _ (List.mem_append_right _ (List.mem_append_right _ (List.mem_append_right _ hp)))))
        case turn3 =>
          rintro j tj ps m₃ nx h tk own3 hj hown3 ⟨lv, cl, rv, cr, add3, rfl, rfl, ha3, hap3, hlv, hrv⟩ F10 N10
          clear F9 N9 R9
          rw [List.cons_append, List.cons_append, List.cons_append, List.append_assoc] at N10
          have hlT3 : RowsAt (add3 ++ (T2 ++ own3)) (.ref l) (matR M) := hlT.mono fun p hp => List.mem_append_right _ (List.mem_append_left _ hp)
          have hvT3 : WayAt (add3 ++ (T2 ++ own3)) (.ref wv) w1 := WayAt.mono (fun p hp => List.mem_append_right _ (List.mem_append_left _ hp)) _ _ hvT
          have hT3 : ∀ p ∈ add3 ++ (T2 ++ own3), p.1 ≠ lg ∧ p.1 ≠ R ∧ p.1 ≠ L' + 1 := by
            intro p hp
            rcases List.mem_append.mp hp with hp | hp
            · exact ha3 p hp
            · rcases List.mem_append.mp hp with hp | hp
              · exact ⟨hTlg p hp, hTR p hp, hTc p hp⟩
              · exact ⟨hown3 p hp _ (.head _), hown3 p hp _ (.tail _ (.head _)), hown3 p hp _ (.tail _ (.tail _ (.head _)))⟩
          have h3lg : ∀ p ∈ add3 ++ (T2 ++ own3), p.1 ≠ lg := fun p hp => (hT3 p hp).1
          have h3R : ∀ p ∈ add3 ++ (T2 ++ own3), p.1 ≠ R := fun p hp => (hT3 p hp).2.1
          have h3c : ∀ p ∈ add3 ++ (T2 ++ own3), p.1 ≠ L' + 1 := fun p hp => (hT3 p hp).2.2
          obtain ⟨hwl, hwn, hw4, _⟩ : Way t w1 := stage_good M t w1 (List.mem_of_getElem? hw1)
          have hwne : w1 ≠ [] := by intro e; rw [e] at hwl; simp at hwl
          have hfin : fin w1 < 4 := hw4 _ (fin_mem hwne)
          have hw4l : w1.length ≤ 4 := nodup_short 4 w1 hwn hw4
          clear hT3
          have hsl := stage_len M t (by omega)
          have hgl := @goG_len M w1 (goW M ((stage M t).2.take i) ((stage M t).1, [])) j
          have hwlen := @goW_len M ((stage M t).2.take i) ((stage M t).1, [])
          have htk : ((stage M t).2.take i).length ≤ (stage M t).2.length := by rw [List.length_take]; omega
          have hrsz : rv.toArray.size ≤ sizeLine := by
            rw [List.size_toArray, hrv.length, sizeLine_eq]
            dsimp only at hwlen
            omega
          have hlsz : lv.toArray.size ≤ sizeLine := by
            rw [List.size_toArray, hlv.length, sizeLine_eq]
            simp only [List.length_nil] at hwlen
            omega
          clear hsl hgl hwlen htk
          generalize hT3 : add3 ++ (T2 ++ own3) = T3 at N10 hlT3 hvT3 h3lg h3R h3c
          k_steps
          · have z : ((M (fin w1) j : Nat) : Int) = 0 := by assumption
            have z : M (fin w1) j = 0 := by omega
            unfold Stop
            rename Fr _ _ _ _ => F11
            rename News _ _ _ _ => N11
            subst hT3
            have e : goG M w1 (goW M ((stage M t).2.take i) ((stage M t).1, [])) (j + 1) = goG M w1 (goW M ((stage M t).2.take i) ((stage M t).1, [])) j := by
              rw [goG_succ]
              unfold stepOf
              rw [if_pos z]
            rw [← e] at hlv hrv
            exact inv_endA F11 N11 [(Str.ofString "lengths", .ref l), (Str.ofString "rounds", .ref R), (Str.ofString "longer", .ref lg)] ((lg, listOf lv.toArray cl) :: (R, listOf rv.toArray cr) :: (L' + 1, oc1) :: (add3 ++ T2)) ⟨lv, cl, rv, cr, add3, rfl, rfl, ha3, hap3, hlv, hrv⟩ (by (repeat' (first | exact List.forall_mem_nil _ | (refine List.forall_mem_cons.mpr ⟨rfl, ?_⟩)))) hown3 rfl (by
              intro p hp
              rcases List.mem_cons.mp hp with rfl | hp
              · exact .head _
              rcases List.mem_cons.mp hp with rfl | hp
              · exact .tail _ (.head _)
              rcases List.mem_cons.mp hp with rfl | hp
              · exact .tail _ (.tail _ (.head _))
              refine .tail _ (.tail _ (.tail _ ?_))
              rcases List.mem_append.mp hp with hp | hp
              · exact List.mem_append_left _ hp
              · exact List.mem_append_right _ (List.mem_append_left _ hp)) (fun p hp => .tail _ (.tail _ (.tail _ (List.mem_append_right _ (List.mem_append_right _ hp)))))
          · have z : ((M (fin w1) j : Nat) : Int) ≠ 0 := by assumption
            have z : M (fin w1) j ≠ 0 := by omega
            have zj : ((j : Nat) : Int) = ((fst w1 : Nat) : Int) := by assumption
            have zj : j = fst w1 := by omega
            unfold Stop
            rename Fr _ _ _ _ => F11
            rename News _ _ _ _ => N11
            refine LCg.ListComp_U F11 (by rfl) (by decide) (by rfl) (by decide) (by rfl) ?_
            k_steps
            unfold Stop
            rename Fr _ _ _ _ => F12
            rename News _ _ _ _ => N12
            refine way_len N12 hvT3 (fun p hp => .tail _ (.tail _ (.tail _ hp))) hw4l ?_
            k_steps
            unfold Stop
            rename Fr _ _ _ _ => F13
            rename News _ _ _ _ => N13
            rename IsRange _ _ _ _ _ _ _ _ => R13
            refine LCg.CompSrc.range rfl F13 N13 R13 (small_le hw4l) (by rw [rangeSize_one]; split <;> omega) (Nat.le_trans hw4l (by rw [sizeLine_eq]; decide)) ?_
            intro g5
            refine compRest_pair (cycAt w1) ?_ ?_
            · intro i5 t5 I5 oI5 C5 oC5 D5 m5 h5 tk5 ys5 tups5 E5 Q5 hi5 hC5 hm5 F14 N14 hQ5
              simp only [List.cons_append] at N14 hQ5
              have h5w : WayAt (T3 ++ tups5) (.ref wv) w1 := WayAt.mono (fun p hp => List.mem_append_left _ hp) _ _ hvT3
              generalize hT5 : T3 ++ tups5 = T5 at N14 hQ5 h5w
              dsimp only at hQ5 ⊢
              k_steps
              unfold Stop
              rename News _ _ _ _ => N15
              refine way_back N15 h5w (by (intro p hp; (repeat' (first | exact hp | exact List.mem_append_left _ hp | (rcases List.mem_cons.mp hp with rfl | hp) | exact List.mem_cons_self | apply List.mem_cons_of_mem)))) hi5 hw4l ?_
              intro t6
              k_steps
              unfold Stop
              rename News _ _ _ _ => N16
              refine way_at N16 h5w (by (intro p hp; (repeat' (first | exact hp | exact List.mem_append_left _ hp | (rcases List.mem_cons.mp hp with rfl | hp) | exact List.mem_cons_self | apply List.mem_cons_of_mem)))) hi5 hw4l ?_
              intro t7
              k_steps
              rename Fr _ _ _ _ => F17
              rename News _ _ _ _ => N17
              rename (_ ∧ _ ∧ _ ∧ _ ∧ _ ∧ _ ∧ AllLt _ T5) => l17
              refine hQ5 _ _ _ _ _ _ F17 N17 ?_
              obtain ⟨q1, q2, q3, q4, q5, q6, q7⟩ := l17
              exact List.forall_mem_cons.mpr ⟨q1, List.forall_mem_cons.mpr ⟨q2, List.forall_mem_cons.mpr ⟨q3, List.forall_mem_cons.mpr ⟨q4, List.forall_mem_cons.mpr ⟨q5, List.forall_mem_cons.mpr ⟨q6, allLt_get q7⟩⟩⟩⟩⟩⟩
            · intro ys5 tups5 hy5 hap5 D5 h5 tk5 F14 N14 hD5
              dsimp only
              k_steps
              unfold Stop
              rename Fr _ _ _ _ => F15
              rename News _ _ _ _ => N15
              have hD := off1_mem hD5
              have hDt : ∀ p ∈ tups5, p.1 ≠ D5 := fun p hp => hD p (List.mem_append_left _ hp)
              have hDl : D5 ≠ lg := Ne.symm (hD _ (List.mem_append_right _ (.head _)))
              have hDR : D5 ≠ R := Ne.symm (hD _ (List.mem_append_right _ (.tail _ (.head _))))
              have hDc : D5 ≠ L' + 1 := Ne.symm (hD _ (List.mem_append_right _ (.tail _ (.tail _ (.head _)))))
              have hDT : ∀ p ∈ T3, p.1 ≠ D5 := fun p hp => hD p (List.mem_append_right _ (.tail _ (.tail _ (.tail _ hp))))
              have N16 : News _ _ _ ((D5, LCg.lst ys5) :: (lg, listOf lv.toArray cl) :: (R, listOf rv.toArray cr) :: (L' + 1, oc1) :: (T3 ++ tups5)) := fun p hp => N15 p (by
                rcases List.mem_cons.mp hp with rfl | hp
                · exact .head _
                refine .tail _ ?_
                rcases List.mem_cons.mp hp with rfl | hp
                · exact List.mem_append_right _ (.head _)
                rcases List.mem_cons.mp hp with rfl | hp
                · exact List.mem_append_right _ (.tail _ (.head _))
                rcases List.mem_cons.mp hp with rfl | hp
                · exact List.mem_append_right _ (.tail _ (.tail _ (.head _)))
                rcases List.mem_append.mp hp with hp | hp
                · exact List.mem_append_right _ (.tail _ (.tail _ (.tail _ hp)))
                · exact List.mem_append_left _ hp)
              have hT5R : ∀ p ∈ T3 ++ tups5, p.1 ≠ R := fun p hp => (List.mem_append.mp hp).elim (h3R p) fun hp => hap5 p hp _ (.tail _ (.head _))
              refine append_K F15 N16 (.tail hDR (.tail (Ne.symm hRlg) (.head (List.forall_mem_cons.mpr ⟨Ne.symm hRc', hT5R⟩)))) ?_ hrsz
              intro h9 F18 N18
              rw [List.push_toArray] at N18
              dsimp only at N18 ⊢
              k_steps
              unfold Stop
              rename Fr _ _ _ _ => F19
              rename News _ _ _ _ => N19
              subst hT3
              have e : goG M w1 (goW M ((stage M t).2.take i) ((stage M t).1, [])) (j + 1) = ((goG M w1 (goW M ((stage M t).2.take i) ((stage M t).1, [])) j).1 ++ [w1], (goG M w1 (goW M ((stage M t).2.take i) ((stage M t).1, [])) j).2) := by
                rw [goG_succ]
                conv => lhs; unfold stepOf
                rw [if_neg z, if_pos zj]
              refine inv_end F19 N19 [(Str.ofString "lengths", .ref l), (Str.ofString "rounds", .ref R), (Str.ofString "longer", .ref lg)] ((lg, listOf lv.toArray cl) :: (R, listOf (rv ++ [Value.ref D5]).toArray (cr + 1)) :: (L' + 1, oc1) :: (((D5, LCg.lst ys5) :: (tups5 ++ add3)) ++ T2)) ⟨lv, cl, rv ++ [Value.ref D5], cr + 1, (D5, LCg.lst ys5) :: (tups5 ++ add3), rfl, rfl, ?_, ?_, ?_, ?_⟩ (by (repeat' (first | exact List.forall_mem_nil _ | (refine List.forall_mem_cons.mpr ⟨rfl, ?_⟩)))) ?_ ?_ ?_
              · intro p hp
                rcases List.mem_cons.mp hp with rfl | hp
                · exact ⟨hDl, hDR, hDc⟩
                rcases List.mem_append.mp hp with hp | hp
                · exact ⟨hap5 p hp _ (.head _), hap5 p hp _ (.tail _ (.head _)), hap5 p hp _ (.tail _ (.tail _ (.head _)))⟩
                · exact ha3 p hp
              · intro p hp q hq
                rcases List.mem_cons.mp hp with rfl | hp
                · exact Ne.symm (hDT q (List.mem_append_right _ (List.mem_append_left _ hq)))
                rcases List.mem_append.mp hp with hp | hp
                · exact hap5 p hp q (.tail _ (.tail _ (.tail _ (List.mem_append_right _ (List.mem_append_left _ hq)))))
                · exact hap3 p hp q hq
              · rw [e]
                exact hlv.mono (WayAt.mono fun p hp => .tail _ ((List.mem_append.mp hp).elim (fun h => List.mem_append_left _ (List.mem_append_right _ h)) fun h => List.mem_append_right _ h))
              · rw [e]
                refine (hrv.mono (StepsAt.mono fun p hp => .tail _ ((List.mem_append.mp hp).elim (fun h => List.mem_append_left _ (List.mem_append_right _ h)) fun h => List.mem_append_right _ h))).snoc ⟨D5, ys5, _, rfl, .head _, ?_⟩
                exact hy5.mono (PairAt.mono fun p hp => .tail _ (List.mem_append_left _ (List.mem_append_left _ hp)))
              · intro p hp q hq
                rcases List.mem_cons.mp hq with rfl | hq
                · exact hown3 p hp (lg, listOf lv.toArray cl) (.head _)
                rcases List.mem_cons.mp hq with rfl | hq
                · exact hown3 p hp (R, listOf rv.toArray cr) (.tail _ (.head _))
                rcases List.mem_cons.mp hq with rfl | hq
                · exact hown3 p hp (L' + 1, oc1) (.tail _ (.tail _ (.head _)))
                rcases List.mem_cons.mp hq with rfl | hq
                · exact hDT p (List.mem_append_right _ (List.mem_append_right _ hp))
                rcases List.mem_append.mp hq with hq | hq
                · rcases List.mem_append.mp hq with hq | hq
                  · exact Ne.symm (hap5 q hq p (.tail _ (.tail _ (.tail _ (List.mem_append_right _ (List.mem_append_right _ hp))))))
                  · exact hown3 p hp q (.tail _ (.tail _ (.tail _ (List.mem_append_left _ hq))))
                · exact hown3 p hp q (.tail _ (.tail _ (.tail _ (List.mem_append_right _ hq))))
              · intro p hp
                rcases List.mem_cons.mp hp with rfl | hp
                · exact .tail _ (.head _)
                rcases List.mem_cons.mp hp with rfl | hp
                · exact .tail _ (.tail _ (.head _))
                rcases List.mem_cons.mp hp with rfl | hp
                · exact .tail _ (.tail _ (.tail _ (.head _)))
                rcases List.mem_cons.mp hp with rfl | hp
                · exact .head _
                refine .tail _ (.tail _ (.tail _ (.tail _ ?_)))
                rcases List.mem_append.mp hp with hp | hp
                · rcases List.mem_append.mp hp with hp | hp
                  · exact List.mem_append_right _ hp
                  · exact List.mem_append_left _ (List.mem_append_left _ hp)
                · exact List.mem_append_left _ (List.mem_append_right _ (List.mem_append_left _ hp))
              · exact fun p hp => .tail _ (.tail _ (.tail _ (.tail _ (List.mem_append_left _ (List.mem_append_right _ (List.mem_append_right _ hp))))))
          · have z : ((M (fin w1) j : Nat) : Int) ≠ 0 := by assumption
            have z : M (fin w1) j ≠ 0 := by omega
            have zj : ((j : Nat) : Int) ≠ ((fst w1 : Nat) : Int) := by assumption
            have zj : j ≠ fst w1 := by omega
            have zc : w1.contains j = true := by assumption
            unfold Stop
            rename Fr _ _ _ _ => F11
            rename News _ _ _ _ => N11
            subst hT3
            have e : goG M w1 (goW M ((stage M t).2.take i) ((stage M t).1, [])) (j + 1) = goG M w1 (goW M ((stage M t).2.take i) ((stage M t).1, [])) j := by
              rw [goG_succ]
              unfold stepOf
              rw [if_neg z, if_neg zj, if_neg (fun q => q.2 (List.contains_iff_mem.mp zc))]
            rw [← e] at hlv hrv
            exact inv_endA F11 N11 [(Str.ofString "lengths", .ref l), (Str.ofString "rounds", .ref R), (Str.ofString "longer", .ref lg)] ((lg, listOf lv.toArray cl) :: (R, listOf rv.toArray cr) :: (L' + 1, oc1) :: (add3 ++ T2)) ⟨lv, cl, rv, cr, add3, rfl, rfl, ha3, hap3, hlv, hrv⟩ (by (repeat' (first | exact List.forall_mem_nil _ | (refine List.forall_mem_cons.mpr ⟨rfl, ?_⟩)))) hown3 rfl (by
              intro p hp
              rcases List.mem_cons.mp hp with rfl | hp
              · exact .head _
              rcases List.mem_cons.mp hp with rfl | hp
              · exact .tail _ (.head _)
              rcases List.mem_cons.mp hp with rfl | hp
              · exact .tail _ (.tail _ (.head _))
              refine .tail _ (.tail _ (.tail _ ?_))
              rcases List.mem_append.mp hp with hp | hp
              · exact List.mem_append_left _ hp
              · exact List.mem_append_right _ (List.mem_append_left _ hp)) (fun p hp => .tail _ (.tail _ (.tail _ (List.mem_append_right _ (List.mem_append_right _ hp)))))
          · have z : ((M (fin w1) j : Nat) : Int) ≠ 0 := by assumption
            have z : M (fin w1) j ≠ 0 := by omega
            have zj : ((j : Nat) : Int) ≠ ((fst w1 : Nat) : Int) := by assumption
            have zj : j ≠ fst w1 := by omega
            have zl : ((fst w1 : Nat) : Int) < ((j : Nat) : Int) := by assumption
            have zl : fst w1 < j := by omega
            have zc : w1.contains j = false := by assumption
            have zm : j ∉ w1 := fun q => by rw [List.contains_iff_mem.mpr q] at zc; cases zc
            unfold Stop
            rename Fr _ _ _ _ => F11
            rename News _ _ _ _ => N11
            rename (_ ∧ _ ∧ _ ∧ AllLt _ T3) => ltm
            obtain ⟨w9, v9, n9, e9, hm9, hi9⟩ := id hvT3
            cases e9
            refine kmk_add_ints F11 N11 (vs := v9) (ws := [Value.int (j : Int) _]) ⟨_, (N11 _ (.tail _ (.tail _ (.tail _ (.tail _ hm9))))).1, rfl, n9, rfl⟩ ⟨_, (N11 _ (.head _)).1, rfl, _, rfl⟩ hi9 (.cons _ _ .nil) ?_ ?_
            · intro D5 us5 h5 F12 N12 l12 hu5
              dsimp only at N12 ⊢
              k_steps
              unfold Stop
              rename Fr _ _ _ _ => F13
              rename News _ _ _ _ => N13
              have hDl : D5 ≠ lg := Nat.ne_of_gt (l12 _ (.tail _ (.head _)))
              have hDR : D5 ≠ R := Nat.ne_of_gt (l12 _ (.tail _ (.tail _ (.head _))))
              have hDc : D5 ≠ L' + 1 := Nat.ne_of_gt (l12 _ (.tail _ (.tail _ (.tail _ (.head _)))))
              have hDT : ∀ p ∈ T3, p.1 ≠ D5 := fun p hp => Nat.ne_of_lt (l12 p (.tail _ (.tail _ (.tail _ (.tail _ hp)))))
              refine append_K F13 N13 (.tail hDl (.tail (Nat.ne_of_gt ltm.1) (.head (List.forall_mem_cons.mpr ⟨hRlg, List.forall_mem_cons.mpr ⟨hclg, h3lg⟩⟩)))) ?_ hlsz
              intro h9 F18 N18
              rw [List.push_toArray] at N18
              dsimp only at N18 ⊢
              k_steps
              unfold Stop
              rename Fr _ _ _ _ => F19
              rename News _ _ _ _ => N19
              subst hT3
              have e : goG M w1 (goW M ((stage M t).2.take i) ((stage M t).1, [])) (j + 1) = ((goG M w1 (goW M ((stage M t).2.take i) ((stage M t).1, [])) j).1, (goG M w1 (goW M ((stage M t).2.take i) ((stage M t).1, [])) j).2 ++ [w1 ++ [j]]) := by
                rw [goG_succ]
                conv => lhs; unfold stepOf
                rw [if_neg z, if_neg zj, if_pos ⟨zl, zm⟩]
              refine inv_end F19 N19 [(Str.ofString "lengths", .ref l), (Str.ofString "rounds", .ref R), (Str.ofString "longer", .ref lg)] ((lg, listOf (lv ++ [Value.ref D5]).toArray (cl + 1)) :: (R, listOf rv.toArray cr) :: (L' + 1, oc1) :: (((D5, listOf us5.toArray 0) :: add3) ++ T2)) ⟨lv ++ [Value.ref D5], cl + 1, rv, cr, (D5, listOf us5.toArray 0) :: add3, rfl, rfl, ?_, ?_, ?_, ?_⟩ (by (repeat' (first | exact List.forall_mem_nil _ | (refine List.forall_mem_cons.mpr ⟨rfl, ?_⟩)))) ?_ ?_ ?_
              · intro p hp
                rcases List.mem_cons.mp hp with rfl | hp
                · exact ⟨hDl, hDR, hDc⟩
                · exact ha3 p hp
              · intro p hp q hq
                rcases List.mem_cons.mp hp with rfl | hp
                · exact Ne.symm (hDT q (List.mem_append_right _ (List.mem_append_left _ hq)))
                · exact hap3 p hp q hq
              · rw [e]
                refine (hlv.mono (WayAt.mono fun p hp => .tail _ hp)).snoc ⟨D5, us5, 0, rfl, .head _, ?_⟩
                unfold intsW at hu5 ⊢
                rw [List.map_append]
                exact hu5
              · rw [e]
                exact hrv.mono (StepsAt.mono fun p hp => .tail _ hp)
              · intro p hp q hq
                rcases List.mem_cons.mp hq with rfl | hq
                · exact hown3 p hp (lg, listOf lv.toArray cl) (.head _)
                rcases List.mem_cons.mp hq with rfl | hq
                · exact hown3 p hp (R, listOf rv.toArray cr) (.tail _ (.head _))
                rcases List.mem_cons.mp hq with rfl | hq
                · exact hown3 p hp (L' + 1, oc1) (.tail _ (.tail _ (.head _)))
                rcases List.mem_cons.mp hq with rfl | hq
                · exact hDT p (List.mem_append_right _ (List.mem_append_right _ hp))
                · exact hown3 p hp q (.tail _ (.tail _ (.tail _ hq)))
              · intro p hp
                rcases List.mem_cons.mp hp with rfl | hp
                · exact .tail _ (.tail _ (.head _))
                rcases List.mem_cons.mp hp with rfl | hp
                · exact .tail _ (.tail _ (.tail _ (.head _)))
                rcases List.mem_cons.mp hp with rfl | hp
                · exact .tail _ (.tail _ (.tail _ (.tail _ (.head _))))
                rcases List.mem_cons.mp hp with rfl | hp
                · exact .head _
                refine .tail _ (.tail _ (.tail _ (.tail _ (.tail _ ?_))))
                rcases List.mem_append.mp hp with hp | hp
                · exact List.mem_append_left _ hp
                · exact List.mem_append_right _ (List.mem_append_left _ hp)
              · exact fun p hp => .tail _ (.tail _ (.tail _ (.tail _ (.tail _ (List.mem_append_right _ (List.mem_append_right _ hp))))))
            · unfold intsW
              rw [List.length_map, sizeLine_eq]
              show w1.length + 1 ≤ _
              omega
          · have z : ((M (fin w1) j : Nat) : Int) ≠ 0 := by assumption
            have z : M (fin w1) j ≠ 0 := by omega
            have zj : ((j : Nat) : Int) ≠ ((fst w1 : Nat) : Int) := by assumption
            have zj : j ≠ fst w1 := by omega
            have zl : j ≤ fst w1 := by omega
            unfold Stop
            rename Fr _ _ _ _ => F11
            rename News _ _ _ _ => N11
            subst hT3
            have e : goG M w1 (goW M ((stage M t).2.take i) ((stage M t).1, [])) (j + 1) = goG M w1 (goW M ((stage M t).2.take i) ((stage M t).1, [])) j := by
              rw [goG_succ]
              unfold stepOf
              rw [if_neg z, if_neg zj, if_neg (fun q => Nat.not_lt.mpr zl q.1)]
            rw [← e] at hlv hrv
            exact inv_endA F11 N11 [(Str.ofString "lengths", .ref l), (Str.ofString "rounds", .ref R), (Str.ofString "longer", .ref lg)] ((lg, listOf lv.toArray cl) :: (R, listOf rv.toArray cr) :: (L' + 1, oc1) :: (add3 ++ T2)) ⟨lv, cl, rv, cr, add3, rfl, rfl, ha3, hap3, hlv, hrv⟩ (by (repeat' (first | exact List.forall_mem_nil _ | (refine List.forall_mem_cons.mpr ⟨rfl, ?_⟩)))) hown3 rfl (by
              intro p hp
              rcases List.mem_cons.mp hp with rfl | hp
              · exact .head _
              rcases List.mem_cons.mp hp with rfl | hp
              · exact .tail _ (.head _)
              rcases List.mem_cons.mp hp with rfl | hp
              · exact .tail _ (.tail _ (.head _))
              refine .tail _ (.tail _ (.tail _ ?_))
              rcases List.mem_append.mp hp with hp | hp
              · exact List.mem_append_left _ hp
              · exact List.mem_append_right _ (List.mem_append_left _ hp)) (fun p hp => .tail _ (.tail _ (.tail _ (List.mem_append_right _ (List.mem_append_right _ hp)))))

end
end
section
open PySem PySem.W PyProof.Rows
set_option maxRecDepth 100000
set_option maxHeartbeats 800000
theorem due_small (j : Nat) : ∀ x ∈ texts, (due j x).length ≤ 12 := by
  have h : ∀ j, j < 3 → (texts.all fun x => decide ((due j x).length ≤ 12)) = true := by
    intro j hj
    have : j = 0 ∨ j = 1 ∨ j = 2 := by omega
    rcases this with rfl | rfl | rfl <;> decide +kernel
  intro x hx
  by_cases hj : j < 3
  · exact of_decide_eq_true (List.all_eq_true.mp (h j hj) x hx)
  · have h2 : ∀ c, dueOf j c = dueOf 3 c := by
      intro c
      unfold dueOf
      have a0 : j ≠ 0 := by omega
      have a1 : j ≠ 1 := by omega
      have a2 : j ≠ 2 := by omega
      simp [a0, a1, a2]
    have h3 : due j x = due 3 x := by unfold due; rw [List.map_congr_left fun c _ => h2 c]
    rw [h3]
    have h4 : (texts.all fun x => decide ((due 3 x).length ≤ 12)) = true := by decide +kernel
    exact of_decide_eq_true (List.all_eq_true.mp h4 x hx)
theorem wr_small {n : Int} (h0 : 0 ≤ n) (h1 : n < 576) : (wr n).length ≤ 12 := by
  obtain ⟨k, rfl⟩ := Int.eq_ofNat_of_zero_le h0
  exact due_small _ _ (textOf_mem k (by omega))
theorem getD_mem' {l : List Int} {i : Nat} (h : i < l.length) : l.getD i 0 ∈ l := by
  rw [List.getD_eq_getElem?_getD, List.getElem?_eq_getElem h]
  exact List.getElem_mem h
theorem two_inv {tl : List (Addr × Obj)} {v : Value} {x : Str} (h : DatIn tl v (.tuple [.str x, .str x])) : ∃ T t u n, v = .ref T ∧ (T, ({ cls := .type "tuple", data := .seq #[.str x t, .str x u] n } : Obj)) ∈ tl := by
  cases h with
  | tuple hm hd =>
    cases hd with
    | cons h1 h2 =>
      cases h2 with
      | cons h2 h3 =>
        cases h3
        cases h1 with
        | str _ t =>
          cases h2 with
          | str _ u => exact ⟨_, t, u, _, rfl, hm⟩
section
open LCg
variable {prog : Program} {w : World} {A : Around} {E : Value → Shared → Prop} {s : Shared} {h₀ : Heap} {L : Addr} {m : Str → Option Value} {env : Env} {led : List (Addr × Obj)}
/-- a comprehension whose element makes a datum of its own -/
theorem compRest_made {α : Type} {elt : Expr} {x : Str} {scope : Scope} {cl : List (Str × Addr)} {n : Nat} {S : List (Addr × Obj) → Prop} {P : Nat → Value → Prop} {Fin : List Value → List (Addr × Obj) → Prop} (R : List (Addr × Obj) → Value → α → Prop) (f : Nat → α)
    (hmono : ∀ tl tl' v y, (∀ p ∈ tl, p ∈ tl') → R tl v y → R tl' v y) (hS : ∀ acc, S (acc ++ led))
    (elt_ok : ∀ (i : Nat) (v : Value) I oI C oC D m₂ h tk ys acc (E' Q' : Value → Shared → Prop), i < n → P i v → NsObj oC m₂ → m₂ x = some v → Fr h₀ L h m → News h₀ L h ((I, oI) :: (C, oC) :: (D, lst ys) :: (led ++ acc)) →
      (∀ r tl h' tk', Fr h₀ L h' m → News h₀ L h' (tl ++ (I, oI) :: (C, oC) :: (D, lst ys) :: (led ++ acc)) → (∀ p ∈ tl, ∀ q ∈ (I, oI) :: (C, oC) :: (D, lst ys) :: (led ++ acc), p.1 ≠ q.1) → R tl r (f i) → Q' r { s with heap := h', toks := tk' }) →
      wpAny (model prog w) A (eval elt (compEnvC scope cl C env)) Q' E' { s with heap := h, toks := tk })
    (fin : ∀ ys acc, All2 (R acc) ys ((List.range n).map f) → (∀ p ∈ acc, ∀ q ∈ led, p.1 ≠ q.1) → Fin ys (acc ++ led)) :
    CompRest prog w A h₀ L m env elt x scope cl s S P Fin n 0 [] led := by
  have key : ∀ k i ys acc, i + k = n → All2 (R acc) ys ((List.range i).map f) → (∀ p ∈ acc, ∀ q ∈ led, p.1 ≠ q.1) →
      CompRest prog w A h₀ L m env elt x scope cl s S P Fin k i ys (acc ++ led) := by
    intro k
    induction k with
    | zero =>
      intro i ys acc hi hy ha
      have : i = n := by omega
      subst this
      exact CompRest.zero (fin ys acc hy ha)
    | succ k ih =>
      intro i ys acc hi hy ha
      refine CompRest.succ ?_
      intro v I oI C oC D m₂ h tk E' hv hC hx F N off ne
      have sw : ∀ p, p ∈ (I, oI) :: (C, oC) :: (D, lst ys) :: (led ++ acc) ↔ p ∈ (I, oI) :: (C, oC) :: (D, lst ys) :: (acc ++ led) := by
        intro p
        simp only [List.mem_cons, List.mem_append, or_comm (a := p ∈ led)]
      refine elt_ok i v I oI C oC D m₂ h tk ys acc E' _ (by omega) hv hC hx F (fun p hp => N p ((sw p).mp hp)) ?_
      intro r tl h' tk' F' N' hT hr
      replace hT : ∀ p ∈ tl, ∀ q ∈ (I, oI) :: (C, oC) :: (D, lst ys) :: (acc ++ led), p.1 ≠ q.1 := fun p hp q hq => hT p hp q ((sw q).mpr hq)
      have off' : Off3 I C D ((tl ++ acc) ++ led) := by
        refine Off3.of fun p hp => ?_
        rw [List.append_assoc] at hp
        rcases List.mem_append.mp hp with hp | hp
        · exact ⟨hT p hp _ (.head _), hT p hp _ (.tail _ (.head _)), hT p hp _ (.tail _ (.tail _ (.head _)))⟩
        · exact off.mem p hp
      refine CompEnd.intro (s₁ := { s with heap := h, toks := tk }) F' N' ((tl ++ acc) ++ led) ?_ off' (hS _) (ih (i + 1) _ (tl ++ acc) (by omega) ?_ ?_)
      · intro p hp
        rcases List.mem_cons.mp hp with rfl | hp
        · exact List.mem_append_right _ (.head _)
        rcases List.mem_cons.mp hp with rfl | hp
        · exact List.mem_append_right _ (.tail _ (.head _))
        rcases List.mem_cons.mp hp with rfl | hp
        · exact List.mem_append_right _ (.tail _ (.tail _ (.head _)))
        rw [List.append_assoc] at hp
        rcases List.mem_append.mp hp with hp | hp
        · exact List.mem_append_left _ hp
        · refine List.mem_append_right _ (.tail _ (.tail _ (.tail _ ?_)))
          rcases List.mem_append.mp hp with hp | hp
          · exact List.mem_append_right _ hp
          · exact List.mem_append_left _ hp
      · rw [List.range_succ, List.map_append]
        exact (hy.mono fun v y q => hmono acc (tl ++ acc) v y (fun p hp => List.mem_append_right _ hp) q).snoc (hmono tl (tl ++ acc) r _ (fun p hp => List.mem_append_left _ hp) hr)
      · intro p hp q hq
        rcases List.mem_append.mp hp with hp | hp
        · exact hT p hp q (.tail _ (.tail _ (.tail _ (List.mem_append_right _ hq))))
        · exact ha p hp q hq
  exact key n 0 [] [] (by omega) .nil (fun _ h => nomatch h)
theorem rows_of {α : Type} {tl : List (Addr × Obj)} {f : α → List Int} {vs : List Value} {xs : List α} (h : All2 (fun v i => RowAt tl v (f i)) vs xs) : RowsAre tl vs (xs.map f) := by
  induction h with
  | nil => exact .nil
  | cons h _ ih => exact .cons h ih
def IntIs (_ : List (Addr × Obj)) (v : Value) (x : Int) : Prop := ∃ t, v = .int x t
theorem all_ints {tl : List (Addr × Obj)} {vs : List Value} {xs : List Int} (h : All2 (IntIs tl) vs xs) : IntsAre vs xs := by
  induction h with
  | nil => exact .nil
  | cons h _ ih =>
    obtain ⟨t, rfl⟩ := h
    exact .cons _ t ih
/-- a comprehension whose element is an int -/
theorem compRest_int {elt : Expr} {x : Str} {scope : Scope} {cl : List (Str × Addr)} {n : Nat} {S : List (Addr × Obj) → Prop} {P : Nat → Value → Prop} {Fin : List Value → List (Addr × Obj) → Prop} (f : Nat → Int)
    (hS : ∀ acc, S (acc ++ led))
    (elt_ok : ∀ (i : Nat) (v : Value) I oI C oC D m₂ h tk ys acc (E' Q' : Value → Shared → Prop), i < n → P i v → NsObj oC m₂ → m₂ x = some v → Fr h₀ L h m → News h₀ L h ((I, oI) :: (C, oC) :: (D, lst ys) :: (led ++ acc)) →
      (∀ t tl h' tk', Fr h₀ L h' m → News h₀ L h' (tl ++ (I, oI) :: (C, oC) :: (D, lst ys) :: (led ++ acc)) → (∀ p ∈ tl, ∀ q ∈ (I, oI) :: (C, oC) :: (D, lst ys) :: (led ++ acc), p.1 ≠ q.1) → Q' (.int (f i) t) { s with heap := h', toks := tk' }) →
      wpAny (model prog w) A (eval elt (compEnvC scope cl C env)) Q' E' { s with heap := h, toks := tk })
    (fin : ∀ ys acc, IntsAre ys ((List.range n).map f) → (∀ p ∈ acc, ∀ q ∈ led, p.1 ≠ q.1) → Fin ys (acc ++ led)) :
    CompRest prog w A h₀ L m env elt x scope cl s S P Fin n 0 [] led := by
  refine compRest_made IntIs f (fun _ _ _ _ _ h => h) hS ?_ (fun ys acc h => fin ys acc (all_ints h))
  intro i v I oI C oC D m₂ h tk ys acc E' Q' hi hP hC hx F N hQ'
  exact elt_ok i v I oI C oC D m₂ h tk ys acc E' Q' hi hP hC hx F N fun t tl h' tk' F' N' ha => hQ' _ tl h' tk' F' N' ha ⟨t, rfl⟩
theorem pair_item {value slice : PySem.Expr} {l : Addr} {vs : List Value} {n : Nat} {i j : Nat} {u : Tok} {v : Value} {Q : Value → Shared → Prop} (N : News h₀ L s.heap led) (hm : (l, listOf vs.toArray n) ∈ led) (hi : i < 4) (hj : j < 4) (hv : vs[4 * i + j]? = some v) (h : Q v s)
    (hs : ∀ k : Int, subscripted slice false (.ref l) (.int k u) = operate [.ref l, .int k u] (getItem (.ref l) (.int k u)) := by intro _; with_unfolding_all rfl) :
    wpAny (model prog w) A (subscriptTail value slice (.ref l) (.int (4 * (i : Int) + (j : Int)) u)) Q E s := by
  have e : (4 * (i : Int) + (j : Int)) = ((4 * i + j : Nat) : Int) := by omega
  rw [e]
  exact item_at N hm (by omega) hv h (hs _)
theorem two_item {value slice : PySem.Expr} {T : Addr} {x : Str} {t t' : Tok} {n : Nat} {k : Int} {u : Tok} {Q : Value → Shared → Prop} (N : News h₀ L s.heap led) (hm : (T, ({ cls := .type "tuple", data := .seq #[.str x t, .str x t'] n } : Obj)) ∈ led) (hk : k = 0 ∨ k = 1) (h : ∀ t, Q (.str x t) s)
    (hs : ∀ k : Int, subscripted slice false (.ref T) (.int k u) = operate [.ref T, .int k u] (getItem (.ref T) (.int k u)) := by intro _; with_unfolding_all rfl) :
    wpAny (model prog w) A (subscriptTail value slice (.ref T) (.int k u)) Q E s := by
  have ht : IsTup s.heap T [Value.str x t, Value.str x t'].toArray := ⟨_, (N _ hm).1, rfl, n, rfl⟩
  rcases hk with rfl | rfl
  · exact item_tupleT ht (by decide) (by decide) rfl rfl (h t) (hs _)
  · exact item_tupleT ht (by decide) (by decide) rfl rfl (h t') (hs _)
end
end
section
open PySem PySem.W PyProof.Rows
set_option maxRecDepth 100000
set_option maxHeartbeats 800000
abbrev cellObj : Obj := { cls := .type "cell", data := .cell none }
abbrev dictObj : Obj := { cls := .type "dict", data := .dict #[] }
section
variable {M : Model} {A : Around} {E : Value → Shared → Prop} {s : Shared} {env : Env}
/-- a comprehension's own table, with one cell of its own -/
theorem ownEnv_cell {scope : Scope} {cl : List (Str × Addr)} {x : Str} {Q : Env → Shared → Prop} (hc : ∀ n acc, cellsFrom n scope.names acc = (x, n) :: acc) (hp : ∀ h, pushCells h scope.names = h.push cellObj)
    (hQ : Q (newEnv scope s.heap.objs.size env.globals ((x, s.heap.objs.size + 1) :: cl) env.qual none .none (some env) builtinsNs) { s with heap := (s.heap.push dictObj).push cellObj }) :
    wpAny M A (newFunctionEnv scope env.globals cl [] env.qual none .none (some env)) Q E s := by
  simp only [newFunctionEnv, Option.isSome_some, if_true]
  refine wpAny_bind (wpAny_alloc ?_)
  refine wpAny_bind (wpAny_layCells _ (fun name kind cells => by cases hkc : kind == NameKind.cell <;> simp [hkc]) _ _ _ _ ?_)
  rw [hc, hp, show ({ s with heap := s.heap.push dictObj } : Shared).heap.objs.size = s.heap.objs.size + 1 from Heap.size_push ..]
  rw [List.forIn_nil]
  exact wpAny_bind (wpAny_pure (wpAny_pure hQ))
end
/-- what holds between the turns of a comprehension whose own name is a cell -/
inductive CellInv {α : Type} (R : List (Addr × Obj) → Value → α → Prop) (f : Nat → α) (h₀ : Heap) (L : Addr) (m : Str → Option Value) (led : List (Addr × Obj)) (s : Shared) (n : Nat) (I : Nat) (k : Nat) (s' : Shared) : Prop
  | mk (h' : Heap) (tk i : Nat) (ys : List Value) (acc : List (Addr × Obj)) (oK : Obj) (vk : Option Value) (e : s' = { s with heap := h', toks := tk }) (hi : i ≤ n) (hk : k = n + 1 - i) (hyl : ys.length = i) (hst : IsRangeIter h' I (0 + (i : Nat) * 1) ((n : Int) - (i : Nat)) 1) (gC : h'.get? (I + 2) = some dictObj) (gK : h'.get? (I + 2 + 1) = some oK) (dK : oK.data = .cell vk) (gD : h'.get? (I + 1) = some (LCg.lst ys))
    (F : Fr h₀ L h' m) (N : News h₀ L h' (acc ++ led)) (off : ∀ p ∈ acc, p.1 ≠ I ∧ p.1 ≠ I + 1 ∧ p.1 ≠ I + 2 ∧ p.1 ≠ I + 2 + 1) (ap : ∀ p ∈ acc, ∀ q ∈ led, p.1 ≠ q.1) (hy : All2 (R acc) ys ((List.range i).map f)) : CellInv R f h₀ L m led s n I k s'
section
open LCg
variable {prog : Program} {w : World} {A : Around} {E : Value → Shared → Prop} {s : Shared} {h₀ : Heap} {L : Addr} {m : Str → Option Value} {env : Env} {led : List (Addr × Obj)}
/-- a comprehension over a range whose own name is a cell: each element makes a datum of its own -/
theorem range_cellR {α : Type} {elt iter : Expr} {x : Str} {px : Pos} {scope : Scope} {cl : List (Str × Addr)} {pos : Pos} {RR : Value → Addr → Result → Shared → Prop} {r : Addr} {n : Nat} {t₀ u₀ v₀ : Tok} (R : List (Addr × Obj) → Value → α → Prop) (f : Nat → α)
    (hh : A.handled = none) (hr : IsRange s.heap r 0 (n : Int) 1 t₀ u₀ v₀) (hsmall : Builtin.Range.small 0 n 1 = true) (hsz : n ≤ sizeLine) (F : Fr h₀ L s.heap m) (N : News h₀ L s.heap led)
    (hc : ∀ n acc, cellsFrom n scope.names acc = (x, n) :: acc) (hp : ∀ h, pushCells h scope.names = h.push cellObj) (hkind : scope.kind = .function) (hx : (relabel scope env).names.lookup x = some .cell)
    (hmono : ∀ tl tl' v y, (∀ p ∈ tl, p ∈ tl') → R tl v y → R tl' v y)
    (elt_ok : ∀ (i : Nat) (t' : Tok) I oI C oC K oK D h tk ys acc (E' Q' : Value → Shared → Prop), i < n → oK.data = .cell (some (.int (i : Int) t')) → Fr h₀ L h m → News h₀ L h ((I, oI) :: (C, oC) :: (K, oK) :: (D, lst ys) :: (led ++ acc)) →
      (∀ v tl h' tk', Fr h₀ L h' m → News h₀ L h' (tl ++ (I, oI) :: (C, oC) :: (K, oK) :: (D, lst ys) :: (led ++ acc)) → (∀ p ∈ tl, ∀ q ∈ (I, oI) :: (C, oC) :: (K, oK) :: (D, lst ys) :: (led ++ acc), p.1 ≠ q.1) → R tl v (f i) → Q' v { s with heap := h', toks := tk' }) →
      wpAny (model prog w) A (eval elt (compEnvC scope ((x, K) :: cl) C env)) Q' E' { s with heap := h, toks := tk })
    (fin : ∀ ys acc D C h tk m', All2 (R acc) ys ((List.range n).map f) → (∀ p ∈ acc, ∀ q ∈ led, p.1 ≠ q.1) → Fr h₀ L h m → News h₀ L h ((D, lst ys) :: (acc ++ led)) → (∀ p ∈ acc ++ led, p.1 ≠ D) → h.Ns C m' → h₀.get? C = none → C ≠ L → (∀ p ∈ (D, lst ys) :: (acc ++ led), p.1 ≠ C) → RR (.ref D) C (.ok .next) { s with heap := h, toks := tk }) :
    wpAny (model prog w) A (pyIter (.ref r)) (fun it s₂ => wpAny (model prog w) A (newList []) (fun acc s₃ => wpAny (model prog w) A (newFunctionEnv scope env.globals cl [] env.qual none .none (some env)) (fun cenv s₄ =>
      codeAny (model prog w) A (.compStart (.ListComp elt [⟨.Name x px, iter, [], 0⟩] scope pos) 0 it acc { cenv with scope := relabel scope env }) (RR acc cenv.locals) s₄) E s₃) E s₂) E s := by
  refine wpAny_pyIter_range hr hsmall ?_
  have hsz' : Builtin.Range.rangeSize 0 (n : Int) 1 = (n : Int) := by rw [rangeSize_one]; split <;> omega
  have frI : ∀ a, s.heap.objs.size ≤ a → h₀.get? a = none := fun a ha => by
    cases e : h₀.get? a with
    | none => rfl
    | some o' => exact absurd (Heap.lt_size (F.keep a o' e)) (Nat.not_lt.mpr ha)
  have ltL : L < s.heap.objs.size := F.ns.lt
  have ltN : ∀ p ∈ led, p.1 < s.heap.objs.size := fun p hp => Heap.lt_size (N p hp).1
  have up₁ : ∀ b o, s.heap.get? b = some o → (s.heap.push { cls := .type "range_iterator", data := .fields #[rawInt 0, rawInt (Builtin.Range.rangeSize 0 (n : Int) 1), rawInt 1] }).get? b = some o := fun b o e => Heap.get?_push_of_some _ e
  have hIt : (s.heap.push { cls := .type "range_iterator", data := .fields #[rawInt 0, rawInt (Builtin.Range.rangeSize 0 (n : Int) 1), rawInt 1] }).get? s.heap.objs.size = some _ := Heap.get?_push_size _ rfl
  have hsA : (s.heap.push { cls := .type "range_iterator", data := .fields #[rawInt 0, rawInt (Builtin.Range.rangeSize 0 (n : Int) 1), rawInt 1] }).objs.size = s.heap.objs.size + 1 := Heap.size_push ..
  generalize s.heap.push { cls := .type "range_iterator", data := .fields #[rawInt 0, rawInt (Builtin.Range.rangeSize 0 (n : Int) 1), rawInt 1] } = hA at up₁ hIt hsA ⊢
  generalize hI : s.heap.objs.size = I at *
  refine wpAny_newObj_type (ownEnv_cell hc hp ?_)
  dsimp only
  have hD : hA.objs.size = I + 1 := hsA
  rw [hD]
  have hB1 : ∀ b o, hA.get? b = some o → (hA.push { cls := .type "list", dict := none, data := .seq ([] : List Value).toArray }).get? b = some o := fun b o e => Heap.get?_push_of_some _ e
  have hB2 : (hA.push { cls := .type "list", dict := none, data := .seq ([] : List Value).toArray }).get? (I + 1) = some (lst []) := by rw [← hD]; exact Heap.get?_push_size _ rfl
  have hsB : (hA.push { cls := .type "list", dict := none, data := .seq ([] : List Value).toArray }).objs.size = I + 2 := by rw [Heap.size_push, hD]
  generalize hA.push { cls := .type "list", dict := none, data := .seq ([] : List Value).toArray } = hB at hB1 hB2 hsB ⊢
  rw [hsB]
  have hC1 : ∀ b o, hB.get? b = some o → ((hB.push dictObj).push cellObj).get? b = some o := fun b o e => Heap.get?_push_of_some _ (Heap.get?_push_of_some _ e)
  have hC2 : ((hB.push dictObj).push cellObj).get? (I + 2) = some dictObj := Heap.get?_push_of_some _ (by rw [← hsB]; exact Heap.get?_push_size _ rfl)
  have hC3 : ((hB.push dictObj).push cellObj).get? (I + 2 + 1) = some cellObj := by
    have e : (hB.push dictObj).objs.size = I + 2 + 1 := by rw [Heap.size_push, hsB]
    rw [← e]; exact Heap.get?_push_size _ rfl
  generalize (hB.push dictObj).push cellObj = hC at hC1 hC2 hC3 ⊢
  have upA : ∀ b o, s.heap.get? b = some o → hC.get? b = some o := fun b o e => hC1 b o (hB1 b o (up₁ b o e))
  have W := range_walks (prog := prog) (w := w) (A := A) (I := I) hh 0 n
  have loop : codeAny (model prog w) A (.compLoop (.ListComp elt [⟨.Name x px, iter, [], 0⟩] scope pos) 0 (.ref I) (.ref (I + 1)) (compEnvC scope ((x, I + 2 + 1) :: cl) (I + 2) env))
      (RR (.ref (I + 1)) (I + 2)) { s with heap := hC } := by
    refine codeAny_compLoop_tests
      (CellInv R f h₀ L m led s n I) ?_ (n + 1)
      ⟨hC, _, 0, [], [], cellObj, none, rfl, Nat.zero_le _, rfl, rfl, ?_, hC2, hC3, rfl, hC1 _ _ hB2, F.keeps upA, News.grown N upA, (fun _ h => nomatch h), (fun _ h => nomatch h), .nil⟩
    · rintro k s' ⟨h', tk, i, ys, acc, oK, vk, rfl, hi, rfl, hyl, hst, gC, gK, dK, gD, F', N', off, ap, hy⟩
      have offA : ∀ p ∈ acc ++ led, p.1 ≠ I ∧ p.1 ≠ I + 1 ∧ p.1 ≠ I + 2 ∧ p.1 ≠ I + 2 + 1 := by
        intro p hp
        rcases List.mem_append.mp hp with hp | hp
        · exact off p hp
        · have : @LT.lt Nat _ p.1 I := ltN p hp
          refine ⟨Nat.ne_of_lt this, ?_, ?_, ?_⟩
          · exact Nat.ne_of_lt (Nat.lt_of_lt_of_le this (Nat.le_succ _))
          · exact Nat.ne_of_lt (Nat.lt_of_lt_of_le this (Nat.le_add_right _ 2))
          · exact Nat.ne_of_lt (Nat.lt_of_lt_of_le this (Nat.le_add_right _ 3))
      have n1 : I + 1 ≠ I := Nat.succ_ne_self _
      have n2 : I + 2 ≠ I := by exact Nat.ne_of_gt (Nat.lt_add_of_pos_right (by decide))
      have n3 : I + 2 + 1 ≠ I := by exact Nat.ne_of_gt (Nat.lt_add_of_pos_right (k := 3) (by decide))
      have n4 : I + 1 ≠ I + 2 := Nat.ne_of_lt (Nat.lt_succ_self _)
      have n5 : I + 1 ≠ I + 2 + 1 := Nat.ne_of_lt (Nat.lt_of_lt_of_le (Nat.lt_succ_self (I + 1)) (Nat.le_succ _))
      have n6 : I + 2 ≠ I + 2 + 1 := Nat.ne_of_lt (Nat.lt_succ_self _)
      have nL1 : L ≠ I := Nat.ne_of_lt ltL
      have nL2 : L ≠ I + 1 := Nat.ne_of_lt (Nat.lt_of_lt_of_le ltL (Nat.le_succ _))
      have nL3 : L ≠ I + 2 := Nat.ne_of_lt (Nat.lt_of_lt_of_le ltL (Nat.le_add_right _ 2))
      have nL4 : L ≠ I + 2 + 1 := Nat.ne_of_lt (Nat.lt_of_lt_of_le ltL (Nat.le_add_right _ 3))
      have f1 : h₀.get? I = none := frI I (Nat.le_refl _)
      have f2 : h₀.get? (I + 1) = none := frI _ (Nat.le_succ _)
      have f3 : h₀.get? (I + 2) = none := frI _ (Nat.le_add_right _ 2)
      have f4 : h₀.get? (I + 2 + 1) = none := frI _ (Nat.le_add_right _ 3)
      by_cases hlt : i < n
      · refine W.item i _ _ _ hlt hst fun v h₂ tk₂ hPv hst₂ hk₂ => ?_
        have k₂ : ∀ b o, b ≠ I → h'.get? b = some o → h₂.get? b = some o := fun b o hb e => hk₂ b o (by simpa using hb) e
        obtain ⟨t', rfl⟩ := hPv
        rw [Int.zero_add]
        refine wpAny_assign_Name (wpAny_storeName_cell (c := I + 2 + 1) (v₀ := vk) (by simp [compEnvC, relabel, hkind]) hx (by simp [compEnvC]) ⟨oK, k₂ _ _ n3 gK, dK⟩ fun h₃ hcell hsb => ?_)
        refine wpAny_tests_nil ?_
        simp only [if_true]
        obtain ⟨oK', gK₃, dK₃⟩ := hcell
        have k₃ : ∀ b o, b ≠ I + 2 + 1 → h₂.get? b = some o → h₃.get? b = some o := fun b o hb e => hsb.extBut b o hb e
        have F₃ : Fr h₀ L h₃ m := (fr_but F' hk₂ nL1 f1).change hsb (Ne.symm nL4) f4
        obtain ⟨oI, gI₃, eI⟩ : ∃ oI, h₃.get? I = some oI ∧ h₂.get? I = some oI := ⟨_, k₃ I _ (Ne.symm n3) hst₂, hst₂⟩
        have N₃ : News h₀ L h₃ ((I, oI) :: (I + 2, dictObj) :: (I + 2 + 1, oK') :: (I + 1, lst ys) :: (led ++ acc)) := by
          intro p hp
          rcases List.mem_cons.mp hp with rfl | hp
          · exact ⟨gI₃, Ne.symm nL1, f1⟩
          rcases List.mem_cons.mp hp with rfl | hp
          · exact ⟨k₃ _ _ n6 (k₂ _ _ n2 gC), Ne.symm nL3, f3⟩
          rcases List.mem_cons.mp hp with rfl | hp
          · exact ⟨gK₃, Ne.symm nL4, f4⟩
          rcases List.mem_cons.mp hp with rfl | hp
          · exact ⟨k₃ _ _ n5 (k₂ _ _ n1 gD), Ne.symm nL2, f2⟩
          have hp' : p ∈ acc ++ led := (List.mem_append.mp hp).elim (fun h => List.mem_append_right _ h) fun h => List.mem_append_left _ h
          obtain ⟨q1, q2, q3, q4⟩ := offA p hp'
          exact ⟨k₃ _ _ q4 (k₂ _ _ q1 (N' p hp').1), (N' p hp').2⟩
        refine elt_ok i t' I oI (I + 2) dictObj (I + 2 + 1) oK' (I + 1) h₃ _ ys acc _ _ hlt dK₃ F₃ N₃ ?_
        intro v tl h₄ tk₄ F₄ N₄ hT hr
        have zI := (N₄ _ (List.mem_append_right _ (.head _))).1
        have zC := (N₄ _ (List.mem_append_right _ (.tail _ (.head _)))).1
        have zK := (N₄ _ (List.mem_append_right _ (.tail _ (.tail _ (.head _))))).1
        have zD := (N₄ _ (List.mem_append_right _ (.tail _ (.tail _ (.tail _ (.head _)))))).1
        refine append_at (hsz := by show ys.toArray.size ≤ sizeLine; rw [List.size_toArray, hyl]; exact Nat.le_trans hi hsz) zD fun h₅ hs₅ hD₅ => ?_
        have k₅ : ∀ b o, b ≠ I + 1 → h₄.get? b = some o → h₅.get? b = some o := fun b o hb e => hs₅.extBut b o hb e
        have off' : ∀ p ∈ tl ++ acc, p.1 ≠ I ∧ p.1 ≠ I + 1 ∧ p.1 ≠ I + 2 ∧ p.1 ≠ I + 2 + 1 := by
          intro p hp
          rcases List.mem_append.mp hp with hp | hp
          · exact ⟨hT p hp _ (.head _), hT p hp _ (.tail _ (.tail _ (.tail _ (.head _)))), hT p hp _ (.tail _ (.head _)), hT p hp _ (.tail _ (.tail _ (.head _)))⟩
          · exact off p hp
        refine ⟨n + 1 - (i + 1), by omega, h₅, tk₄, i + 1, ys ++ [v], tl ++ acc, oK', _, rfl, hlt, rfl, by rw [List.length_append, List.length_singleton, hyl], ?_, k₅ _ _ (Ne.symm n4) zC, k₅ _ _ (Ne.symm n5) zK, dK₃, hD₅.trans (congrArg some (lst_snoc ys v)), F₄.change hs₅ (Ne.symm nL2) f2, ?_, off', ?_, ?_⟩
        · have z := k₅ _ _ (Ne.symm n1) zI
          rw [Option.some.inj (eI.symm.trans hst₂)] at z
          exact z
        · intro p hp
          rw [List.append_assoc] at hp
          have hne : p.1 ≠ I + 1 := by
            rcases List.mem_append.mp hp with hp | hp
            · exact (off' p (List.mem_append_left _ hp)).2.1
            · exact (offA p hp).2.1
          have hm : p ∈ tl ++ (I, oI) :: (I + 2, dictObj) :: (I + 2 + 1, oK') :: (I + 1, lst ys) :: (led ++ acc) := by
            rcases List.mem_append.mp hp with hp | hp
            · exact List.mem_append_left _ hp
            · exact List.mem_append_right _ (.tail _ (.tail _ (.tail _ (.tail _ ((List.mem_append.mp hp).elim (fun h => List.mem_append_right _ h) fun h => List.mem_append_left _ h)))))
          exact ⟨k₅ _ _ hne (N₄ p hm).1, (N₄ p hm).2⟩
        · intro p hp q hq
          rcases List.mem_append.mp hp with hp | hp
          · exact hT p hp q (.tail _ (.tail _ (.tail _ (.tail _ (List.mem_append_left _ hq)))))
          · exact ap p hp q hq
        · rw [List.range_succ, List.map_append]
          exact (hy.mono fun v y q => hmono acc (tl ++ acc) v y (fun p hp => List.mem_append_right _ hp) q).snoc (hmono tl (tl ++ acc) v _ (fun p hp => List.mem_append_left _ hp) hr)
      · obtain rfl : i = n := Nat.le_antisymm hi (Nat.not_lt.mp hlt)
        refine W.done _ _ _ hst fun h₂ tk₂ hk₂ => ?_
        have k₂ : ∀ b o, b ≠ I → h'.get? b = some o → h₂.get? b = some o := fun b o hb e => hk₂ b o (by simpa using hb) e
        refine fin ys acc (I + 1) (I + 2) h₂ tk₂ (fun _ => none) hy ap (fr_but F' hk₂ nL1 f1) ?_ (fun p hp => (offA p hp).2.1) ⟨dictObj, #[], 0, k₂ _ _ n2 gC, rfl, fun _ he => by simp at he, fun _ => rfl⟩ f3 (Ne.symm nL3) ?_
        · intro p hp
          rcases List.mem_cons.mp hp with rfl | hp
          · exact ⟨k₂ _ _ n1 gD, Ne.symm nL2, f2⟩
          · obtain ⟨q1, q2, q3, q4⟩ := offA p hp
            exact ⟨k₂ _ _ q1 (N' p hp).1, (N' p hp).2⟩
        · intro p hp
          rcases List.mem_cons.mp hp with rfl | hp
          · exact n4
          · exact (offA p hp).2.2.1
    · have z := hC1 I _ (hB1 I _ hIt)
      rw [hsz'] at z
      show hC.get? I = some _
      simpa using z
  exact codeAny_compStart_list loop (W.self 0 _ _ _ (by
    have z := hC1 I _ (hB1 I _ hIt)
    rw [hsz'] at z
    show hC.get? I = some _
    simpa using z) loop)
theorem range_cell {α : Type} {elt iter : Expr} {x : Str} {px : Pos} {scope : Scope} {cl : List (Str × Addr)} {pos : Pos} {Q : Value → Shared → Prop} {r : Addr} {n : Nat} {t₀ u₀ v₀ : Tok} (R : List (Addr × Obj) → Value → α → Prop) (f : Nat → α)
    (hh : A.handled = none) (hr : IsRange s.heap r 0 (n : Int) 1 t₀ u₀ v₀) (hsmall : Builtin.Range.small 0 n 1 = true) (hsz : n ≤ sizeLine) (F : Fr h₀ L s.heap m) (N : News h₀ L s.heap led)
    (hc : ∀ n acc, cellsFrom n scope.names acc = (x, n) :: acc) (hp : ∀ h, pushCells h scope.names = h.push cellObj) (hkind : scope.kind = .function) (hx : (relabel scope env).names.lookup x = some .cell)
    (hmono : ∀ tl tl' v y, (∀ p ∈ tl, p ∈ tl') → R tl v y → R tl' v y)
    (elt_ok : ∀ (i : Nat) (t' : Tok) I oI C oC K oK D h tk ys acc (E' Q' : Value → Shared → Prop), i < n → oK.data = .cell (some (.int (i : Int) t')) → Fr h₀ L h m → News h₀ L h ((I, oI) :: (C, oC) :: (K, oK) :: (D, lst ys) :: (led ++ acc)) →
      (∀ v tl h' tk', Fr h₀ L h' m → News h₀ L h' (tl ++ (I, oI) :: (C, oC) :: (K, oK) :: (D, lst ys) :: (led ++ acc)) → (∀ p ∈ tl, ∀ q ∈ (I, oI) :: (C, oC) :: (K, oK) :: (D, lst ys) :: (led ++ acc), p.1 ≠ q.1) → R tl v (f i) → Q' v { s with heap := h', toks := tk' }) →
      wpAny (model prog w) A (eval elt (compEnvC scope ((x, K) :: cl) C env)) Q' E' { s with heap := h, toks := tk })
    (fin : ∀ ys acc D h tk, All2 (R acc) ys ((List.range n).map f) → (∀ p ∈ acc, ∀ q ∈ led, p.1 ≠ q.1) → Fr h₀ L h m → News h₀ L h ((D, lst ys) :: (acc ++ led)) → (∀ p ∈ acc ++ led, p.1 ≠ D) → Q (.ref D) { s with heap := h, toks := tk }) :
    wpAny (model prog w) A (pyIter (.ref r)) (fun it s₂ => wpAny (model prog w) A (newList []) (fun acc s₃ => wpAny (model prog w) A (newFunctionEnv scope env.globals cl [] env.qual none .none (some env)) (fun cenv s₄ =>
      codeAny (model prog w) A (.compStart (.ListComp elt [⟨.Name x px, iter, [], 0⟩] scope pos) 0 it acc { cenv with scope := relabel scope env }) (compPost (model prog w) A E none Q acc cenv.locals) s₄) E s₃) E s₂) E s := by
  refine range_cellR R f hh hr hsmall hsz F N hc hp hkind hx hmono elt_ok ?_
  intro ys acc D C h tk m' hy ap F' N' oD hn f3 nL oC
  refine ⟨m', hn, fun h₃ hs₃ => fin ys acc D h₃ tk hy ap (F'.change hs₃ nL f3) (fun p hp => ⟨hs₃.extBut _ _ (oC p hp) (N' p hp).1, (N' p hp).2⟩) oD⟩
/-- the same, its list bound to a local name -/
theorem range_cellA {α : Type} {elt iter : Expr} {x y : Str} {px py : Pos} {scope : Scope} {cl : List (Str × Addr)} {pos : Pos} {Pz : Shared → Prop} {r : Addr} {n : Nat} {t₀ u₀ v₀ : Tok} (R : List (Addr × Obj) → Value → α → Prop) (f : Nat → α) (hLe : env.locals = L)
    (hy : env.kindOf y = some .local) (hpn : (env.scope.kind == .class || (env.scope.kind == .module && env.locals != env.globals)) = false)
    (hh : A.handled = none) (hr : IsRange s.heap r 0 (n : Int) 1 t₀ u₀ v₀) (hsmall : Builtin.Range.small 0 n 1 = true) (hsz : n ≤ sizeLine) (F : Fr h₀ L s.heap m) (N : News h₀ L s.heap led)
    (hc : ∀ n acc, cellsFrom n scope.names acc = (x, n) :: acc) (hp : ∀ h, pushCells h scope.names = h.push cellObj) (hkind : scope.kind = .function) (hx : (relabel scope env).names.lookup x = some .cell)
    (hmono : ∀ tl tl' v y, (∀ p ∈ tl, p ∈ tl') → R tl v y → R tl' v y)
    (elt_ok : ∀ (i : Nat) (t' : Tok) I oI C oC K oK D h tk ys acc (E' Q' : Value → Shared → Prop), i < n → oK.data = .cell (some (.int (i : Int) t')) → Fr h₀ L h m → News h₀ L h ((I, oI) :: (C, oC) :: (K, oK) :: (D, lst ys) :: (led ++ acc)) →
      (∀ v tl h' tk', Fr h₀ L h' m → News h₀ L h' (tl ++ (I, oI) :: (C, oC) :: (K, oK) :: (D, lst ys) :: (led ++ acc)) → (∀ p ∈ tl, ∀ q ∈ (I, oI) :: (C, oC) :: (K, oK) :: (D, lst ys) :: (led ++ acc), p.1 ≠ q.1) → R tl v (f i) → Q' v { s with heap := h', toks := tk' }) →
      wpAny (model prog w) A (eval elt (compEnvC scope ((x, K) :: cl) C env)) Q' E' { s with heap := h, toks := tk })
    (fin : ∀ ys acc D h tk, All2 (R acc) ys ((List.range n).map f) → (∀ p ∈ acc, ∀ q ∈ led, p.1 ≠ q.1) → Fr h₀ L h (fun z => if z = y then some (.ref D) else m z) → News h₀ L h ((D, lst ys) :: (acc ++ led)) → (∀ p ∈ acc ++ led, p.1 ≠ D) → Pz { s with heap := h, toks := tk }) :
    wpAny (model prog w) A (pyIter (.ref r)) (fun it s₂ => wpAny (model prog w) A (newList []) (fun acc s₃ => wpAny (model prog w) A (newFunctionEnv scope env.globals cl [] env.qual none .none (some env)) (fun cenv s₄ =>
      codeAny (model prog w) A (.compStart (.ListComp elt [⟨.Name x px, iter, [], 0⟩] scope pos) 0 it acc { cenv with scope := relabel scope env }) (compPost (model prog w) A E (some (assign (.Name y py) env)) (fun _ s' => Pz s') acc cenv.locals) s₄) E s₃) E s₂) E s := by
  subst hLe
  refine range_cellR R f hh hr hsmall hsz F N hc hp hkind hx hmono elt_ok ?_
  intro ys acc D C h tk m' hya ap F' N' oD hn f3 nL oC
  show wpAny _ A (assign (.Name y py) env (.ref D)) _ _ _
  refine wpAny_assign_Name (wpAny_storeName_local hy F'.ns (fun h₂ hn₂ hs₂ => ?_) hpn)
  have hL₀ : h₀.get? env.locals = none := Heap.get?_none_of_le F'.above
  have F₂ : Fr h₀ env.locals h₂ (fun z => if z = y then some (.ref D) else m z) := ⟨hn₂, fun b o e => hs₂.extBut b o (fun q => by rw [q, hL₀] at e; cases e) (F'.keep b o e), F'.above⟩
  refine ⟨m', hn.sameBut hs₂ nL, fun h₃ hs₃ => fin ys acc D h₃ _ hya ap (F₂.change hs₃ nL f3) (fun p hp => ?_) oD⟩
  have z : h₂.get? p.1 = some p.2 := hs₂.extBut _ _ (N' p hp).2.1 (N' p hp).1
  exact ⟨hs₃.extBut _ _ (oC p hp) z, (N' p hp).2⟩
theorem Assign_open {elt iter : Expr} {x y : Str} {px py : Pos} {scope : Scope} {cl : List (Str × Addr)} {pos spos : Pos} {Q : Flow → Shared → Prop} (_F : Fr h₀ L s.heap m)
    (hsw : swapsWith (.ListComp elt [⟨.Name x px, iter, [], 0⟩] scope pos) (some (.Name y py)) spos.line env = pure true)
    (hclos : closureFor scope env = pure cl) (hkind : scope.kind = .function) (hnames : ∀ y ∈ scope.names, y.2 = .local → scope.names.lookup y.1 = some .local)
    (h : wpAny (model prog w) A (eval iter env) (fun xv s₁ => wpAny (model prog w) A (pyIter xv) (fun it s₂ => wpAny (model prog w) A (newList []) (fun acc s₃ => wpAny (model prog w) A (newFunctionEnv scope env.globals cl [] env.qual none .none (some env)) (fun cenv s₄ =>
      codeAny (model prog w) A (.compStart (.ListComp elt [⟨.Name x px, iter, [], 0⟩] scope pos) 0 it acc { cenv with scope := relabel scope env }) (compPost (model prog w) A E (some (assign (.Name y py) env)) (fun _ s' => Q .next s') acc cenv.locals) s₄) E s₃) E s₂) E s₁) E s)
    (hs : ∀ x, foldedSetIterable iter env x = pure x := by intro _; rfl) :
    wpAny (model prog w) A (exec (.Assign [.Name y py] (.ListComp elt [⟨.Name x px, iter, [], 0⟩] scope pos) spos) env) Q E s := by
  rw [exec_Assign_Name_used _ _ _ _ hsw]
  refine wpAny_bind (wpAny_standAt (wpAny_bind ?_))
  show wpAny _ A (do let _ ← comprehension (.ListComp elt [⟨.Name x px, iter, [], 0⟩] scope pos) scope env _ (newList []) false (eval iter env) (some (assign (.Name y py) env))) _ _ s
  exact wpAny_bind (wpAny_mono (wpAny_comprehension_free (use := some (assign (.Name y py) env)) (Q := fun _ s' => Q .next s') rfl hs hclos hkind hnames h) (fun _ s' hq => wpAny_pure (wpAny_pure hq)) fun _ _ e => e)
theorem ListComp_open {elt iter : Expr} {x : Str} {px : Pos} {scope : Scope} {cl : List (Str × Addr)} {pos : Pos} {Q : Value → Shared → Prop} (_F : Fr h₀ L s.heap m)
    (hclos : closureFor scope env = pure cl) (hkind : scope.kind = .function) (hnames : ∀ y ∈ scope.names, y.2 = .local → scope.names.lookup y.1 = some .local)
    (h : wpAny (model prog w) A (eval iter env) (fun xv s₁ => wpAny (model prog w) A (pyIter xv) (fun it s₂ => wpAny (model prog w) A (newList []) (fun acc s₃ => wpAny (model prog w) A (newFunctionEnv scope env.globals cl [] env.qual none .none (some env)) (fun cenv s₄ =>
      codeAny (model prog w) A (.compStart (.ListComp elt [⟨.Name x px, iter, [], 0⟩] scope pos) 0 it acc { cenv with scope := relabel scope env }) (compPost (model prog w) A E none Q acc cenv.locals) s₄) E s₃) E s₂) E s₁) E s)
    (hs : ∀ x, foldedSetIterable iter env x = pure x := by intro _; rfl) :
    wpAny (model prog w) A (eval (.ListComp elt [⟨.Name x px, iter, [], 0⟩] scope pos) env) Q E s := by
  rw [eval_ListComp]
  exact wpAny_comprehension_free (use := none) rfl hs hclos hkind hnames h
end
end
section
open PySem PySem.W PyProof.Rows
set_option maxRecDepth 100000
set_option maxHeartbeats 800000
section
variable {w : World} {mg mb : Str → Option Value} {mean : ExcName → Option Value} {dp un : Nat} {gd : Option (List Code)} {cn : Str} {cs : Scope} {a : Addr} {ccd : Value} {cl : List (Str × Addr)} {outer : List Env} {A₀ : Around} {base h₀ : Heap} {L : Addr} {m : Str → Option Value} {news : List (Addr × Obj)} {s : Shared} {Q E : Value → Shared → Prop}
theorem hint_spec (B : Below A₀ base outer h₀) (F : Fr h₀ L s.heap m) (X : (hd.heap_39 w.params).In h₀) (N : News h₀ L s.heap news) (T : Top hd.view_39 (looseW hd.view_39 [Str.ofString "length_hint"]) mean mg mb h₀) (hk : cs.kind = .function) (hdp : dp + 3 < recursionLimit)
  {x : Str} {t : Tok} (hx : x.length ≤ 12)
  (hret : ∀ t h' tk', Fr h₀ L h' m → News h₀ L h' news → Q (.int (x.length : Int) t) { s with heap := h', toks := tk' }) :
  wpAny (model PySem.Challenge.rw_yf0015_01.row.prog w) (ktrTop dp un gd cn cs L a ccd cl outer) (call (.ref 36) [.str x t]) Q E s := by
  w_top off
  k_with_none
  (k_with "k_room" => ((simp only [depth_under_make, depth_under_kw, depth_in1, depth_deeper, depth_caller, ktrTop, recursionLimit] at *; omega)))
  (k_with "k_all" => (first | assumption | exact all_ne (by assumption) (Nat.le_refl _) | (refine all_ne' (by with_reducible assumption) ?_; omega) | (refine all_ne (by with_reducible assumption) ?_; omega)))
  (k_with "call builtin:len" => (refine Stop.mk ?_))
  revert X; k_fill; intro X
  refine wpAny_call ?_
  k_dflt (refine' code_def ?k1 ?k2 ?k3 ?k4 ?k5 ?kA ?kF ?kK ?k6 ?k7 ?k8 ?k9 ?kB ?_ ?c2 ?c3 ?c4 ?c5; (case kA => exact rfl); (case kF => exact rfl); (case kK => assumption); (case k1 => k_asm); (case k2 => k_asm); (case k3 => k_asm); (case k4 => k_asm); (case k5 => k_asm); (case k6 => k_is); (case k7 => k_is); (case k8 => k_room); (case k9 => first | exact BindsTo.of_eq rfl | (refine' kp_binds ?kx ?ke; (case kx => k_in); (case ke => exact fun _ => rfl))); (case c5 => decide); (case kB => exact locs rfl); (case c2 => exact rfl); (case c3 => exact rfl); (case c4 => exact rfl); k_whole; intro g' L' h' FG' F' N' B' X' T'; (try dsimp only); (try k_lift B'); (try k_fold))
  k_steps
  unfold Stop
  refine P.len_str (by omega) ?_
  k_steps
  rename Fr h₀ _ _ _ => F9
  rename News h₀ _ _ _ => N9
  exact hret _ _ _ F9 N9
end
end
section
open PySem PySem.W PyProof.Rows
section
variable {h₀ h : Heap} {L : Addr} {c1 c2 c3 c4 c5 : Addr × Obj} {tl T : List (Addr × Obj)}
theorem five_mem {p : Addr × Obj} (hp : p ∈ c5 :: c4 :: c3 :: c2 :: c1 :: (tl ++ T)) : p ∈ tl ++ c5 :: c4 :: c3 :: c2 :: c1 :: T := by
  rcases List.mem_cons.mp hp with rfl | hp
  · exact List.mem_append_right _ (.head _)
  rcases List.mem_cons.mp hp with rfl | hp
  · exact List.mem_append_right _ (.tail _ (.head _))
  rcases List.mem_cons.mp hp with rfl | hp
  · exact List.mem_append_right _ (.tail _ (.tail _ (.head _)))
  rcases List.mem_cons.mp hp with rfl | hp
  · exact List.mem_append_right _ (.tail _ (.tail _ (.tail _ (.head _))))
  rcases List.mem_cons.mp hp with rfl | hp
  · exact List.mem_append_right _ (.tail _ (.tail _ (.tail _ (.tail _ (.head _)))))
  rcases List.mem_append.mp hp with hp | hp
  · exact List.mem_append_left _ hp
  · exact List.mem_append_right _ (.tail _ (.tail _ (.tail _ (.tail _ (.tail _ hp)))))
theorem five_up (N : News h₀ L h (tl ++ c5 :: c4 :: c3 :: c2 :: c1 :: T)) : News h₀ L h (c5 :: c4 :: c3 :: c2 :: c1 :: (tl ++ T)) := fun p hp => N p (five_mem hp)
theorem five_off {c : Addr} {o : Obj} (hc : (c, o) ∈ c5 :: c4 :: c3 :: c2 :: c1 :: T) (ha : ∀ p ∈ tl, ∀ q ∈ c5 :: c4 :: c3 :: c2 :: c1 :: T, p.1 ≠ q.1) (b : ∀ p ∈ T, p.1 ≠ c) : ∀ p ∈ tl ++ T, p.1 ≠ c := by
  intro p hp
  rcases List.mem_append.mp hp with hp | hp
  · exact ha p hp _ hc
  · exact b p hp
theorem lt_apart {add T : List (Addr × Obj)} (h : ∀ q ∈ T, ∀ p ∈ add, q.1 < p.1) : ∀ p ∈ add, ∀ q ∈ T, p.1 ≠ q.1 := fun p hp q hq => Nat.ne_of_gt (h q hq p hp)
theorem off_own {own T U : List (Addr × Obj)} {c : Addr} {o : Obj} (hown : ∀ p ∈ own, ∀ q ∈ U, p.1 ≠ q.1) (hc : (c, o) ∈ U) (b : ∀ p ∈ T, p.1 ≠ c) : ∀ p ∈ T ++ own, p.1 ≠ c := fun p hp => (List.mem_append.mp hp).elim (b p) fun hp => hown p hp _ hc
theorem five_own {c0 c1 c2 c3 c4 c5 : Addr} {o0 o1 o2 o3 o4 o5 : Obj} {T own : List (Addr × Obj)} (hown : ∀ p ∈ own, ∀ q ∈ (c0, o0) :: (c5, o5) :: (c4, o4) :: (c3, o3) :: (c2, o2) :: (c1, o1) :: T, p.1 ≠ q.1)
    (b0 : ∀ p ∈ T, p.1 ≠ c0) (b1 : ∀ p ∈ T, p.1 ≠ c1) (b2 : ∀ p ∈ T, p.1 ≠ c2) (b3 : ∀ p ∈ T, p.1 ≠ c3) (b4 : ∀ p ∈ T, p.1 ≠ c4) (b5 : ∀ p ∈ T, p.1 ≠ c5) :
    (∀ p ∈ T ++ own, p.1 ≠ c0) ∧ (∀ p ∈ T ++ own, p.1 ≠ c1) ∧ (∀ p ∈ T ++ own, p.1 ≠ c2) ∧ (∀ p ∈ T ++ own, p.1 ≠ c3) ∧ (∀ p ∈ T ++ own, p.1 ≠ c4) ∧ (∀ p ∈ T ++ own, p.1 ≠ c5) :=
  ⟨off_own hown (.head _) b0, off_own hown (.tail _ (.tail _ (.tail _ (.tail _ (.tail _ (.head _)))))) b1, off_own hown (.tail _ (.tail _ (.tail _ (.tail _ (.head _))))) b2, off_own hown (.tail _ (.tail _ (.tail _ (.head _)))) b3, off_own hown (.tail _ (.tail _ (.head _))) b4, off_own hown (.tail _ (.head _)) b5⟩
theorem six_left {c0 c1 c2 c3 c4 c5 p : Addr × Obj} {T own : List (Addr × Obj)} (hp : p ∈ c0 :: c5 :: c4 :: c3 :: c2 :: c1 :: T) : p ∈ c0 :: c5 :: c4 :: c3 :: c2 :: c1 :: (T ++ own) := List.mem_append_left own hp
theorem six_right {c0 c1 c2 c3 c4 c5 p : Addr × Obj} {T own : List (Addr × Obj)} (hp : p ∈ own) : p ∈ c0 :: c5 :: c4 :: c3 :: c2 :: c1 :: (T ++ own) := List.mem_append_right (c0 :: c5 :: c4 :: c3 :: c2 :: c1 :: T) hp
theorem mem_left {p : Addr × Obj} (h : p ∈ tl) : p ∈ tl ++ T := List.mem_append_left _ h
theorem mem_right {p : Addr × Obj} (h : p ∈ T) : p ∈ tl ++ T := List.mem_append_right _ h
end
end
section
open PySem PySem.W PyProof.Rows
set_option maxRecDepth 100000
set_option maxHeartbeats 800000
theorem rowsR_at {M : Nat → Nat → Nat} {k : Nat} (h : k < 5) : ((List.range 5).map (rowR M))[k]? = some (rowR M k) := by
  rw [List.getElem?_map, List.getElem?_range h]; rfl
theorem rowR_at {M : Nat → Nat → Nat} {k j : Nat} (h : j < 4) : (rowR M k)[j]? = some ((Wd M k j : Nat) : Int) := by
  unfold rowR
  rw [List.getElem?_map, List.getElem?_range h]; rfl
section
variable {prog : Program} {w : World} {A : Around} {E : Value → Shared → Prop} {s : Shared} {h₀ : Heap} {L : Addr} {led tl : List (Addr × Obj)} {M : Nat → Nat → Nat}
theorem rows_last {value slice : PySem.Expr} {l : Addr} {u : Tok} {Q : Value → Shared → Prop} (N : News h₀ L s.heap led) (R : RowsAt tl (.ref l) ((List.range 5).map (rowR M))) (hsub : ∀ p ∈ tl, p ∈ led) (h : ∀ r, RowAt tl (.ref r) (rowR M 4) → Q (.ref r) s)
    (hs : subscripted slice false (.ref l) (.int ((4 : Nat) : Int) u) = operate [.ref l, .int ((4 : Nat) : Int) u] (getItem (.ref l) (.int ((4 : Nat) : Int) u)) := by with_unfolding_all rfl) :
    wpAny (model prog w) A (subscriptTail value slice (.ref l) (.int 4 u)) Q E s :=
  rows_item (k := 4) N R hsub (by decide) (rowsR_at (by decide)) h hs
end
theorem wr_le {ns : List Int} (hb : ∀ n ∈ ns, 0 ≤ n ∧ n < 576) (i j : Nat) : (wr (ns.getD (4 * i + j) 0)).length ≤ 12 := by
  by_cases h : 4 * i + j < ns.length
  · have := hb _ (getD_mem' h)
    exact wr_small this.1 this.2
  · rw [List.getD_eq_getElem?_getD, List.getElem?_eq_none (by omega)]
    exact wr_small (by decide) (by decide)
section
variable {prog : Program} {w : World} {A : Around} {E : Value → Shared → Prop} {s : Shared} {env : Env} {h₀ : Heap} {target : Expr} {body : List Stmt} {Q : Flow → Shared → Prop}
theorem letGo_name {x : Str} {p : Pos} {it v : Value} {Q' : Unit → Shared → Prop} {s' : Shared} (h : Q' () s') : wpAny (model prog w) A (letOwnedTupleGo (.Name x p) it v) Q' E s' := by
  unfold letOwnedTupleGo
  exact wpAny_pure h
/-- a for over a range whose target is any name (a cell too) -/
theorem range_turns (Inv : Nat → List (Str × Value) → List (Addr × Obj) → Prop) {x : Str} {px : Pos} {r : Addr} {n : Nat} {t₀ u₀ v₀ : Tok} {m₀ : Str → Option Value} {news : List (Addr × Obj)} (ps : List (Str × Value)) (nx : List (Addr × Obj))
    (hh : A.handled = none) (hr : IsRange s.heap r 0 (n : Int) 1 t₀ u₀ v₀) (hsmall : Builtin.Range.small 0 n 1 = true) (F : Fr h₀ env.locals s.heap m₀) (N : News h₀ env.locals s.heap news) (hs : ∀ p ∈ nx, p ∈ news) (hp : ∀ p ∈ ps, m₀ p.1 = some p.2) (hi : Inv 0 ps nx)
    (turn : ∀ i t ps m₁ nx h tk own, i < n → (∀ p ∈ own, ∀ q ∈ nx, p.1 ≠ q.1) → Inv i ps nx → Fr h₀ env.locals h (kstB m₁ ps) → News h₀ env.locals h (nx ++ own) →
      wpAny (model prog w) A (assign (.Name x px) env (.int (i : Int) t)) (fun _ s₃ => wpAny (model prog w) A (execs body env) (InvPostG h₀ env.locals (InvJ Inv (i + 1)) own { s with heap := h, toks := tk } Q) E s₃) E { s with heap := h, toks := tk })
    (done : ∀ ps m₁ nx h tk, Inv n ps nx → Fr h₀ env.locals h (kstB m₁ ps) → News h₀ env.locals h nx → Q .next { s with heap := h, toks := tk }) :
    wpAny (model prog w) A (pyIter (.ref r)) (fun it s₂ => TurnsAt prog w A h₀ env (.Name x px) body Q E it s₂) E s := by
  refine wpAny_pyIter_range hr hsmall ?_
  have hsz : Builtin.Range.rangeSize 0 (n : Int) 1 = (n : Int) := by rw [rangeSize_one]; split <;> omega
  have W0 : Walks prog w A s.heap.objs.size [s.heap.objs.size] [s.heap.objs.size] n (fun i v => i < n ∧ ∃ t, v = .int (0 + i * 1) t)
      (fun i h => IsRangeIter h s.heap.objs.size (0 + (i : Nat) * 1) ((n : Int) - (i : Nat)) 1) := (Walks.range hh _ 0 1 n).bound
  have W := KTurns.ofWalks (target := .Name x px) W0 fun i v s Q E st q => letGo_name q
  refine ⟨_, _, _, n, _, _, _, m₀, nx, InvJ Inv, rfl, W, ?_, ?_, ?_, (by show IsRangeIter _ _ _ _ _; rw [hsz]; simpa using Heap.get?_push_size _ rfl), F.push _, (fun p hp => ⟨Heap.get?_push_of_some _ (N p (hs p hp)).1, (N p (hs p hp)).2⟩), ⟨ps, hp, hi⟩, ?_, ?_⟩
  · intro hm
    exact absurd F.ns.lt ((List.mem_singleton.mp hm) ▸ Nat.lt_irrefl _)
  · intro b hb
    rw [List.mem_singleton.mp hb]
    exact next_is_new F
  · intro p hp hI
    exact absurd (Heap.lt_size (N p (hs p hp)).1) ((List.mem_singleton.mp hI) ▸ Nat.lt_irrefl _)
  · rintro i v m₁ nx₁ hh' tk' own hin ⟨_, t, rfl⟩ ⟨ps₁, hps, hinv⟩ hoff hown hget hfp hst F₁ N₁
    have e1 : 0 + (i : Int) * 1 = (i : Int) := by omega
    rw [e1]
    have hI0 : h₀.get? s.heap.objs.size = none := next_is_new F
    have hown' : ∀ p ∈ own, p.1 = s.heap.objs.size := fun p hp => List.mem_singleton.mp (hown p hp)
    have hIown : (s.heap.objs.size, _) ∈ own := hfp _ (List.mem_singleton.mpr rfl) hI0 _ hst
    have hsep : ∀ p ∈ own, ∀ q ∈ nx₁, p.1 ≠ q.1 := fun p hp q hq e => hoff q hq (List.mem_singleton.mpr (e ▸ hown' p hp))
    have N₂ : News h₀ env.locals hh' (nx₁ ++ own) := fun p hp => N₁ p ((List.mem_append.mp hp).elim (fun h => List.mem_append.mpr (.inr h)) fun h => List.mem_append.mpr (.inl h))
    have fin : ∀ s₂, InvEndG h₀ env.locals (InvJ Inv (i + 1)) own { s with heap := hh', toks := tk' } s₂ →
        LoopStepU h₀ env.locals [s.heap.objs.size] own (InvJ Inv (i + 1)) { s with heap := hh', toks := tk' } .next s₂ := by
      rintro s₂ ⟨h', tk, m', news', nx', e, F', N', hn, ho, ha, hm⟩
      refine ⟨rfl, h', tk, m', nx', e, F', fun p hp => ?_, fun p hp hq => ?_, hm⟩
      · rcases List.mem_append.mp hp with h | h
        · exact N' p (ho p h)
        · exact N' p (hn p h)
      · exact ha _ hIown p.1 (List.mem_map.mpr ⟨p, hp, rfl⟩) (List.mem_singleton.mp hq).symm
    refine wpAny_mono (turn i t ps₁ m₁ nx₁ hh' tk' _ hin hsep hinv (by rw [kstB_same hps]; exact F₁) N₂) (fun _ s₃ q => wpAny_mono q (fun f s₂ p => ?_) fun _ _ e => e) fun _ _ e => e
    cases f with
    | ret v => exact .ret p
    | brk => exact .brk p
    | next => exact .next (fin _ p)
    | cont => exact .cont (fin _ p)
  · rintro h' tk m' nx' F' N' _ ⟨ps', hps', hinv'⟩
    exact done ps' m' nx' h' tk hinv' (by rw [kstB_same hps']; exact F') N'
end
end
section
open PySem PySem.W PyProof.Rows
section
variable {M : Nat → Nat → Nat}
/-- what the next width is -/
theorem Wd_ge {k i j : Nat} (hi : i < 4) (h1 : Wd M k i ≠ 0) (h2 : M i j ≠ 0) : Wd M k i + M i j ≤ Wd M (k + 1) j := by
  have e : eAt M (Wd M k) j i = Wd M k i - 1 + M i j := by unfold eAt; rw [if_pos ⟨h1, h2⟩]
  have hm : eAt M (Wd M k) j i ∈ (List.range 4).map (eAt M (Wd M k) j) := List.mem_map.mpr ⟨i, List.mem_range.mpr hi, rfl⟩
  have h3 := top_ge _ hm
  show _ ≤ wnat _
  unfold wnat
  rw [if_neg (by omega)]
  omega
theorem top_mem : ∀ {es : List Nat}, top es ≠ 0 → top es ∈ es
  | [], h => absurd rfl h
  | e :: es, h => by
    have h' : max e (top es) ≠ 0 := h
    show max e (top es) ∈ _
    by_cases hc : e ≤ top es
    · rw [Nat.max_eq_right hc] at h' ⊢
      exact .tail _ (top_mem h')
    · rw [Nat.max_eq_left (Nat.le_of_not_le hc)]; exact .head _
theorem Wd_from {k j : Nat} (h : Wd M (k + 1) j ≠ 0) : ∃ i, i < 4 ∧ Wd M k i ≠ 0 ∧ M i j ≠ 0 ∧ Wd M (k + 1) j = Wd M k i + M i j := by
  have h' : wnat ((List.range 4).map (eAt M (Wd M k) j)) ≠ 0 := h
  have e' : Wd M (k + 1) j = wnat ((List.range 4).map (eAt M (Wd M k) j)) := rfl
  unfold wnat at h' e'
  split at h'
  · exact absurd rfl h'
  · rename_i h0
    rw [if_neg h0] at e'
    obtain ⟨i, hi, he⟩ := List.mem_map.mp (top_mem h0)
    have hi' := List.mem_range.mp hi
    rw [← he] at h0 e'
    unfold eAt at h0 e'
    split at h0
    · rename_i hc
      rw [if_pos hc] at e'
      exact ⟨i, hi', hc.1, hc.2, by omega⟩
    · exact absurd rfl h0
theorem Wd_back : ∀ {k j : Nat}, Wd M (k + 1) j ≠ 0 → Wd M k j ≠ 0
  | 0, _, _ => fun q => by rw [show Wd M 0 _ = 4 from rfl] at q; cases q
  | k + 1, j, h => by
    obtain ⟨i, hi, h1, h2, _⟩ := Wd_from h
    have h3 := Wd_ge hi (Wd_back h1) h2
    omega
theorem le_four : ∀ {k : Nat}, k ≤ 4 → k = 0 ∨ k = 1 ∨ k = 2 ∨ k = 3 ∨ k = 4
  | 0, _ => .inl rfl
  | 1, _ => .inr (.inl rfl)
  | 2, _ => .inr (.inr (.inl rfl))
  | 3, _ => .inr (.inr (.inr (.inl rfl)))
  | 4, _ => .inr (.inr (.inr (.inr rfl)))
  | n + 5, h => absurd h (Nat.not_le.mpr (Nat.le_add_left 5 n))
theorem nm_cons {a b : Nat} {l : List Nat} (h : a ≠ b) (h' : a ∉ l) : a ∉ b :: l := fun q => (List.mem_cons.mp q).elim h h'
theorem nm_nil (a : Nat) : a ∉ ([] : List Nat) := fun h => nomatch h
theorem Wd_four {k j : Nat} (hk : k ≤ 4) (h : Wd M 4 j ≠ 0) : Wd M k j ≠ 0 := by
  have h3 := Wd_back h
  have h2 := Wd_back h3
  have h1 := Wd_back h2
  have h0 := Wd_back h1
  rcases le_four hk with rfl | rfl | rfl | rfl | rfl
  · exact h0
  · exact h1
  · exact h2
  · exact h3
  · exact h
/-- what the rounds are: membership -/
theorem mem_step1 {w u : List Nat} {st : St} {g : Nat} : u ∈ (stepOf M w st g).1 ↔ u ∈ st.1 ∨ (u = w ∧ g = fst w ∧ M (fin w) g ≠ 0) := by
  unfold stepOf
  split
  · rename_i h; simp [h]
  · rename_i h
    split
    · rename_i h2; simp [h, h2]; rw [h2] at h; simp [h]
    · rename_i h2
      split <;> simp [h2]
theorem mem_step2 {w u : List Nat} {st : St} {g : Nat} : u ∈ (stepOf M w st g).2 ↔ u ∈ st.2 ∨ (u = w ++ [g] ∧ M (fin w) g ≠ 0 ∧ fst w < g ∧ g ∉ w) := by
  unfold stepOf
  split
  · rename_i h; simp [h]
  · rename_i h
    split
    · rename_i h2
      have : ¬ fst w < g := by omega
      simp [this]
    · split
      · rename_i h3; simp [h, h3.1, h3.2]
      · rename_i h3
        constructor
        · exact .inl
        · rintro (q | ⟨_, _, q⟩)
          · exact q
          · exact absurd q h3
theorem mem_go1 {w u : List Nat} {st : St} : ∀ {n : Nat}, u ∈ (goG M w st n).1 ↔ u ∈ st.1 ∨ (u = w ∧ fst w < n ∧ M (fin w) (fst w) ≠ 0)
  | 0 => by simp [goG_zero]
  | n + 1 => by
    rw [goG_succ, mem_step1, mem_go1 (n := n)]
    constructor
    · rintro ((h | ⟨h1, h2, h3⟩) | ⟨h1, h2, h3⟩)
      · exact .inl h
      · exact .inr ⟨h1, by omega, h3⟩
      · exact .inr ⟨h1, by omega, h2 ▸ h3⟩
    · rintro (h | ⟨h1, h2, h3⟩)
      · exact .inl (.inl h)
      · by_cases h4 : fst w < n
        · exact .inl (.inr ⟨h1, h4, h3⟩)
        · have h5 : n = fst w := by omega
          exact .inr ⟨h1, h5, h5 ▸ h3⟩
theorem mem_go2 {w u : List Nat} {st : St} : ∀ {n : Nat}, u ∈ (goG M w st n).2 ↔ u ∈ st.2 ∨ ∃ g, g < n ∧ u = w ++ [g] ∧ M (fin w) g ≠ 0 ∧ fst w < g ∧ g ∉ w
  | 0 => by simp [goG_zero]
  | n + 1 => by
    rw [goG_succ, mem_step2, mem_go2 (n := n)]
    constructor
    · rintro ((h | ⟨g, hg, h⟩) | h)
      · exact .inl h
      · exact .inr ⟨g, by omega, h⟩
      · exact .inr ⟨n, by omega, h⟩
    · rintro (h | ⟨g, hg, h⟩)
      · exact .inl (.inl h)
      · by_cases h4 : g < n
        · exact .inl (.inr ⟨g, h4, h⟩)
        · have h5 : g = n := by omega
          exact .inr (h5 ▸ h)
theorem mem_goW1 {u : List Nat} : ∀ {ws : List (List Nat)} {st : St}, u ∈ (goW M ws st).1 ↔ u ∈ st.1 ∨ (u ∈ ws ∧ fst u < 4 ∧ M (fin u) (fst u) ≠ 0)
  | [], st => by simp [goW]
  | w :: ws, st => by
    show u ∈ (goW M ws (goG M w st 4)).1 ↔ _
    rw [mem_goW1, mem_go1]
    constructor
    · rintro ((h | ⟨rfl, h2, h3⟩) | ⟨h1, h2⟩)
      · exact .inl h
      · exact .inr ⟨.head _, h2, h3⟩
      · exact .inr ⟨.tail _ h1, h2⟩
    · rintro (h | ⟨h1, h2, h3⟩)
      · exact .inl (.inl h)
      · rcases List.mem_cons.mp h1 with rfl | h1
        · exact .inl (.inr ⟨rfl, h2, h3⟩)
        · exact .inr ⟨h1, h2, h3⟩
theorem mem_goW2 {u : List Nat} : ∀ {ws : List (List Nat)} {st : St}, u ∈ (goW M ws st).2 ↔ u ∈ st.2 ∨ ∃ w ∈ ws, ∃ g, g < 4 ∧ u = w ++ [g] ∧ M (fin w) g ≠ 0 ∧ fst w < g ∧ g ∉ w
  | [], st => by simp [goW]
  | w :: ws, st => by
    show u ∈ (goW M ws (goG M w st 4)).2 ↔ _
    rw [mem_goW2, mem_go2]
    constructor
    · rintro ((h | h) | ⟨v, hv, h⟩)
      · exact .inl h
      · exact .inr ⟨w, .head _, h⟩
      · exact .inr ⟨v, .tail _ hv, h⟩
    · rintro (h | ⟨v, hv, h⟩)
      · exact .inl (.inl h)
      · rcases List.mem_cons.mp hv with rfl | hv
        · exact .inl (.inr h)
        · exact .inr ⟨v, hv, h⟩
theorem mem_stage1 {u : List Nat} {t : Nat} : u ∈ (stage M (t + 1)).1 ↔ u ∈ (stage M t).1 ∨ (u ∈ (stage M t).2 ∧ fst u < 4 ∧ M (fin u) (fst u) ≠ 0) := mem_goW1
theorem mem_stage2 {u : List Nat} {t : Nat} : u ∈ (stage M (t + 1)).2 ↔ ∃ w ∈ (stage M t).2, ∃ g, g < 4 ∧ u = w ++ [g] ∧ M (fin w) g ≠ 0 ∧ fst w < g ∧ g ∉ w := by
  rw [show (stage M (t + 1)).2 = (goW M (stage M t).2 ((stage M t).1, [])).2 from rfl, mem_goW2]
  simp
theorem mem_ranked {u : List Nat} : u ∈ ranked M ↔ ∃ t, t < 4 ∧ u ∈ (stage M t).2 ∧ fst u < 4 ∧ M (fin u) (fst u) ≠ 0 := by
  have key : ∀ n, u ∈ (stage M n).1 ↔ ∃ t, t < n ∧ u ∈ (stage M t).2 ∧ fst u < 4 ∧ M (fin u) (fst u) ≠ 0 := by
    intro n
    induction n with
    | zero => simp [stage]
    | succ n ih =>
      rw [mem_stage1, ih]
      constructor
      · rintro (⟨t, ht, h⟩ | h)
        · exact ⟨t, by omega, h⟩
        · exact ⟨n, by omega, h⟩
      · rintro ⟨t, ht, h⟩
        by_cases q : t < n
        · exact .inl ⟨t, q, h⟩
        · have : t = n := by omega
          exact .inr (this ▸ h)
  exact key 4
theorem st0 {a : Nat} (ha : a < 4) : [a] ∈ (stage M 0).2 := by
  have : a = 0 ∨ a = 1 ∨ a = 2 ∨ a = 3 := by omega
  rcases this with rfl | rfl | rfl | rfl <;> simp [stage]
theorem st1 {a b : Nat} (hb : b < 4) (h : a < b) (e1 : M a b ≠ 0) : [a, b] ∈ (stage M 1).2 :=
  mem_stage2.mpr ⟨[a], st0 (Nat.lt_trans h hb), b, hb, rfl, e1, h, nm_cons (Nat.ne_of_gt h) (nm_nil _)⟩
theorem st2 {a b c : Nat} (hb : b < 4) (hc : c < 4) (h : a < b) (h' : a < c) (n1 : b ≠ c) (e1 : M a b ≠ 0) (e2 : M b c ≠ 0) : [a, b, c] ∈ (stage M 2).2 :=
  mem_stage2.mpr ⟨[a, b], st1 hb h e1, c, hc, rfl, e2, h', nm_cons (Nat.ne_of_gt h') (nm_cons (Ne.symm n1) (nm_nil _))⟩
theorem st3 {a b c d : Nat} (hb : b < 4) (hc : c < 4) (hd : d < 4) (h : a < b) (h' : a < c) (h'' : a < d) (n1 : b ≠ c) (n2 : b ≠ d) (n3 : c ≠ d) (e1 : M a b ≠ 0) (e2 : M b c ≠ 0) (e3 : M c d ≠ 0) : [a, b, c, d] ∈ (stage M 3).2 :=
  mem_stage2.mpr ⟨[a, b, c], st2 hb hc h h' n1 e1 e2, d, hd, rfl, e3, h'', nm_cons (Nat.ne_of_gt h'') (nm_cons (Ne.symm n2) (nm_cons (Ne.symm n3) (nm_nil _)))⟩
/-- what a round is worth -/
def sumW (M : Nat → Nat → Nat) (ps : List (Nat × Nat)) : Nat := (ps.map fun p => M p.1 p.2).sum
def worth (M : Nat → Nat → Nat) (w : List Nat) : Int := (12 / (cyc w).length : Nat) * (sumW M (cyc w) : Int)
theorem worth1 {a : Nat} : worth M [a] = 12 * (M a a : Int) := by
  simp [worth, sumW, cyc, cycAt, fin]
theorem worth2 {a b : Nat} : worth M [a, b] = 6 * ((M b a + M a b : Nat) : Int) := by
  simp [worth, sumW, cyc, cycAt, fin, List.range_succ]
theorem worth3 {a b c : Nat} : worth M [a, b, c] = 4 * ((M c a + M a b + M b c : Nat) : Int) := by
  simp [worth, sumW, cyc, cycAt, fin, List.range_succ, Int.add_assoc]
theorem worth4 {a b c d : Nat} : worth M [a, b, c, d] = 3 * ((M d a + M a b + M b c + M c d : Nat) : Int) := by
  simp [worth, sumW, cyc, cycAt, fin, List.range_succ, Int.add_assoc]
end
end
section
open PySem PySem.W PyProof.Rows
section
variable {M : Nat → Nat → Nat} {best : Int}
theorem rk1 {a : Nat} (ha : a < 4) (e1 : M a a ≠ 0) : [a] ∈ ranked M := mem_ranked.mpr ⟨0, by decide, st0 ha, ha, e1⟩
theorem rk2 {a b : Nat} (hb : b < 4) (h : a < b) (e1 : M a b ≠ 0) (e2 : M b a ≠ 0) : [a, b] ∈ ranked M := mem_ranked.mpr ⟨1, by decide, st1 hb h e1, by show a < 4; omega, e2⟩
theorem rk3 {a b c : Nat} (hb : b < 4) (hc : c < 4) (h : a < b) (h' : a < c) (n1 : b ≠ c) (e1 : M a b ≠ 0) (e2 : M b c ≠ 0) (e3 : M c a ≠ 0) : [a, b, c] ∈ ranked M := mem_ranked.mpr ⟨2, by decide, st2 hb hc h h' n1 e1 e2, by show a < 4; omega, e3⟩
theorem rk4 {a b c d : Nat} (hb : b < 4) (hc : c < 4) (hd : d < 4) (h : a < b) (h' : a < c) (h'' : a < d) (n1 : b ≠ c) (n2 : b ≠ d) (n3 : c ≠ d) (e1 : M a b ≠ 0) (e2 : M b c ≠ 0) (e3 : M c d ≠ 0) (e4 : M d a ≠ 0) : [a, b, c, d] ∈ ranked M := mem_ranked.mpr ⟨3, by decide, st3 hb hc hd h h' h'' n1 n2 n3 e1 e2 e3, by show a < 4; omega, e4⟩
/-- small sums -/
theorem ar21 {x y : Nat} (h : 12 * (x : Int) ≤ best) (h' : 12 * (y : Int) ≤ best) : 12 * ((x + y : Nat) : Int) ≤ 2 * best := by omega
theorem ar22 {x y : Nat} (h : 6 * ((y + x : Nat) : Int) ≤ best) : 12 * ((x + y : Nat) : Int) ≤ 2 * best := by omega
theorem ar23 {x y : Nat} (h : 6 * ((x + y : Nat) : Int) ≤ best) : 12 * ((x + y : Nat) : Int) ≤ 2 * best := by omega
theorem ar31 {x y z : Nat} (h : 12 * (x : Int) ≤ best) (h' : 12 * ((y + z : Nat) : Int) ≤ 2 * best) : 12 * ((x + y + z : Nat) : Int) ≤ 3 * best := by omega
theorem ar32 {x y z : Nat} (h : 12 * (y : Int) ≤ best) (h' : 12 * ((x + z : Nat) : Int) ≤ 2 * best) : 12 * ((x + y + z : Nat) : Int) ≤ 3 * best := by omega
theorem ar33 {x y z : Nat} (h : 12 * (z : Int) ≤ best) (h' : 12 * ((x + y : Nat) : Int) ≤ 2 * best) : 12 * ((x + y + z : Nat) : Int) ≤ 3 * best := by omega
theorem ar34 {x y z : Nat} (h : 4 * ((z + x + y : Nat) : Int) ≤ best) : 12 * ((x + y + z : Nat) : Int) ≤ 3 * best := by omega
theorem ar35 {x y z : Nat} (h : 4 * ((x + y + z : Nat) : Int) ≤ best) : 12 * ((x + y + z : Nat) : Int) ≤ 3 * best := by omega
theorem ar36 {x y z : Nat} (h : 4 * ((y + z + x : Nat) : Int) ≤ best) : 12 * ((x + y + z : Nat) : Int) ≤ 3 * best := by omega
theorem ar41 {x y z u : Nat} (h : 12 * (x : Int) ≤ best) (h' : 12 * ((y + z + u : Nat) : Int) ≤ 3 * best) : 12 * ((x + y + z + u : Nat) : Int) ≤ 4 * best := by omega
theorem ar42 {x y z u : Nat} (h : 12 * (y : Int) ≤ best) (h' : 12 * ((x + z + u : Nat) : Int) ≤ 3 * best) : 12 * ((x + y + z + u : Nat) : Int) ≤ 4 * best := by omega
theorem ar43 {x y z u : Nat} (h : 12 * (z : Int) ≤ best) (h' : 12 * ((x + y + u : Nat) : Int) ≤ 3 * best) : 12 * ((x + y + z + u : Nat) : Int) ≤ 4 * best := by omega
theorem ar44 {x y z u : Nat} (h : 12 * (u : Int) ≤ best) (h' : 12 * ((x + y + z : Nat) : Int) ≤ 3 * best) : 12 * ((x + y + z + u : Nat) : Int) ≤ 4 * best := by omega
theorem ar45 {x y z u : Nat} (h : 12 * ((x + y : Nat) : Int) ≤ 2 * best) (h' : 12 * ((z + u : Nat) : Int) ≤ 2 * best) : 12 * ((x + y + z + u : Nat) : Int) ≤ 4 * best := by omega
theorem ar46 {x y z u : Nat} (h : 12 * ((x + u : Nat) : Int) ≤ 2 * best) (h' : 12 * ((y + z : Nat) : Int) ≤ 2 * best) : 12 * ((x + y + z + u : Nat) : Int) ≤ 4 * best := by omega
theorem ar47 {x y z u : Nat} (h : 3 * ((u + x + y + z : Nat) : Int) ≤ best) : 12 * ((x + y + z + u : Nat) : Int) ≤ 4 * best := by omega
theorem ar48 {x y z u : Nat} (h : 3 * ((x + y + z + u : Nat) : Int) ≤ best) : 12 * ((x + y + z + u : Nat) : Int) ≤ 4 * best := by omega
theorem ar49 {x y z u : Nat} (h : 3 * ((y + z + u + x : Nat) : Int) ≤ best) : 12 * ((x + y + z + u : Nat) : Int) ≤ 4 * best := by omega
theorem ar40 {x y z u : Nat} (h : 3 * ((z + u + x + y : Nat) : Int) ≤ best) : 12 * ((x + y + z + u : Nat) : Int) ≤ 4 * best := by omega
theorem least2 {a b : Nat} (h : a ≠ b) : a < b ∨ b < a := by omega
theorem least3 {a b c : Nat} (h1 : a ≠ b) (h2 : b ≠ c) (h3 : c ≠ a) : (a < b ∧ a < c) ∨ (b < c ∧ b < a) ∨ (c < a ∧ c < b) := by
  rcases least2 h1 with p | p
  · rcases least2 h3 with q | q
    · exact .inr (.inr ⟨q, Nat.lt_trans q p⟩)
    · exact .inl ⟨p, q⟩
  · rcases least2 h2 with q | q
    · exact .inr (.inl ⟨q, p⟩)
    · exact .inr (.inr ⟨Nat.lt_trans q p, q⟩)
theorem least4 {a b c d : Nat} (h1 : a ≠ b) (h2 : b ≠ c) (h3 : c ≠ d) (h4 : d ≠ a) (h5 : a ≠ c) (h6 : b ≠ d) : (a < b ∧ a < c ∧ a < d) ∨ (b < c ∧ b < d ∧ b < a) ∨ (c < d ∧ c < a ∧ c < b) ∨ (d < a ∧ d < b ∧ d < c) := by
  rcases least2 h1 with p | p <;> rcases least2 h3 with q | q
  · rcases least2 h5 with r | r
    · exact .inl ⟨p, r, Nat.lt_trans r q⟩
    · exact .inr (.inr (.inl ⟨q, r, Nat.lt_trans r p⟩))
  · rcases least2 h4 with r | r
    · exact .inr (.inr (.inr ⟨r, Nat.lt_trans r p, q⟩))
    · exact .inl ⟨p, Nat.lt_trans r q, r⟩
  · rcases least2 h2 with r | r
    · exact .inr (.inl ⟨r, Nat.lt_trans r q, p⟩)
    · exact .inr (.inr (.inl ⟨q, Nat.lt_trans r p, r⟩))
  · rcases least2 h6 with r | r
    · exact .inr (.inl ⟨Nat.lt_trans r q, r, p⟩)
    · exact .inr (.inr (.inr ⟨Nat.lt_trans r p, r, q⟩))
theorem le_w1 (hb : ∀ w ∈ ranked M, worth M w ≤ best) {a : Nat} (h : [a] ∈ ranked M) : 12 * (M a a : Int) ≤ best := worth1 (M := M) ▸ hb _ h
theorem le_w2 (hb : ∀ w ∈ ranked M, worth M w ≤ best) {a b : Nat} (h : [a, b] ∈ ranked M) : 6 * ((M b a + M a b : Nat) : Int) ≤ best := worth2 (M := M) ▸ hb _ h
theorem le_w3 (hb : ∀ w ∈ ranked M, worth M w ≤ best) {a b c : Nat} (h : [a, b, c] ∈ ranked M) : 4 * ((M c a + M a b + M b c : Nat) : Int) ≤ best := worth3 (M := M) ▸ hb _ h
theorem le_w4 (hb : ∀ w ∈ ranked M, worth M w ≤ best) {a b c d : Nat} (h : [a, b, c, d] ∈ ranked M) : 3 * ((M d a + M a b + M b c + M c d : Nat) : Int) ≤ best := worth4 (M := M) ▸ hb _ h
/-- rows of ways that come back are never worth more than the best round -/
theorem cl1 (hb : ∀ w ∈ ranked M, worth M w ≤ best) {a : Nat} (ha : a < 4) (e1 : M a a ≠ 0) : 12 * (M a a : Int) ≤ best := le_w1 hb (rk1 ha e1)
theorem cl2 (hb : ∀ w ∈ ranked M, worth M w ≤ best) {a b : Nat} (ha : a < 4) (hb4 : b < 4) (e1 : M a b ≠ 0) (e2 : M b a ≠ 0) : 12 * ((M a b + M b a : Nat) : Int) ≤ 2 * best := by
  by_cases h : a = b
  · subst h
    exact ar21 (cl1 hb ha e1) (cl1 hb ha e1)
  rcases least2 h with h2 | h2
  · exact ar22 (le_w2 hb (rk2 hb4 h2 e1 e2))
  · exact ar23 (le_w2 hb (rk2 ha h2 e2 e1))
theorem cl3 (hb : ∀ w ∈ ranked M, worth M w ≤ best) {a b c : Nat} (ha : a < 4) (hb4 : b < 4) (hc : c < 4) (e1 : M a b ≠ 0) (e2 : M b c ≠ 0) (e3 : M c a ≠ 0) : 12 * ((M a b + M b c + M c a : Nat) : Int) ≤ 3 * best := by
  by_cases h1 : a = b
  · subst h1
    exact ar31 (cl1 hb ha e1) (cl2 hb ha hc e2 e3)
  by_cases h2 : b = c
  · subst h2
    exact ar32 (cl1 hb hb4 e2) (cl2 hb ha hb4 e1 e3)
  by_cases h3 : c = a
  · subst h3
    exact ar33 (cl1 hb hc e3) (cl2 hb hc hb4 e1 e2)
  rcases least3 h1 h2 h3 with l | l | l
  · exact ar34 (le_w3 hb (rk3 hb4 hc l.1 l.2 h2 e1 e2 e3))
  · exact ar35 (le_w3 hb (rk3 hc ha l.1 l.2 h3 e2 e3 e1))
  · exact ar36 (le_w3 hb (rk3 ha hb4 l.1 l.2 h1 e3 e1 e2))
theorem cl4 (hb : ∀ w ∈ ranked M, worth M w ≤ best) {a b c d : Nat} (ha : a < 4) (hb4 : b < 4) (hc : c < 4) (hd : d < 4) (e1 : M a b ≠ 0) (e2 : M b c ≠ 0) (e3 : M c d ≠ 0) (e4 : M d a ≠ 0) : 12 * ((M a b + M b c + M c d + M d a : Nat) : Int) ≤ 4 * best := by
  by_cases h1 : a = b
  · subst h1
    exact ar41 (cl1 hb ha e1) (cl3 hb ha hc hd e2 e3 e4)
  by_cases h2 : b = c
  · subst h2
    exact ar42 (cl1 hb hb4 e2) (cl3 hb ha hb4 hd e1 e3 e4)
  by_cases h3 : c = d
  · subst h3
    exact ar43 (cl1 hb hc e3) (cl3 hb ha hb4 hc e1 e2 e4)
  by_cases h4 : d = a
  · subst h4
    exact ar44 (cl1 hb hd e4) (cl3 hb hd hb4 hc e1 e2 e3)
  by_cases h5 : a = c
  · subst h5
    exact ar45 (cl2 hb ha hb4 e1 e2) (cl2 hb ha hd e3 e4)
  by_cases h6 : b = d
  · subst h6
    exact ar46 (cl2 hb ha hb4 e1 e4) (cl2 hb hb4 hc e2 e3)
  rcases least4 h1 h2 h3 h4 h5 h6 with l | l | l | l
  · exact ar47 (le_w4 hb (rk4 hb4 hc hd l.1 l.2.1 l.2.2 h2 h6 h3 e1 e2 e3 e4))
  · exact ar48 (le_w4 hb (rk4 hc hd ha l.1 l.2.1 l.2.2 h3 (Ne.symm h5) h4 e2 e3 e4 e1))
  · exact ar49 (le_w4 hb (rk4 hd ha hb4 l.1 l.2.1 l.2.2 h4 (Ne.symm h6) h1 e3 e4 e1 e2))
  · exact ar40 (le_w4 hb (rk4 ha hb4 hc l.1 l.2.1 l.2.2 h1 h5 h2 e4 e1 e2 e3))
theorem wg1 {i j : Nat} (hi : i < 4) (h1 : Wd M 0 i ≠ 0) (h2 : M i j ≠ 0) : 4 + M i j ≤ Wd M 1 j := Wd_ge hi h1 h2
theorem wg2 {i j : Nat} (hi : i < 4) (h1 : Wd M 1 i ≠ 0) (h2 : M i j ≠ 0) : Wd M 1 i + M i j ≤ Wd M 2 j := Wd_ge hi h1 h2
theorem wg3 {i j : Nat} (hi : i < 4) (h1 : Wd M 2 i ≠ 0) (h2 : M i j ≠ 0) : Wd M 2 i + M i j ≤ Wd M 3 j := Wd_ge hi h1 h2
theorem wg4 {i j : Nat} (hi : i < 4) (h1 : Wd M 3 i ≠ 0) (h2 : M i j ≠ 0) : Wd M 3 i + M i j ≤ Wd M 4 j := Wd_ge hi h1 h2
theorem wl2 {i j k : Nat} (hi : i < 4) (hj : j < 4) (h1 : M i j ≠ 0) (h2 : M j k ≠ 0) : 4 + M i j + M j k ≤ Wd M 2 k := by
  have g1 := wg1 hi (fun q => Nat.noConfusion q) h1
  exact Nat.le_trans (Nat.add_le_add_right g1 _) (wg2 hj (Nat.ne_of_gt (Nat.lt_of_lt_of_le (by decide : 0 < 4) (Nat.le_trans (Nat.le_add_right 4 _) g1))) h2)
theorem wl3 {i j k l : Nat} (hi : i < 4) (hj : j < 4) (hk : k < 4) (h1 : M i j ≠ 0) (h2 : M j k ≠ 0) (h3 : M k l ≠ 0) : 4 + M i j + M j k + M k l ≤ Wd M 3 l := by
  have g1 := wl2 hi hj h1 h2
  exact Nat.le_trans (Nat.add_le_add_right g1 _) (wg3 hk (Nat.ne_of_gt (Nat.lt_of_lt_of_le (by decide : 0 < 4) (Nat.le_trans (Nat.le_trans (Nat.le_add_right 4 _) (Nat.le_add_right _ _)) g1))) h3)
theorem ct3 {x C w : Nat} (h : 12 * (C : Int) ≤ best) (e : x ≤ w + C) : 12 * ((x : Int) - w) ≤ (4 - ((3 : Nat) : Int)) * best := by omega
theorem ct2 {x C w : Nat} (h : 12 * (C : Int) ≤ 2 * best) (e : x ≤ w + C) : 12 * ((x : Int) - w) ≤ (4 - ((2 : Nat) : Int)) * best := by omega
theorem ct1 {x C w : Nat} (h : 12 * (C : Int) ≤ 3 * best) (e : x ≤ w + C) : 12 * ((x : Int) - w) ≤ (4 - ((1 : Nat) : Int)) * best := by omega
theorem ct0 {x C w : Nat} (h : 12 * (C : Int) ≤ 4 * best) (e : x ≤ w + C) : 12 * ((x : Int) - w) ≤ (4 - ((0 : Nat) : Int)) * best := by omega
theorem cs1 {x y z u w : Nat} (h : 4 + y + z + u ≤ w) : 4 + x + y + z + u ≤ w + x := by omega
theorem cs2 {x y z u w : Nat} (h : 4 + x + z + u ≤ w) : 4 + x + y + z + u ≤ w + y := by omega
theorem cs3 {x y z u w : Nat} (h : 4 + x + y + u ≤ w) : 4 + x + y + z + u ≤ w + z := by omega
theorem cs4 {x y z u w : Nat} (h : 4 + x + y + z ≤ w) : 4 + x + y + z + u ≤ w + u := by omega
theorem cs5 {x y z u w : Nat} (h : 4 + z + u ≤ w) : 4 + x + y + z + u ≤ w + (x + y) := by omega
theorem cs6 {x y z u w : Nat} (h : 4 + x + u ≤ w) : 4 + x + y + z + u ≤ w + (y + z) := by omega
theorem cs7 {x y z u w : Nat} (h : 4 + x + y ≤ w) : 4 + x + y + z + u ≤ w + (z + u) := by omega
theorem cs8 {x y z u w : Nat} (h : 4 + u ≤ w) : 4 + x + y + z + u ≤ w + (x + y + z) := by omega
theorem cs9 {x y z u w : Nat} (h : 4 + x ≤ w) : 4 + x + y + z + u ≤ w + (y + z + u) := by omega
theorem cs0 {x y z u : Nat} : 4 + x + y + z + u ≤ 4 + (x + y + z + u) := by omega
theorem five_dup {a b c d v : Nat} (ha : a < 4) (hb : b < 4) (hc : c < 4) (hd : d < 4) (hv : v < 4) : a = b ∨ a = c ∨ a = d ∨ a = v ∨ b = c ∨ b = d ∨ b = v ∨ c = d ∨ c = v ∨ d = v := by
  apply Decidable.byContradiction
  intro q
  simp only [not_or] at q
  obtain ⟨q1, q2, q3, q4, q5, q6, q7, q8, q9, q0⟩ := q
  have n0 : ∀ x : Nat, x ∉ ([] : List Nat) := fun _ h => nomatch h
  have := nodup_short 4 [a, b, c, d, v]
    (List.nodup_cons.mpr ⟨nm_cons q1 (nm_cons q2 (nm_cons q3 (nm_cons q4 (n0 _)))), List.nodup_cons.mpr ⟨nm_cons q5 (nm_cons q6 (nm_cons q7 (n0 _))), List.nodup_cons.mpr ⟨nm_cons q8 (nm_cons q9 (n0 _)), List.nodup_cons.mpr ⟨nm_cons q0 (n0 _), List.nodup_cons.mpr ⟨n0 _, List.nodup_nil⟩⟩⟩⟩⟩)
    (List.forall_mem_cons.mpr ⟨ha, List.forall_mem_cons.mpr ⟨hb, List.forall_mem_cons.mpr ⟨hc, List.forall_mem_cons.mpr ⟨hd, List.forall_mem_cons.mpr ⟨hv, fun _ h => nomatch h⟩⟩⟩⟩⟩)
  exact absurd this (by decide : ¬ (5 : Nat) ≤ 4)
/-- a place that four ways lead to: some shorter row leads there, and what lies between is a row that comes back -/
theorem four_cut (hb : ∀ w ∈ ranked M, worth M w ≤ best) {v : Nat} (hv : v < 4) (h : Wd M 4 v ≠ 0) : ∃ k, k < 4 ∧ Wd M k v ≠ 0 ∧ 12 * ((Wd M 4 v : Int) - Wd M k v) ≤ (4 - k) * best := by
  have k0 := Wd_four (k := 0) (by decide) h
  have k1 := Wd_four (k := 1) (by decide) h
  have k2 := Wd_four (k := 2) (by decide) h
  have k3 := Wd_four (k := 3) (by decide) h
  obtain ⟨d, hd, wd, md, ed⟩ := Wd_from h
  obtain ⟨c, hc, wc, mc, ec⟩ := Wd_from wd
  obtain ⟨b, hb4, wb, mb, eb⟩ := Wd_from wc
  obtain ⟨a, ha, _, ma, ea⟩ := Wd_from wb
  replace ed : Wd M 4 v = 4 + M a b + M b c + M c d + M d v := ed.trans (congrArg (· + M d v) (ec.trans (congrArg (· + M c d) (eb.trans (congrArg (· + M b c) ea)))))
  clear wd wc wb ec eb ea h
  rw [ed]
  clear ed
  have z0 : ∀ x, Wd M 0 x ≠ 0 := fun _ q => Nat.noConfusion q
  rcases five_dup ha hb4 hc hd hv with rfl | rfl | rfl | rfl | rfl | rfl | rfl | rfl | rfl | rfl
  · exact ⟨3, by decide, k3, ct3 (cl1 hb ha ma) (cs1 (wl3 ha hc hd mb mc md))⟩
  · exact ⟨2, by decide, k2, ct2 (cl2 hb ha hb4 ma mb) (cs5 (wl2 ha hd mc md))⟩
  · exact ⟨1, by decide, k1, ct1 (cl3 hb ha hb4 hc ma mb mc) (cs8 (wg1 ha (z0 _) md))⟩
  · exact ⟨0, by decide, k0, ct0 (cl4 hb ha hb4 hc hd ma mb mc md) cs0⟩
  · exact ⟨3, by decide, k3, ct3 (cl1 hb hb4 mb) (cs2 (wl3 ha hb4 hd ma mc md))⟩
  · exact ⟨2, by decide, k2, ct2 (cl2 hb hb4 hc mb mc) (cs6 (wl2 ha hb4 ma md))⟩
  · exact ⟨1, by decide, k1, ct1 (cl3 hb hb4 hc hd mb mc md) (cs9 (wg1 ha (z0 _) ma))⟩
  · exact ⟨3, by decide, k3, ct3 (cl1 hb hc mc) (cs3 (wl3 ha hb4 hc ma mb md))⟩
  · exact ⟨2, by decide, k2, ct2 (cl2 hb hc hd mc md) (cs7 (wl2 ha hb4 ma mb))⟩
  · exact ⟨3, by decide, k3, ct3 (cl1 hb hd md) (cs4 (wl3 ha hb4 hc ma mb mc))⟩
end
end
section
open PySem PySem.W PyProof.Rows
/-- the least and the greatest of a list -/
def mnL : List Int → Int
  | [] => 0
  | [a] => a
  | a :: b :: l => if a ≤ mnL (b :: l) then a else mnL (b :: l)
def mxL : List Int → Int
  | [] => 0
  | [a] => a
  | a :: b :: l => if mxL (b :: l) ≤ a then a else mxL (b :: l)
theorem mnL_spec : ∀ {l : List Int}, l ≠ [] → mnL l ∈ l ∧ ∀ x ∈ l, mnL l ≤ x
  | [], h => absurd rfl h
  | [a], _ => ⟨.head _, fun x hx => by rw [List.mem_singleton.mp hx]; exact Int.le_refl _⟩
  | a :: b :: l, _ => by
    have ih := mnL_spec (l := b :: l) (by simp)
    show (if a ≤ mnL (b :: l) then a else mnL (b :: l)) ∈ _ ∧ ∀ x ∈ _, (if a ≤ mnL (b :: l) then a else mnL (b :: l)) ≤ x
    by_cases h : a ≤ mnL (b :: l)
    · rw [if_pos h]
      refine ⟨.head _, fun x hx => ?_⟩
      rcases List.mem_cons.mp hx with rfl | hx
      · exact Int.le_refl _
      · exact Int.le_trans h (ih.2 x hx)
    · rw [if_neg h]
      refine ⟨.tail _ ih.1, fun x hx => ?_⟩
      rcases List.mem_cons.mp hx with rfl | hx
      · omega
      · exact ih.2 x hx
theorem mxL_spec : ∀ {l : List Int}, l ≠ [] → mxL l ∈ l ∧ ∀ x ∈ l, x ≤ mxL l
  | [], h => absurd rfl h
  | [a], _ => ⟨.head _, fun x hx => by rw [List.mem_singleton.mp hx]; exact Int.le_refl _⟩
  | a :: b :: l, _ => by
    have ih := mxL_spec (l := b :: l) (by simp)
    show (if mxL (b :: l) ≤ a then a else mxL (b :: l)) ∈ _ ∧ ∀ x ∈ _, x ≤ (if mxL (b :: l) ≤ a then a else mxL (b :: l))
    by_cases h : mxL (b :: l) ≤ a
    · rw [if_pos h]
      refine ⟨.head _, fun x hx => ?_⟩
      rcases List.mem_cons.mp hx with rfl | hx
      · exact Int.le_refl _
      · exact Int.le_trans (ih.2 x hx) h
    · rw [if_neg h]
      refine ⟨.tail _ ih.1, fun x hx => ?_⟩
      rcases List.mem_cons.mp hx with rfl | hx
      · omega
      · exact ih.2 x hx
theorem mnL_eq {l : List Int} {m : Int} (h1 : m ∈ l) (h2 : ∀ x ∈ l, m ≤ x) : m = mnL l := by
  have h := mnL_spec (l := l) (fun q => by rw [q] at h1; cases h1)
  exact Int.le_antisymm (h2 _ h.1) (h.2 _ h1)
theorem mxL_eq {l : List Int} {m : Int} (h1 : m ∈ l) (h2 : ∀ x ∈ l, x ≤ m) : m = mxL l := by
  have h := mxL_spec (l := l) (fun q => by rw [q] at h1; cases h1)
  exact Int.le_antisymm (h.2 _ h1) (h2 _ h.1)
def coef : Nat → Int
  | 0 => 3
  | 1 => 4
  | 2 => 6
  | _ => 12
def tkv (M : Nat → Nat → Nat) (p k : Nat) : Int := coef k * ((Wd M 4 p : Int) - (Wd M k p : Int))
def tv (M : Nat → Nat → Nat) (p : Nat) : Int := mnL ((List.range 4).map (tkv M p))
def toldL (M : Nat → Nat → Nat) (n : Nat) : List Int := ((List.range n).filter fun p => Wd M 4 p ≠ 0).map (tv M)
def pkv (M : Nat → Nat → Nat) (best : Int) (p k : Nat) : Int := 12 * ((Wd M k p : Int) - 4) - (k : Int) * best
def prc (M : Nat → Nat → Nat) (best : Int) (p : Nat) : Int := mxL (((List.range 4).filter fun k => Wd M k p ≠ 0).map (pkv M best p))
section
variable {M : Nat → Nat → Nat} {best : Int}
theorem four_cases : ∀ {k : Nat}, k < 4 → k = 0 ∨ k = 1 ∨ k = 2 ∨ k = 3
  | 0, _ => .inl rfl
  | 1, _ => .inr (.inl rfl)
  | 2, _ => .inr (.inr (.inl rfl))
  | 3, _ => .inr (.inr (.inr rfl))
  | n + 4, h => absurd h (Nat.not_lt.mpr (Nat.le_add_left 4 n))
theorem tv_le {p k : Nat} (hk : k < 4) : tv M p ≤ tkv M p k := (mnL_spec (l := (List.range 4).map (tkv M p)) (by simp)).2 _ (List.mem_map.mpr ⟨k, List.mem_range.mpr hk, rfl⟩)
theorem tv_ex (M : Nat → Nat → Nat) (p : Nat) : ∃ k, k < 4 ∧ tv M p = tkv M p k := by
  obtain ⟨k, hk, e⟩ := List.mem_map.mp (mnL_spec (l := (List.range 4).map (tkv M p)) (by simp)).1
  exact ⟨k, List.mem_range.mp hk, e.symm⟩
theorem prc_ne (M : Nat → Nat → Nat) (best : Int) (p : Nat) : ((List.range 4).filter fun k => Wd M k p ≠ 0).map (pkv M best p) ≠ [] := by
  intro q
  have h0 : (0 : Nat) ∈ (List.range 4).filter fun k => Wd M k p ≠ 0 := List.mem_filter.mpr ⟨by decide, by rw [show Wd M 0 p = 4 from rfl]; decide⟩
  have := List.mem_map.mpr ⟨0, h0, (rfl : pkv M best p 0 = _)⟩
  rw [q] at this
  cases this
theorem prc_ge {p k : Nat} (hk : k < 4) (h : Wd M k p ≠ 0) : 12 * ((Wd M k p : Int) - 4) - (k : Int) * best ≤ prc M best p :=
  (mxL_spec (prc_ne M best p)).2 _ (List.mem_map.mpr ⟨k, List.mem_filter.mpr ⟨List.mem_range.mpr hk, by simpa using h⟩, rfl⟩)
theorem prc_ex (M : Nat → Nat → Nat) (best : Int) (p : Nat) : ∃ k, k < 4 ∧ Wd M k p ≠ 0 ∧ prc M best p = 12 * ((Wd M k p : Int) - 4) - (k : Int) * best := by
  obtain ⟨k, hk, e⟩ := List.mem_map.mp (mxL_spec (prc_ne M best p)).1
  obtain ⟨h1, h2⟩ := List.mem_filter.mp hk
  exact ⟨k, List.mem_range.mp h1, by simpa using h2, e.symm⟩
/-- no way's price is over -/
theorem price_ok (hb : ∀ w ∈ ranked M, worth M w ≤ best) {u v : Nat} (hu : u < 4) (hv : v < 4) (e : M u v ≠ 0) : 12 * (M u v : Int) + prc M best u ≤ best + prc M best v := by
  obtain ⟨k, hk, h0, he⟩ := prc_ex M best u
  have hg := Wd_ge hu h0 e
  have hcase := four_cases hk
  rcases hcase with rfl | rfl | rfl | rfl
  · have g := wg1 hu h0 e
    have z : Wd M 0 u = 4 := rfl
    have := prc_ge (best := best) (M := M) (p := v) (k := 1) (by decide) (by omega)
    omega
  · have g := wg2 hu h0 e
    have := prc_ge (best := best) (M := M) (p := v) (k := 2) (by decide) (by omega)
    omega
  · have g := wg3 hu h0 e
    have := prc_ge (best := best) (M := M) (p := v) (k := 3) (by decide) (by omega)
    omega
  · have h4 : Wd M 4 v ≠ 0 := by
      have : Wd M 3 u + M u v ≤ Wd M 4 v := hg
      omega
    obtain ⟨j, hj, hj0, hjc⟩ := four_cut hb hv h4
    have h5 := prc_ge (best := best) hj hj0
    have h6 : Wd M 3 u + M u v ≤ Wd M 4 v := hg
    have hcase2 := four_cases hj
    rcases hcase2 with rfl | rfl | rfl | rfl <;> omega
/-- by the widths: never over the best round -/
theorem told_le (hb : ∀ w ∈ ranked M, worth M w ≤ best) {v : Nat} (hv : v < 4) (h : Wd M 4 v ≠ 0) : tv M v ≤ best := by
  obtain ⟨k, hk, h0, hc⟩ := four_cut hb hv h
  have h1 := tv_le (M := M) (p := v) hk
  unfold tkv at h1
  have hcase2 := four_cases hk
  rcases hcase2 with rfl | rfl | rfl | rfl <;> simp only [coef] at h1 <;> omega
/-- where all four steps are tight, the place tells the best round -/
theorem tight_ge {v : Nat} (h : Wd M 4 v ≠ 0) (hp : prc M best v ≤ 12 * ((Wd M 4 v : Int) - 4) - 4 * best) : best ≤ tv M v := by
  obtain ⟨k, hk, he⟩ := tv_ex M v
  rw [he]
  have h0 := Wd_four (k := k) (by omega) h
  have h1 := prc_ge (best := best) hk h0
  unfold tkv
  have hcase2 := four_cases hk
  rcases hcase2 with rfl | rfl | rfl | rfl <;> simp only [coef] <;> omega
/-- tight ways go on to a place that four ways lead to -/
theorem tight_on (S : Nat → Prop) (hS : ∀ u, S u → u < 4 ∧ ∃ v, S v ∧ v < 4 ∧ M u v ≠ 0 ∧ 12 * (M u v : Int) + prc M best u = best + prc M best v) {u : Nat} (hu : S u) :
    ∃ v, v < 4 ∧ Wd M 4 v ≠ 0 ∧ prc M best v ≤ 12 * ((Wd M 4 v : Int) - 4) - 4 * best := by
  have s1 : ∀ u, S u → Wd M 0 u ≠ 0 → prc M best u ≤ 12 * ((Wd M 0 u : Int) - 4) → ∃ v, S v ∧ Wd M 1 v ≠ 0 ∧ prc M best v ≤ 12 * ((Wd M 1 v : Int) - 4) - best := by
    intro u hu h0 hp
    obtain ⟨hu4, v, hv, hv4, e, he⟩ := hS u hu
    have g := wg1 hu4 h0 e
    have z : Wd M 0 u = 4 := rfl
    exact ⟨v, hv, by omega, by omega⟩
  have s2 : ∀ u, S u → Wd M 1 u ≠ 0 → prc M best u ≤ 12 * ((Wd M 1 u : Int) - 4) - best → ∃ v, S v ∧ Wd M 2 v ≠ 0 ∧ prc M best v ≤ 12 * ((Wd M 2 v : Int) - 4) - 2 * best := by
    intro u hu h0 hp
    obtain ⟨hu4, v, hv, hv4, e, he⟩ := hS u hu
    have g := wg2 hu4 h0 e
    exact ⟨v, hv, by omega, by omega⟩
  have s3 : ∀ u, S u → Wd M 2 u ≠ 0 → prc M best u ≤ 12 * ((Wd M 2 u : Int) - 4) - 2 * best → ∃ v, S v ∧ Wd M 3 v ≠ 0 ∧ prc M best v ≤ 12 * ((Wd M 3 v : Int) - 4) - 3 * best := by
    intro u hu h0 hp
    obtain ⟨hu4, v, hv, hv4, e, he⟩ := hS u hu
    have g := wg3 hu4 h0 e
    exact ⟨v, hv, by omega, by omega⟩
  have s4 : ∀ u, S u → Wd M 3 u ≠ 0 → prc M best u ≤ 12 * ((Wd M 3 u : Int) - 4) - 3 * best → ∃ v, v < 4 ∧ Wd M 4 v ≠ 0 ∧ prc M best v ≤ 12 * ((Wd M 4 v : Int) - 4) - 4 * best := by
    intro u hu h0 hp
    obtain ⟨hu4, v, hv, hv4, e, he⟩ := hS u hu
    have g := wg4 hu4 h0 e
    exact ⟨v, hv4, by omega, by omega⟩
  have f3 : ∀ u, S u → Wd M 2 u ≠ 0 → prc M best u ≤ 12 * ((Wd M 2 u : Int) - 4) - 2 * best → _ := fun u hu h0 hp => let ⟨v, a, b, c⟩ := s3 u hu h0 hp; s4 v a b c
  have f2 : ∀ u, S u → Wd M 1 u ≠ 0 → prc M best u ≤ 12 * ((Wd M 1 u : Int) - 4) - best → _ := fun u hu h0 hp => let ⟨v, a, b, c⟩ := s2 u hu h0 hp; f3 v a b c
  have f1 : ∀ u, S u → Wd M 0 u ≠ 0 → prc M best u ≤ 12 * ((Wd M 0 u : Int) - 4) → _ := fun u hu h0 hp => let ⟨v, a, b, c⟩ := s1 u hu h0 hp; f2 v a b c
  obtain ⟨k, hk, h0, he⟩ := prc_ex M best u
  have hcase := four_cases hk
  rcases hcase with rfl | rfl | rfl | rfl
  · exact f1 u hu h0 (by omega)
  · exact f2 u hu h0 (by omega)
  · exact f3 u hu h0 (by omega)
  · exact s4 u hu h0 (by omega)
theorem st0_inv {w : List Nat} (h : w ∈ (stage M 0).2) : ∃ a, a < 4 ∧ w = [a] := by
  simp only [stage, List.mem_cons, List.not_mem_nil, or_false] at h
  rcases h with rfl | rfl | rfl | rfl
  · exact ⟨0, by decide, rfl⟩
  · exact ⟨1, by decide, rfl⟩
  · exact ⟨2, by decide, rfl⟩
  · exact ⟨3, by decide, rfl⟩
theorem st1_inv {w : List Nat} (h : w ∈ (stage M 1).2) : ∃ a b, a < 4 ∧ b < 4 ∧ M a b ≠ 0 ∧ w = [a, b] := by
  obtain ⟨u, hu, g, hg, rfl, e, _⟩ := mem_stage2.mp h
  obtain ⟨a, ha, rfl⟩ := st0_inv hu
  exact ⟨a, g, ha, hg, e, rfl⟩
theorem st2_inv {w : List Nat} (h : w ∈ (stage M 2).2) : ∃ a b c, a < 4 ∧ b < 4 ∧ c < 4 ∧ M a b ≠ 0 ∧ M b c ≠ 0 ∧ w = [a, b, c] := by
  obtain ⟨u, hu, g, hg, rfl, e, _⟩ := mem_stage2.mp h
  obtain ⟨a, b, ha, hb, e1, rfl⟩ := st1_inv hu
  exact ⟨a, b, g, ha, hb, hg, e1, e, rfl⟩
theorem st3_inv {w : List Nat} (h : w ∈ (stage M 3).2) : ∃ a b c d, a < 4 ∧ b < 4 ∧ c < 4 ∧ d < 4 ∧ M a b ≠ 0 ∧ M b c ≠ 0 ∧ M c d ≠ 0 ∧ w = [a, b, c, d] := by
  obtain ⟨u, hu, g, hg, rfl, e, _⟩ := mem_stage2.mp h
  obtain ⟨a, b, c, ha, hb, hc, e1, e2, rfl⟩ := st2_inv hu
  exact ⟨a, b, c, g, ha, hb, hc, hg, e1, e2, e, rfl⟩
theorem tt2 {x y : Nat} {p q : Int} (he : 6 * ((y + x : Nat) : Int) = best) (p1 : 12 * (x : Int) + p ≤ best + q) (p2 : 12 * (y : Int) + q ≤ best + p) : 12 * (x : Int) + p = best + q ∧ 12 * (y : Int) + q = best + p := by omega
theorem tt3 {x y z : Nat} {p q r : Int} (he : 4 * ((z + x + y : Nat) : Int) = best) (p1 : 12 * (x : Int) + p ≤ best + q) (p2 : 12 * (y : Int) + q ≤ best + r) (p3 : 12 * (z : Int) + r ≤ best + p) : 12 * (x : Int) + p = best + q ∧ 12 * (y : Int) + q = best + r ∧ 12 * (z : Int) + r = best + p := by omega
theorem tt4 {x y z u : Nat} {p q r t : Int} (he : 3 * ((u + x + y + z : Nat) : Int) = best) (p1 : 12 * (x : Int) + p ≤ best + q) (p2 : 12 * (y : Int) + q ≤ best + r) (p3 : 12 * (z : Int) + r ≤ best + t) (p4 : 12 * (u : Int) + t ≤ best + p) : 12 * (x : Int) + p = best + q ∧ 12 * (y : Int) + q = best + r ∧ 12 * (z : Int) + r = best + t ∧ 12 * (u : Int) + t = best + p := by omega
def TightAt (M : Nat → Nat → Nat) (best : Int) (u v : Nat) : Prop := u < 4 ∧ v < 4 ∧ M u v ≠ 0 ∧ 12 * (M u v : Int) + prc M best u = best + prc M best v
theorem tight_rows (l : List (Nat × Nat)) {a : Nat} (h : ∀ e ∈ l, TightAt M best e.1 e.2) (hn : ∀ e ∈ l, ∃ f ∈ l, f.1 = e.2) (ha : ∃ f ∈ l, f.1 = a) : ∃ v, v < 4 ∧ Wd M 4 v ≠ 0 ∧ best ≤ tv M v := by
  obtain ⟨v, hv, h4, hp⟩ := tight_on (M := M) (best := best) (fun x => ∃ f ∈ l, f.1 = x) (fun u ⟨f, hf, e⟩ => e ▸ ⟨(h f hf).1, f.2, hn f hf, (h f hf).2.1, (h f hf).2.2.1, (h f hf).2.2.2⟩) ha
  exact ⟨v, hv, h4, tight_ge h4 hp⟩
theorem all1 {p : Nat × Nat → Prop} {e1 : Nat × Nat} (h1 : p e1) : ∀ e ∈ [e1], p e := List.forall_mem_cons.mpr ⟨h1, fun _ h => nomatch h⟩
theorem round_tight (hb : ∀ w ∈ ranked M, worth M w ≤ best) {w : List Nat} (hw : w ∈ ranked M) (he : worth M w = best) : ∃ v, v < 4 ∧ Wd M 4 v ≠ 0 ∧ best ≤ tv M v := by
  obtain ⟨t, ht, hs, _, hl⟩ := mem_ranked.mp hw
  clear hw
  rcases four_cases ht with rfl | rfl | rfl | rfl
  · obtain ⟨a, ha, rfl⟩ := st0_inv hs
    exact tight_rows [(a, a)] (a := a) (all1 ⟨ha, ha, hl, by rw [← he, worth1]⟩) (all1 ⟨(a, a), .head _, rfl⟩) ⟨(a, a), .head _, rfl⟩
  · obtain ⟨a, b, ha, hb4, e1, rfl⟩ := st1_inv hs
    have t := tt2 (worth2.symm.trans he) (price_ok hb ha hb4 e1) (price_ok hb hb4 ha hl)
    exact tight_rows [(a, b), (b, a)] (a := a) (List.forall_mem_cons.mpr ⟨⟨ha, hb4, e1, t.1⟩, all1 ⟨hb4, ha, hl, t.2⟩⟩) (List.forall_mem_cons.mpr ⟨⟨(b, a), .tail _ (.head _), rfl⟩, all1 ⟨(a, b), .head _, rfl⟩⟩) ⟨(a, b), .head _, rfl⟩
  · obtain ⟨a, b, c, ha, hb4, hc, e1, e2, rfl⟩ := st2_inv hs
    have t := tt3 (worth3.symm.trans he) (price_ok hb ha hb4 e1) (price_ok hb hb4 hc e2) (price_ok hb hc ha hl)
    exact tight_rows [(a, b), (b, c), (c, a)] (a := a) (List.forall_mem_cons.mpr ⟨⟨ha, hb4, e1, t.1⟩, List.forall_mem_cons.mpr ⟨⟨hb4, hc, e2, t.2.1⟩, all1 ⟨hc, ha, hl, t.2.2⟩⟩⟩)
      (List.forall_mem_cons.mpr ⟨⟨(b, c), .tail _ (.head _), rfl⟩, List.forall_mem_cons.mpr ⟨⟨(c, a), .tail _ (.tail _ (.head _)), rfl⟩, all1 ⟨(a, b), .head _, rfl⟩⟩⟩) ⟨(a, b), .head _, rfl⟩
  · obtain ⟨a, b, c, d, ha, hb4, hc, hd, e1, e2, e3, rfl⟩ := st3_inv hs
    have t := tt4 (worth4.symm.trans he) (price_ok hb ha hb4 e1) (price_ok hb hb4 hc e2) (price_ok hb hc hd e3) (price_ok hb hd ha hl)
    exact tight_rows [(a, b), (b, c), (c, d), (d, a)] (a := a) (List.forall_mem_cons.mpr ⟨⟨ha, hb4, e1, t.1⟩, List.forall_mem_cons.mpr ⟨⟨hb4, hc, e2, t.2.1⟩, List.forall_mem_cons.mpr ⟨⟨hc, hd, e3, t.2.2.1⟩, all1 ⟨hd, ha, hl, t.2.2.2⟩⟩⟩⟩)
      (List.forall_mem_cons.mpr ⟨⟨(b, c), .tail _ (.head _), rfl⟩, List.forall_mem_cons.mpr ⟨⟨(c, d), .tail _ (.tail _ (.head _)), rfl⟩, List.forall_mem_cons.mpr ⟨⟨(d, a), .tail _ (.tail _ (.tail _ (.head _))), rfl⟩, all1 ⟨(a, b), .head _, rfl⟩⟩⟩⟩) ⟨(a, b), .head _, rfl⟩
theorem toldL_skip {M : Nat → Nat → Nat} {i : Nat} (h : Wd M 4 i = 0) : toldL M (i + 1) = toldL M i := by
  unfold toldL
  rw [List.range_succ, List.filter_append]
  simp [h]
theorem toldL_snoc {M : Nat → Nat → Nat} {i : Nat} (h : Wd M 4 i ≠ 0) : toldL M (i + 1) = toldL M i ++ [tv M i] := by
  unfold toldL
  rw [List.range_succ, List.filter_append]
  simp [h]
theorem Wd_le {M : Nat → Nat → Nat} (hM : ∀ i j, M i j ≤ 12) {k : Nat} (hk : k ≤ 4) (j : Nat) : Wd M k j ≤ 60 := by
  have := Wd_small hM k j
  omega
theorem tkv_eq {M : Nat → Nat → Nat} {p k : Nat} (hk : k < 4) : (12 : Int).fdiv (4 - (k : Int)) * ((Wd M 4 p : Int) - (Wd M k p : Int)) = tkv M p k := by
  have hcase2 := four_cases hk
  rcases hcase2 with rfl | rfl | rfl | rfl <;> rfl
theorem told_size {M : Nat → Nat → Nat} {i : Nat} (h : i ≤ 4) : (toldL M i).length ≤ sizeLine := by
  unfold toldL
  rw [List.length_map]
  have h1 := List.length_filter_le (fun p => decide (Wd M 4 p ≠ 0)) (List.range i)
  rw [List.length_range] at h1
  rw [sizeLine_eq]
  omega
theorem told_mem {v : Nat} (hv : v < 4) (h : Wd M 4 v ≠ 0) : tv M v ∈ toldL M 4 := List.mem_map.mpr ⟨v, List.mem_filter.mpr ⟨List.mem_range.mpr hv, by simpa using h⟩, rfl⟩
theorem told_inv {x : Int} (h : x ∈ toldL M 4) : ∃ v, v < 4 ∧ Wd M 4 v ≠ 0 ∧ x = tv M v := by
  obtain ⟨v, hv, rfl⟩ := List.mem_map.mp h
  obtain ⟨h1, h2⟩ := List.mem_filter.mp hv
  exact ⟨v, List.mem_range.mp h1, by simpa using h2, rfl⟩
def worthL (M : Nat → Nat → Nat) : List Int := (ranked M).map (worth M)
/-- no round, and nothing told -/
theorem law_none (h : ranked M = []) : toldL M 4 = [] := by
  cases e : toldL M 4 with
  | nil => rfl
  | cons x r =>
    obtain ⟨v, hv, h4, _⟩ := told_inv (M := M) (x := x) (by rw [e]; exact .head _)
    obtain ⟨k, hk, h0, hc⟩ := four_cut (best := -(12 * ((Wd M 0 v : Int) + Wd M 1 v + Wd M 2 v + Wd M 3 v)) - 1) (fun w hw => by rw [h] at hw; cases hw) hv h4
    exfalso
    have hcase := four_cases hk
    rcases hcase with rfl | rfl | rfl | rfl <;> omega
/-- Karp: the best round is told by the widths -/
theorem law_best (h : ranked M ≠ []) : toldL M 4 ≠ [] ∧ mxL (toldL M 4) = mxL (worthL M) := by
  have hne : worthL M ≠ [] := fun q => h (List.map_eq_nil_iff.mp q)
  obtain ⟨h1, h2⟩ := mxL_spec hne
  have hb : ∀ w ∈ ranked M, worth M w ≤ mxL (worthL M) := fun w hw => h2 _ (List.mem_map.mpr ⟨w, hw, rfl⟩)
  obtain ⟨w, hw, he⟩ := List.mem_map.mp h1
  obtain ⟨v, hv, h4, hge⟩ := round_tight hb hw he
  have hm := told_mem hv h4
  refine ⟨(fun q => by rw [q] at hm; cases hm), ?_⟩
  have e : tv M v = mxL (worthL M) := Int.le_antisymm (told_le hb hv h4) hge
  have hmem : mxL (worthL M) ∈ toldL M 4 := by rw [← e]; exact hm
  have hle : ∀ x ∈ toldL M 4, x ≤ mxL (worthL M) := by
    intro x hx
    obtain ⟨u, hu, hu4, e2⟩ := told_inv hx
    rw [e2]
    exact told_le hb hu hu4
  exact (mxL_eq hmem hle).symm
theorem law_price {u v : Nat} (hu : u < 4) (hv : v < 4) (e : M u v ≠ 0) : 12 * (M u v : Int) + prc M (mxL (worthL M)) u ≤ mxL (worthL M) + prc M (mxL (worthL M)) v := by
  refine price_ok (fun w hw => ?_) hu hv e
  have hm : worth M w ∈ worthL M := List.mem_map.mpr ⟨w, hw, rfl⟩
  exact (mxL_spec fun q => by rw [q] at hm; cases hm).2 _ hm
end
end
section
open PySem PySem.W PyProof.Rows
set_option maxRecDepth 100000
set_option maxHeartbeats 800000
section
variable {h₀ h : Heap} {L : Addr} {c0 c1 c2 c3 c4 c5 : Addr × Obj} {tl T : List (Addr × Obj)}
theorem mid_up (N : News h₀ L h (tl ++ c0 :: c5 :: c4 :: c3 :: c2 :: c1 :: T)) : News h₀ L h (c5 :: c4 :: c3 :: c2 :: c1 :: (tl ++ c0 :: T)) := fun p hp => N p (by
  rcases List.mem_cons.mp hp with rfl | hp
  · exact List.mem_append_right _ (.tail _ (.head _))
  rcases List.mem_cons.mp hp with rfl | hp
  · exact List.mem_append_right _ (.tail _ (.tail _ (.head _)))
  rcases List.mem_cons.mp hp with rfl | hp
  · exact List.mem_append_right _ (.tail _ (.tail _ (.tail _ (.head _))))
  rcases List.mem_cons.mp hp with rfl | hp
  · exact List.mem_append_right _ (.tail _ (.tail _ (.tail _ (.tail _ (.head _)))))
  rcases List.mem_cons.mp hp with rfl | hp
  · exact List.mem_append_right _ (.tail _ (.tail _ (.tail _ (.tail _ (.tail _ (.head _))))))
  rcases List.mem_append.mp hp with hp | hp
  · exact List.mem_append_left _ hp
  rcases List.mem_cons.mp hp with rfl | hp
  · exact List.mem_append_right _ (.head _)
  · exact List.mem_append_right _ (.tail _ (.tail _ (.tail _ (.tail _ (.tail _ (.tail _ hp)))))))
theorem mid_off {c : Addr} {o : Obj} (hc : (c, o) ∈ c0 :: c5 :: c4 :: c3 :: c2 :: c1 :: T) (ha : ∀ p ∈ tl, ∀ q ∈ c0 :: c5 :: c4 :: c3 :: c2 :: c1 :: T, p.1 ≠ q.1) (h0 : c0.1 ≠ c) (b : ∀ p ∈ T, p.1 ≠ c) : ∀ p ∈ tl ++ c0 :: T, p.1 ≠ c := by
  intro p hp
  rcases List.mem_append.mp hp with hp | hp
  · exact ha p hp _ hc
  rcases List.mem_cons.mp hp with rfl | hp
  · exact h0
  · exact b p hp
def NoCell (o : Obj) : Prop := ∀ x, o.data ≠ .cell x
theorem mid_un {o1 o2 o3 o4 o5 : Obj} {a1 a2 a3 a4 a5 : Addr} {x1 x2 x3 x4 x5 : Option Value} (d1 : o1.data = .cell x1) (d2 : o2.data = .cell x2) (d3 : o3.data = .cell x3) (d4 : o4.data = .cell x4) (d5 : o5.data = .cell x5) :
    ∀ p ∈ tl ++ c0 :: (a5, o5) :: (a4, o4) :: (a3, o3) :: (a2, o2) :: (a1, o1) :: T, NoCell p.2 → p ∈ tl ++ c0 :: T := by
  intro p hp hn
  rcases List.mem_append.mp hp with hp | hp
  · exact List.mem_append_left _ hp
  rcases List.mem_cons.mp hp with rfl | hp
  · exact List.mem_append_right _ (.head _)
  rcases List.mem_cons.mp hp with rfl | hp
  · exact absurd d5 (hn _)
  rcases List.mem_cons.mp hp with rfl | hp
  · exact absurd d4 (hn _)
  rcases List.mem_cons.mp hp with rfl | hp
  · exact absurd d3 (hn _)
  rcases List.mem_cons.mp hp with rfl | hp
  · exact absurd d2 (hn _)
  rcases List.mem_cons.mp hp with rfl | hp
  · exact absurd d1 (hn _)
  · exact List.mem_append_right _ (.tail _ hp)
theorem list_noCell {xs : Array Value} {n : Nat} : NoCell (listOf xs n) := fun _ q => nomatch q
theorem PairAt.un {A B : List (Addr × Obj)} (hs : ∀ p ∈ A, NoCell p.2 → p ∈ B) (v : Value) (w : Nat × Nat) (h : PairAt A v w) : PairAt B v w := let ⟨r, t, u, n, e, hm⟩ := h; ⟨r, t, u, n, e, hs _ hm fun _ q => nomatch q⟩
theorem StepsAt.un {A B : List (Addr × Obj)} (hs : ∀ p ∈ A, NoCell p.2 → p ∈ B) (v : Value) (w : List Nat) (h : StepsAt A v w) : StepsAt B v w := let ⟨r, vs, n, e, hm, ha⟩ := h; ⟨r, vs, n, e, hs _ hm list_noCell, ha.mono (PairAt.un hs)⟩
end
section
variable {prog : Program} {w : World} {A : Around} {E : Value → Shared → Prop} {s : Shared} {h₀ : Heap} {L : Addr} {led tl : List (Addr × Obj)}
theorem rounds_eq {rr z : Addr} {rv lv : List Value} {rn n : Nat} {rs : List (List Nat)} {xs : List Int} {Q : Value → Shared → Prop} (N : News h₀ L s.heap led) (mr : (rr, listOf rv.toArray rn) ∈ led) (hra : All2 (StepsAt tl) rv rs) (sub : ∀ p ∈ tl, p ∈ led) (mz : (z, listOf lv.toArray n) ∈ led) (hl : IntsAre lv xs) (hu : A.units + 64 < cLine)
    (h : Q (.bool (decide (rs = [] ∧ xs = []))) s) : wpAny (model prog w) A (compareOp .Eq (.ref rr) (.ref z)) Q E s := by
  refine kqd_eq N mr rfl rfl (all_dat (f := datS) (fun _ _ h => steps_dat h) hra) sub mz rfl rfl (ints_dat (tl := []) hl) (fun _ h => nomatch h) (fun d hd => ?_) (ints_ok 8 _) hu ?_
  · obtain ⟨x, _, rfl⟩ := List.mem_map.mp hd
    exact steps_ok x
  · have : (rs.map datS = xs.map Dat.int) ↔ (rs = [] ∧ xs = []) := by
      cases rs with
      | nil => simp [List.map_eq_nil_iff, eq_comm]
      | cons a r =>
        constructor
        · intro q
          cases xs with
          | nil => exact absurd q (by simp)
          | cons b t =>
            simp only [List.map_cons, List.cons.injEq] at q
            exact absurd q.1 (by unfold datS; simp)
        · rintro ⟨q, _⟩
          cases q
    have hh : ∀ inst : Decidable (rs.map datS = xs.map Dat.int), @decide _ inst = decide (rs = [] ∧ xs = []) := fun inst => decide_eq_decide.mpr this
    rw [hh]
    exact h
theorem ints_eq_nil {rr z : Addr} {rv : List Value} {rn n : Nat} {xs : List Int} {Q : Value → Shared → Prop} (N : News h₀ L s.heap led) (mr : (rr, listOf rv.toArray rn) ∈ led) (hl : IntsAre rv xs) (mz : (z, listOf #[] n) ∈ led) (hu : A.units + 64 < cLine)
    (h : Q (.bool (decide (xs = []))) s) : wpAny (model prog w) A (compareOp .Eq (.ref rr) (.ref z)) Q E s := by
  refine kqd_eq N mr rfl rfl (ints_dat (tl := []) hl) (fun _ h => nomatch h) mz rfl (ys := []) rfl (.nil (news := [])) (fun _ h => nomatch h) (ints_ok 8 _) (fun _ h => nomatch h) hu ?_
  have hh : ∀ inst : Decidable (xs.map Dat.int = []), @decide _ inst = decide (xs = []) := fun inst => decide_eq_decide.mpr List.map_eq_nil_iff
  rw [hh]
  exact h
end
end
section
open PySem PySem.W PyProof.Rows
set_option maxRecDepth 100000
set_option maxHeartbeats 800000
section
open LCg LCp
variable {prog : Program} {w : World} {A : Around} {E : Value → Shared → Prop} {s : Shared} {h₀ : Heap} {L : Addr} {m : Str → Option Value} {env : Env} {led : List (Addr × Obj)}
/-- a comprehension over pairs of ints whose element is an int and leaves nothing behind -/
theorem compRestP_int {elt : Expr} {x x₂ : Str} {scope : Scope} {cl : List (Str × Addr)} {n : Nat} {S : List (Addr × Obj) → Prop} {P : Nat → Value → Prop} {Fin : List Value → List (Addr × Obj) → Prop} {qs : List (Nat × Nat)} {vs : List Value} (f : Nat × Nat → Int)
    (hn : n = vs.length) (hP : ∀ i v, P i v → vs[i]? = some v) (hvs : All2 (PairAt led) vs qs) (hS : S led)
    (elt_ok : ∀ (q : Nat × Nat) t u I oI C oC D m₂ h tk ys (E' Q' : Value → Shared → Prop), q ∈ qs → NsObj oC m₂ → m₂ x = some (.int (q.1 : Int) t) → m₂ x₂ = some (.int (q.2 : Int) u) → Fr h₀ L h m → News h₀ L h ((I, oI) :: (C, oC) :: (D, lst ys) :: led) →
      (∀ t h' tk', Fr h₀ L h' m → News h₀ L h' ((I, oI) :: (C, oC) :: (D, lst ys) :: led) → Q' (.int (f q) t) { s with heap := h', toks := tk' }) →
      wpAny (model prog w) A (eval elt (compEnvC scope cl C env)) Q' E' { s with heap := h, toks := tk })
    (fin : ∀ ys, IntsAre ys (qs.map f) → Fin ys led) :
    CompRestP prog w A h₀ L m env elt x x₂ scope cl s S P Fin n 0 [] led := by
  have hlen := hvs.length
  have key : ∀ k i ys, i + k = n → IntsAre ys ((qs.take i).map f) → CompRestP prog w A h₀ L m env elt x x₂ scope cl s S P Fin k i ys led := by
    intro k
    induction k with
    | zero =>
      intro i ys hi hy
      refine CompRestP.zero (fin ys ?_)
      rw [List.take_of_length_le (by omega)] at hy
      exact hy
    | succ k ih =>
      intro i ys hi hy
      refine CompRestP.succ ?_
      intro v hv
      obtain ⟨q, hq, T, t, u, nt, rfl, hm⟩ := hvs.at i v (hP i v hv)
      refine ⟨T, _, _, _, nt, rfl, hm, rfl, rfl, ?_⟩
      intro I oI C oC D m₂ h tk E' hC hx hx₂ F N off ne
      refine elt_ok q t u I oI C oC D m₂ h tk ys E' _ (List.mem_of_getElem? hq) hC hx hx₂ F N ?_
      intro t' h' tk' F' N'
      refine CompEnd.intro (s₁ := { s with heap := h, toks := tk }) F' N' led (fun p hp => hp) off hS (ih (i + 1) _ (by omega) ?_)
      rw [List.take_add_one, hq, List.map_append]
      exact ints_snoc hy
  exact key n 0 [] (by omega) .nil
end
section
variable {prog : Program} {w : World} {A : Around} {E : Value → Shared → Prop} {s : Shared} {h₀ : Heap} {L : Addr} {m : Str → Option Value} {led : List (Addr × Obj)}
theorem list_len {l : Addr} {vs : List Value} {n k : Nat} {Q : Value → Shared → Prop} (N : News h₀ L s.heap led) (hm : (l, listOf vs.toArray n) ∈ led) (hk : vs.length = k) (hsz : k ≤ 4)
    (h : Q (.int (k : Int) (s.toks + 1)) { s with toks := s.toks + 1 + 1 }) : wpAny (model prog w) A (call (.builtin "len") [.ref l]) Q E s := by
  have hl : s.heap.IsList l vs.toArray := ⟨_, (N _ hm).1, rfl, n, rfl⟩
  have hsz' : vs.toArray.size = k := by rw [List.size_toArray, hk]
  refine Calls.call_len_list hl (by rw [hsz']; omega) ?_
  rw [hsz']
  exact h
end
theorem ranked_len {M : Nat → Nat → Nat} {u : List Nat} (h : u ∈ ranked M) : 0 < u.length ∧ u.length ≤ 4 := by
  obtain ⟨t, ht, hs, _⟩ := mem_ranked.mp h
  have := (stage_good M t u hs).1
  omega
theorem ranked_size (M : Nat → Nat → Nat) : (ranked M).length ≤ sizeLine := by
  have := (stage_len M 4 (Nat.le_refl _)).2
  rw [sizeLine_eq]
  unfold ranked
  omega
theorem range_getD {α : Type} (f : α → Int) (d : α) (l : List α) : (List.range l.length).map (fun i => f (l.getD i d)) = l.map f := by
  apply List.ext_getElem
  · simp
  · intro i h1 h2
    have h3 : i < l.length := by simpa using h1
    simp [h3]
theorem ranked_lt {M : Nat → Nat → Nat} {u : List Nat} (h : u ∈ ranked M) : ∀ q ∈ cyc u, q.1 < 4 ∧ q.2 < 4 := by
  obtain ⟨t, ht, hs, _⟩ := mem_ranked.mp h
  have hx := (stage_good M t u hs).2.2.1
  have hl := (stage_good M t u hs).1
  intro q hq
  obtain ⟨k, hk, rfl⟩ := List.mem_map.mp hq
  have hk' := List.mem_range.mp hk
  have hg : ∀ j, j < u.length → u.getD j 0 < 4 := fun j hj => hx _ (by rw [List.getD_eq_getElem?_getD, List.getElem?_eq_getElem hj]; exact List.getElem_mem hj)
  unfold cycAt
  refine ⟨?_, hg k hk'⟩
  show (if k = 0 then fin u else u.getD (k - 1) 0) < 4
  split
  · exact hx _ (fin_mem (fun e => by rw [e] at hk'; exact Nat.not_lt_zero _ hk'))
  · exact hg _ (by omega)
theorem cyc_len (u : List Nat) : (cyc u).length = u.length := by unfold cyc; rw [List.length_map, List.length_range]
theorem sum_cast {α : Type} (f : α → Nat) : ∀ l : List α, (l.map fun a => ((f a : Nat) : Int)).sum = (((l.map f).sum : Nat) : Int)
  | [] => rfl
  | a :: l => by
    simp only [List.map_cons, List.sum_cons, sum_cast f l]
    omega
theorem worth_eq {M : Nat → Nat → Nat} {u : List Nat} (h : 0 < (cyc u).length) : (12 : Int).fdiv ((cyc u).length : Int) * ((cyc u).map fun q => ((M q.1 q.2 : Nat) : Int)).sum = worth M u := by
  unfold worth sumW
  rw [sum_cast (fun q : Nat × Nat => M q.1 q.2)]
  have : (12 : Int).fdiv ((cyc u).length : Int) = ((12 / (cyc u).length : Nat) : Int) := by
    rw [Int.fdiv_eq_ediv_of_nonneg _ (by omega)]
    rfl
  rw [this]
theorem sumW_small {M : Nat → Nat → Nat} (hM : ∀ i j, M i j ≤ 12) : ∀ l : List (Nat × Nat), (l.map fun q => M q.1 q.2).sum ≤ 12 * l.length
  | [] => Nat.le_refl _
  | a :: l => by
    have := sumW_small hM l
    have := hM a.1 a.2
    simp only [List.map_cons, List.sum_cons, List.length_cons]
    omega
theorem worth_small {M : Nat → Nat → Nat} (hM : ∀ i j, M i j ≤ 12) {u : List Nat} (h : u ∈ ranked M) : 0 ≤ worth M u ∧ worth M u ≤ 576 := by
  have hl := ranked_len h
  have hs := sumW_small hM (cyc u)
  rw [cyc_len] at hs
  unfold worth sumW
  rw [cyc_len]
  have h1 : 12 / u.length ≤ 12 := Nat.div_le_self _ _
  have h2 : 12 / u.length * ((cyc u).map fun q => M q.1 q.2).sum ≤ 12 * 48 := Nat.mul_le_mul h1 (by omega)
  constructor
  · exact Int.mul_nonneg (Int.natCast_nonneg _) (Int.natCast_nonneg _)
  · have h3 : ((12 / u.length : Nat) : Int) * (((cyc u).map fun q => M q.1 q.2).sum : Nat) = ((12 / u.length * ((cyc u).map fun q => M q.1 q.2).sum : Nat) : Int) := (Int.natCast_mul _ _).symm
    omega
theorem best_small {M : Nat → Nat → Nat} (hM : ∀ i j, M i j ≤ 12) (h : worthL M ≠ []) : 0 ≤ mxL (worthL M) ∧ mxL (worthL M) ≤ 576 := by
  obtain ⟨w, hw, e⟩ := List.mem_map.mp (mxL_spec h).1
  rw [← e]
  exact worth_small hM hw
end
section
open PySem PySem.W PyProof.Rows
set_option maxRecDepth 100000
set_option maxHeartbeats 800000
section
open LCg LCt
variable {prog : Program} {w : World} {A : Around} {E : Value → Shared → Prop} {s : Shared} {h₀ : Heap} {L : Addr} {m : Str → Option Value} {env : Env} {led : List (Addr × Obj)}
/-- a comprehension over a range with a test, whose element is an int and leaves nothing behind -/
theorem compRestT_int {ct elt : Expr} {x : Str} {scope : Scope} {cl : List (Str × Addr)} {n : Nat} {S : List (Addr × Obj) → Prop} {P : Nat → Value → Prop} {Fin : List Value → List (Addr × Obj) → Prop} (p : Nat → Bool) (f : Nat → Int)
    (hP : ∀ i v, P i v → ∃ t, v = .int (i : Int) t) (hS : S led)
    (elt_ok : ∀ (i : Nat) t I oI C oC D m₂ h tk ys (E' Q' : Value → Shared → Prop) (K : Shared → Prop), i < n → NsObj oC m₂ → m₂ x = some (.int (i : Int) t) → Fr h₀ L h m → News h₀ L h ((I, oI) :: (C, oC) :: (D, lst ys) :: led) →
      (p i = true → ∀ t' h' tk', Fr h₀ L h' m → News h₀ L h' ((I, oI) :: (C, oC) :: (D, lst ys) :: led) → Q' (.int (f i) t') { s with heap := h', toks := tk' }) →
      (p i = false → ∀ h' tk', Fr h₀ L h' m → News h₀ L h' ((I, oI) :: (C, oC) :: (D, lst ys) :: led) → K { s with heap := h', toks := tk' }) →
      wpAny (model prog w) A (isTrue ct (compEnvC scope cl C env) (eval ct (compEnvC scope cl C env))) (fun ok s' => if ok = true then wpAny (model prog w) A (eval elt (compEnvC scope cl C env)) Q' E' s' else K s') E' { s with heap := h, toks := tk })
    (fin : ∀ ys, IntsAre ys (((List.range n).filter p).map f) → Fin ys led) :
    CompRestT prog w A h₀ L m env ct elt x scope cl s S P Fin n 0 [] led := by
  have key : ∀ k i ys, i + k = n → IntsAre ys (((List.range i).filter p).map f) → CompRestT prog w A h₀ L m env ct elt x scope cl s S P Fin k i ys led := by
    intro k
    induction k with
    | zero =>
      intro i ys hi hy
      have : i = n := by omega
      subst this
      exact CompRestT.zero (fin ys hy)
    | succ k ih =>
      intro i ys hi hy
      refine CompRestT.succ ?_
      intro v I oI C oC D m₂ h tk E' hv hC hx F N off ne
      obtain ⟨t, rfl⟩ := hP i v hv
      refine elt_ok i t I oI C oC D m₂ h tk ys E' _ _ (by omega) hC hx F N ?_ ?_
      · intro hp t' h' tk' F' N'
        refine CompEnd.intro (s₁ := { s with heap := h, toks := tk }) F' N' led (fun p hp => hp) off hS (ih (i + 1) _ (by omega) ?_)
        rw [List.range_succ, List.filter_append, List.map_append]
        simp only [List.filter_cons, hp, if_true, List.filter_nil, List.map_cons, List.map_nil]
        exact ints_snoc hy
      · intro hp h' tk' F' N'
        refine CompEnd.intro (s₁ := { s with heap := h, toks := tk }) F' N' led (fun p hp => hp) off hS (ih (i + 1) _ (by omega) ?_)
        rw [List.range_succ, List.filter_append, List.map_append]
        simp only [List.filter_cons, hp, if_false, List.filter_nil, List.map_nil, Bool.false_eq_true, List.append_nil]
        exact hy
  exact key n 0 [] (by omega) .nil
end
end
section
open PySem PySem.W PyProof.Rows
set_option maxRecDepth 100000
set_option maxHeartbeats 80000000
abbrev TwoAt (tl : List (Addr × Obj)) (v : Value) (x : Str) : Prop := DatIn tl v (.tuple [.str x, .str x])
inductive ITold (S tol : Addr) (oc5 ocr ocl ocp : Obj) (M : Nat → Nat → Nat) (T : List (Addr × Obj)) (i : Nat) (ps : List (Str × Value)) (nx : List (Addr × Obj)) : Prop
  | mk (lv : List Value) (c : Nat) (oc : Obj) (x : Option Value) (eps : ps = [(Str.ofString "told", .ref tol)]) (enx : nx = (tol, listOf lv.toArray c) :: (S + 1 + 1 + 1 + 1 + 1, oc5) :: (S + 1 + 1 + 1 + 1, oc) :: (S + 1 + 1 + 1, ocr) :: (S + 1 + 1, ocl) :: (S + 1, ocp) :: T) (hoc : oc.data = .cell x) (hlv : IntsAre lv (toldL M i)) : ITold S tol oc5 ocr ocl ocp M T i ps nx
inductive IPrices (S prl : Addr) (ocb ocr ocl ocp : Obj) (M : Nat → Nat → Nat) (B : Int) (T : List (Addr × Obj)) (i : Nat) (ps : List (Str × Value)) (nx : List (Addr × Obj)) : Prop
  | mk (lv : List Value) (c : Nat) (oc : Obj) (x : Option Value) (eps : ps = [(Str.ofString "prices", .ref prl)]) (enx : nx = (prl, listOf lv.toArray c) :: (S + 1 + 1 + 1 + 1 + 1, ocb) :: (S + 1 + 1 + 1 + 1, oc) :: (S + 1 + 1 + 1, ocr) :: (S + 1 + 1, ocl) :: (S + 1, ocp) :: T) (hoc : oc.data = .cell x) (hlv : IntsAre lv ((List.range i).map (prc M B))) : IPrices S prl ocb ocr ocl ocp M B T i ps nx
theorem law_walk : PySem.Challenge.rw_yf0015_01.Holds := by
  w_top off
  k_with_none
  (k_with "k_room" => ((simp only [depth_under_make, depth_under_kw, depth_in1, depth_deeper, depth_caller, ktrTop, recursionLimit] at *; omega)))
  (k_with "k_all" => (first | assumption | exact all_ne (by assumption) (Nat.le_refl _) | (refine all_ne' (by with_reducible assumption) ?_; omega) | (refine all_ne (by with_reducible assumption) ?_; omega)))
  (k_with "eval ListComp" => ((with_reducible show wpAny _ (Around.deeper callerA _) _ _ _ _); (refine Stop.mk ?_)))
  (k_with "CompSrc" => ((with_reducible show LCg.CompSrc _ _ (Around.deeper callerA _) _ _ _ _ _ _ _ _ _ _ _); (refine Stop.mk ?_)))
  (k_with "exec For Tuple Name cons nil" => (refine Stop.mk ?_))
  (k_with "exec For Name Call cons nil" => (refine Stop.mk ?_))
  (k_with "SrcLP" => (refine Stop.mk ?_))
  (k_with "CompSrcT" => (refine Stop.mk ?_))
  (k_with "pyIter ref" => ((with_reducible show wpAny _ (Around.deeper callerA _) (pyIter _) _ _ _); (refine Stop.mk ?_)))
  (k_with "subscriptTail" => ((with_reducible show wpAny _ (Around.deeper callerA _) (subscriptTail _ _ _ _) _ _ _); (refine Stop.mk ?_)))
  (k_with "compareOp Eq ref ref" => ((with_reducible show wpAny _ (Around.deeper callerA _) (compareOp _ _ _) _ _ _); (refine Stop.mk ?_)))
  (k_with "compareOp NotEq ref ref" => ((with_reducible show wpAny _ (Around.deeper callerA _) (compareOp _ _ _) _ _ _); (refine Stop.mk ?_)))
  (k_with "call builtin:len" => ((with_reducible show wpAny _ (Around.deeper callerA _) (call _ _ _) _ _ _); (refine Stop.mk ?_)))
  (k_with "call builtin:sum" => ((with_reducible show wpAny _ (Around.deeper callerA _) (call _ _ _) _ _ _); (refine Stop.mk ?_)))
  (k_with "call builtin:min" => ((with_reducible show wpAny _ (Around.deeper callerA _) (call _ _ _) _ _ _); (refine Stop.mk ?_)))
  (k_with "call builtin:max" => ((with_reducible show wpAny _ (Around.deeper callerA _) (call _ _ _) _ _ _); (refine Stop.mk ?_)))
  (k_with "call builtin:list.append" => ((with_reducible show wpAny _ (Around.deeper callerA _) (call _ _ _) _ _ _); (refine Stop.mk ?_)))
  (k_with "call ref" => ((with_reducible show wpAny _ _ (call (Value.ref 109) _ _) _ _ _); (refine Stop.mk ?_)))
  (k_with "call ref" => ((with_reducible show wpAny _ _ (call (Value.ref 116) _ _) _ _ _); (refine Stop.mk ?_)))
  (k_with "call ref" => ((with_reducible show wpAny _ _ (call (Value.ref 36) _ _) _ _ _); (refine Stop.mk ?_)))
  (k_with "call ref" => ((with_reducible show wpAny _ _ (call (Value.ref 121) _ _) _ _ _); (refine Stop.mk ?_)))
  (k_with "subscriptTail" => ((first
    | ((have auto : AutoSub := (by with_reducible assumption)); (with_reducible show wpAny _ (Around.deeper callerA _) (subscriptTail _ _ _ (Value.int 4 _)) _ _ _); (refine rows_last (by with_reducible assumption) (by with_reducible assumption) (by (intro p hp; (repeat' (first | exact hp | exact List.mem_append_left _ hp | (rcases List.mem_cons.mp hp with rfl | hp) | exact List.mem_cons_self | apply List.mem_cons_of_mem)))) ?_); intro _ _)
    | ((have auto : AutoSub := (by with_reducible assumption)); (with_reducible show wpAny _ (Around.deeper callerA _) (subscriptTail _ _ _ (Value.int (Nat.cast _) _)) _ _ _); (refine row_item (by with_reducible assumption) (by with_reducible assumption) (by (intro p hp; (repeat' (first | exact hp | exact List.mem_append_left _ hp | (rcases List.mem_cons.mp hp with rfl | hp) | exact List.mem_cons_self | apply List.mem_cons_of_mem)))) (by omega) (rowR_at (by with_reducible assumption)) ?_); intro _)
    | ((have auto : AutoSub := (by with_reducible assumption)); (with_reducible show wpAny _ (Around.deeper callerA _) (subscriptTail _ _ _ (Value.int (Nat.cast _) _)) _ _ _); (refine rows_item (by with_reducible assumption) (by with_reducible assumption) (by (intro p hp; (repeat' (first | exact hp | exact List.mem_append_left _ hp | (rcases List.mem_cons.mp hp with rfl | hp) | exact List.mem_cons_self | apply List.mem_cons_of_mem)))) (by omega) (rowsR_at (by omega)) ?_); intro _ _)
    | ((have auto : AutoSub := (by with_reducible assumption)); (with_reducible show wpAny _ (Around.deeper callerA _) (subscriptTail _ _ _ (Value.int (Nat.cast _) _)) _ _ _); (refine row_item (by with_reducible assumption) (by with_reducible assumption) (by (intro p hp; (repeat' (first | exact hp | exact List.mem_append_left _ hp | (rcases List.mem_cons.mp hp with rfl | hp) | exact List.mem_cons_self | apply List.mem_cons_of_mem)))) (by omega) (rng_at (by with_reducible assumption)) ?_); intro _)
    | ((have auto : AutoSub := (by with_reducible assumption)); (with_reducible show wpAny _ (Around.deeper callerA _) (subscriptTail _ _ _ (Value.int (Nat.cast _) _)) _ _ _); (refine rows_item (by with_reducible assumption) (by with_reducible assumption) (by (intro p hp; (repeat' (first | exact hp | exact List.mem_append_left _ hp | (rcases List.mem_cons.mp hp with rfl | hp) | exact List.mem_cons_self | apply List.mem_cons_of_mem)))) (by omega) (matR_row (by with_reducible assumption)) ?_); intro _ _))))
  (k_with "subscriptTail Name Name ref int" => ((with_reducible show wpAny _ (Around.deeper (Around.deeper callerA _) _) (subscriptTail _ _ _ _) _ _ _); (with_reducible rename _ ∧ _ => offX); (have offY := Hide.mk offX); (clear offX); walk1; (all_goals (with_reducible rename Hide _ => offY)); (all_goals (have offX := Hide.out offY)); (all_goals (clear offY))))
  refine hd ?_
  w_strict (k_go0; (all_goals try k_fold); k_steps)
  unfold Stop
  rename Fr _ _ _ _ => F1
  rename News _ _ _ _ => N1
  rename_i w0 s0 s1 mg mb G Y fa o pm doc ho hg KX Xm V GL T Bt TE TW wa wb M wc wd hcd sc hs hlay0 hLa hra hl2 we wf wg vs wh hL ra wl1 r0 hI hrr hc1 hc2 K0 hD h1 tk1 oc5 oc4 oc3 oc2 oc1 dc5 dc4 dc3 dc2 dc1 X0
  refine LCg.ListComp_U F1 (by rfl) (by decide) (by rfl) (by decide) (by rfl) ?_
  k_steps
  unfold Stop
  rename Fr _ _ _ _ => F2
  rename News _ _ _ _ => N2
  rename IntsAre _ (List.map _ _) => hns
  rename _ = (List.map _ _).length => hnl
  generalize hgs : List.map (fun k' : Int => _) _ = ns at hns hnl
  have hlen : ns.length = 16 := by rw [← hgs, List.length_map]; rfl
  have hb : ∀ n ∈ ns, 0 ≤ n ∧ n < 576 := by
    rw [← hgs]
    intro n hn
    obtain ⟨k, _, rfl⟩ := List.mem_map.mp hn
    split
    · exact ⟨Int.fmod_nonneg_of_pos _ (by decide), Int.fmod_lt_of_pos _ (by decide)⟩
    · exact ⟨Int.fmod_nonneg_of_pos _ (by decide), Int.fmod_lt_of_pos _ (by decide)⟩
  clear hgs
  refine LCg.CompSrc.ledger rfl F2 N2 (.head _) ?_ ?_
  · rw [List.size_toArray, hnl, hlen, sizeLine_eq]; decide
  intro g
  refine compRest_made TwoAt (fun i => wr (ns.getD i 0)) (fun tl tl' v y hs h => DatIn.mono hs h) ?_ ?_ ?_
  · exact fun acc => .inr ⟨_, List.mem_append_right _ (.head _), rfl, _, rfl⟩
  · intro i v I oI C oC D m₂ h tk ys' acc E' Q' hi hP hC hx F3 N3 hQ'
    simp only [List.cons_append, List.nil_append] at N3 hQ'
    rw [List.size_toArray, hnl, hlen] at hi
    have hi' : i < ns.length := by omega
    obtain ⟨t, ht⟩ := hns.get i (ns.getD i 0) (by rw [List.getD_eq_getElem?_getD, List.getElem?_eq_getElem hi']; rfl)
    rw [List.getElem?_toArray, ht] at hP
    cases hP
    have hni := hb (ns.getD i 0) (by rw [List.getD_eq_getElem?_getD, List.getElem?_eq_getElem hi']; exact List.getElem_mem hi')
    dsimp only at hQ' ⊢
    k_steps
    unfold Stop
    refine written_spec (by assumption) F3 (by assumption) N3 (by assumption) rfl (by decide) (by decide) hni.1 hni.2 ?_
    intro r tl h5 tk5 F5 N5 hlt hdat
    exact hQ' r tl h5 tk5 F5 N5 (fun p hp q hq => Nat.ne_of_gt (hlt q hq p hp)) hdat
  · intro ys5 acc hys hap D5 h5 tk5 F5 N5 hD5
    have hof := off1_mem hD5
    have N6 : News s1.heap s1.heap.objs.size h5 ((D5, LCg.lst ys5) :: (s1.heap.objs.size + 1 + 1 + 1 + 1 + 1, oc5) :: (s1.heap.objs.size + 1 + 1 + 1 + 1, oc4) :: (s1.heap.objs.size + 1 + 1 + 1, oc3) :: (s1.heap.objs.size + 1 + 1, oc2) :: (s1.heap.objs.size + 1, oc1) :: acc) := fun p hp => N5 p (by
      rcases List.mem_cons.mp hp with rfl | hp
      · exact .head _
      refine .tail _ ?_
      rcases List.mem_cons.mp hp with rfl | hp
      · refine List.mem_append_right _ ?_; k_mem
      rcases List.mem_cons.mp hp with rfl | hp
      · refine List.mem_append_right _ ?_; k_mem
      rcases List.mem_cons.mp hp with rfl | hp
      · refine List.mem_append_right _ ?_; k_mem
      rcases List.mem_cons.mp hp with rfl | hp
      · refine List.mem_append_right _ ?_; k_mem
      rcases List.mem_cons.mp hp with rfl | hp
      · refine List.mem_append_right _ ?_; k_mem
      · exact List.mem_append_left _ hp)
    have e1 : @Ne Nat D5 (s1.heap.objs.size + 1) := Ne.symm (hof (s1.heap.objs.size + 1, oc1) (List.mem_append_right _ (by k_mem)))
    have e2 : @Ne Nat D5 (s1.heap.objs.size + 1 + 1) := Ne.symm (hof (s1.heap.objs.size + 1 + 1, oc2) (List.mem_append_right _ (by k_mem)))
    have e3 : @Ne Nat D5 (s1.heap.objs.size + 1 + 1 + 1) := Ne.symm (hof (s1.heap.objs.size + 1 + 1 + 1, oc3) (List.mem_append_right _ (by k_mem)))
    have e4 : @Ne Nat D5 (s1.heap.objs.size + 1 + 1 + 1 + 1) := Ne.symm (hof (s1.heap.objs.size + 1 + 1 + 1 + 1, oc4) (List.mem_append_right _ (by k_mem)))
    have e5 : @Ne Nat D5 (s1.heap.objs.size + 1 + 1 + 1 + 1 + 1) := Ne.symm (hof (s1.heap.objs.size + 1 + 1 + 1 + 1 + 1, oc5) (List.mem_append_right _ (by k_mem)))
    have a1 : ∀ p ∈ acc, p.1 ≠ s1.heap.objs.size + 1 := fun p hp => hap p hp (s1.heap.objs.size + 1, oc1) (by k_mem)
    have a2 : ∀ p ∈ acc, p.1 ≠ s1.heap.objs.size + 1 + 1 := fun p hp => hap p hp (s1.heap.objs.size + 1 + 1, oc2) (by k_mem)
    have a3 : ∀ p ∈ acc, p.1 ≠ s1.heap.objs.size + 1 + 1 + 1 := fun p hp => hap p hp (s1.heap.objs.size + 1 + 1 + 1, oc3) (by k_mem)
    have a4 : ∀ p ∈ acc, p.1 ≠ s1.heap.objs.size + 1 + 1 + 1 + 1 := fun p hp => hap p hp (s1.heap.objs.size + 1 + 1 + 1 + 1, oc4) (by k_mem)
    have a5 : ∀ p ∈ acc, p.1 ≠ s1.heap.objs.size + 1 + 1 + 1 + 1 + 1 := fun p hp => hap p hp (s1.heap.objs.size + 1 + 1 + 1 + 1 + 1, oc5) (by k_mem)
    rw [List.size_toArray, hnl, hlen] at hys
    clear hof hap N5 hD5 hns hnl N2 F2 N1 F1
    dsimp only
    k_steps
    set_option tactic.hygienic false in
    unfold Stop
    rename Fr s1.heap _ _ _ => F1
    rename News s1.heap _ _ _ => N1
    refine For_turns F1 ?_
    k_steps
    try unfold Stop
    rename _ = Data.cell (some (Value.ref D5)) => dp1
    rename Obj => ocp
    rename Fr s1.heap _ _ _ => F2
    rename News s1.heap _ _ _ => N2
    refine list_turns (vs := ys5) (c := ys5.length) (fun _ ps nx => ps = [] ∧ nx = (D5, LCg.lst ys5) :: (s1.heap.objs.size + 1 + 1 + 1 + 1 + 1, oc5) :: (s1.heap.objs.size + 1 + 1 + 1 + 1, oc4) :: (s1.heap.objs.size + 1 + 1 + 1, oc3) :: (s1.heap.objs.size + 1 + 1, oc2) :: (s1.heap.objs.size + 1, ocp) :: acc) [] _ rfl ?hl F2 N2 (fun p hp => hp) (fun _ h => nomatch h) ⟨rfl, rfl⟩ ?turn ?done
    case hl =>
      rintro i ps nx ⟨rfl, rfl⟩
      exact .head _
    case turn =>
      rintro i v ps m1 nx h tk own hv hown ⟨rfl, rfl⟩ F3 N3
      obtain ⟨x, hx, hvx⟩ := hys.at i v hv
      obtain ⟨T, t, u, n, rfl, hm⟩ := two_inv hvx
      simp only [List.cons_append] at N3
      refine unpackN_ F3 N3 ⟨_, (N3 _ (.tail _ (.tail _ (.tail _ (.tail _ (.tail _ (.tail _ (List.mem_append_left _ hm)))))))).1, rfl, n, rfl⟩ rfl rfl rfl ?_
      intro h5 F5 N5
      dsimp only
      k_steps
      rename Fr s1.heap _ _ _ => F6
      rename News s1.heap _ _ _ => N6
      refine inv_endA F6 N6 [] ((D5, LCg.lst ys5) :: (s1.heap.objs.size + 1 + 1 + 1 + 1 + 1, oc5) :: (s1.heap.objs.size + 1 + 1 + 1 + 1, oc4) :: (s1.heap.objs.size + 1 + 1 + 1, oc3) :: (s1.heap.objs.size + 1 + 1, oc2) :: (s1.heap.objs.size + 1, ocp) :: acc) ⟨rfl, rfl⟩ (fun _ h => nomatch h) hown rfl ?_ ?_
      · exact List.forall_mem_cons.mpr ⟨.head _, List.forall_mem_cons.mpr ⟨.tail _ (.head _), List.forall_mem_cons.mpr ⟨.tail _ (.tail _ (.head _)), List.forall_mem_cons.mpr ⟨.tail _ (.tail _ (.tail _ (.head _))), List.forall_mem_cons.mpr ⟨.tail _ (.tail _ (.tail _ (.tail _ (.head _)))), List.forall_mem_cons.mpr ⟨.tail _ (.tail _ (.tail _ (.tail _ (.tail _ (.head _))))), fun p hp => .tail _ (.tail _ (.tail _ (.tail _ (.tail _ (.tail _ (List.mem_append_left _ hp))))))⟩⟩⟩⟩⟩⟩
      · exact fun p hp => .tail _ (.tail _ (.tail _ (.tail _ (.tail _ (.tail _ (List.mem_append_right _ hp))))))
    case done =>
      rintro ps m1 nx h tk ⟨rfl, rfl⟩ F3 N3
      clear F2 N2
      replace F3 : Fr s1.heap s1.heap.objs.size h (kstB m1 []) := F3
      replace N3 : News s1.heap s1.heap.objs.size h _ := N3
      k_steps
      -- part 3
      unfold Stop
      rename Fr s1.heap _ _ _ => F1
      rename News s1.heap _ _ _ => N1
      refine ListComp_open F1 (by rfl) (by rfl) (by decide) ?_
      k_steps
      unfold Stop
      rename Fr s1.heap _ _ _ => F2
      rename News s1.heap _ _ _ => N2
      rename IsRange _ _ _ _ _ _ _ _ => R2

      refine range_cell (n := 4) (fun tl v i => RowAt tl v ((List.range 4).map fun j => (((wr (ns.getD (4 * i + j) 0)).length : Nat) : Int))) (fun i => i) rfl R2 (by decide) (by rw [sizeLine_eq]; decide) F2 N2 (fun _ _ => rfl) (fun _ => rfl) (by rfl) (by rfl) (fun tl tl' v y hs h => h.mono hs) ?elt ?fin
      case elt =>
        intro i t' I oI C oC K oK D h tk ys acc2 E' Q' hi hK F3 N3 hQ'
        simp only [List.cons_append] at N3 hQ'
        refine LCg.ListComp_U F3 (by rfl) (by decide) (by rfl) (by decide) (by rfl) ?_
        k_steps
        unfold Stop
        rename Fr s1.heap _ _ _ => F4
        rename News s1.heap _ _ _ => N4
        rename IsRange _ _ _ _ _ _ _ _ => R4
        refine LCg.CompSrc.range rfl F4 N4 R4 (by decide) (by rw [rangeSize_one]; rfl) (by rw [sizeLine_eq]; decide) ?_
        intro g
        refine compRest_int (fun j => (((wr (ns.getD (4 * i + j) 0)).length : Nat) : Int)) (fun _ => trivial) ?_ ?_
        · intro j vj I2 oI2 C2 oC2 D2 m2 h2 tk2 ys2 acc3 E2 Q2 hj hP hC2 hx2 F5 N5 hQ2
          obtain ⟨tj, rfl⟩ := hP
          have hj4 : j < 4 := hj
          have hi4 : i < 4 := hi
          rw [Int.zero_add] at hx2
          simp only [List.cons_append] at N5 hQ2
          dsimp only at hQ2 ⊢
          k_steps
          unfold Stop
          rename News s1.heap _ _ _ => N6
          obtain ⟨v6, hv6, hd6⟩ := hys.get (4 * i + j) (wr (ns.getD (4 * i + j) 0)) (by rw [List.getElem?_map, List.getElem?_range (by omega)]; rfl)
          obtain ⟨T6, t6, u6, n6, rfl, hm6⟩ := two_inv hd6
          refine pair_item (vs := ys5) (n := ys5.length) N6 (by k_mem) hi4 hj4 hv6 ?_
          k_steps
          unfold Stop
          rename News s1.heap _ _ _ => N7
          refine two_item N7 (x := wr (ns.getD (4 * i + j) 0)) (t := t6) (t' := u6) (n := n6) (by repeat' (first | exact hm6 | apply List.mem_cons_of_mem | (refine List.mem_append_left _ ?_))) (.inr rfl) ?_
          intro t7
          k_steps
          unfold Stop
          have hwl := wr_small (hb (ns.getD (4 * i + j) 0) (getD_mem' (by omega))).1 (hb (ns.getD (4 * i + j) 0) (getD_mem' (by omega))).2
          refine P.len_str (by omega) ?_
          rename Fr s1.heap _ _ _ => F8
          rename News s1.heap _ _ _ => N8
          exact hQ2 _ [] _ _ F8 N8 (fun _ h => nomatch h)
        · intro ys2 acc3 hys3 hap3 D2 h2 tk2 F5 N5 hD2
          have hD2' := off1_mem hD2
          refine hQ' (.ref D2) ((D2, LCg.lst ys2) :: acc3) h2 tk2 F5 N5 ?_ ⟨D2, ys2, ys2.length, rfl, .head _, hys3⟩
          intro p hp q hq
          rcases List.mem_cons.mp hp with rfl | hp
          · exact Ne.symm (hD2' q (List.mem_append_right _ hq))
          · exact hap3 p hp q hq
      case fin =>
        intro ys acc2 D h tk hys2 hap F3 N3 hoD
        have hpl : RowsAre acc2 ys (matR fun i j => (wr (ns.getD (4 * i + j) 0)).length) := by
          have z := rows_of hys2
          rw [List.map_map] at z
          exact z
        have hT : ∀ p ∈ (D, LCg.lst ys) :: (D5, LCg.lst ys5) :: (acc2 ++ acc), p ∈ (D, LCg.lst ys) :: (acc2 ++ (D5, LCg.lst ys5) :: (s1.heap.objs.size + 1 + 1 + 1 + 1 + 1, oc5) :: (s1.heap.objs.size + 1 + 1 + 1 + 1, oc4) :: (s1.heap.objs.size + 1 + 1 + 1, oc3) :: (s1.heap.objs.size + 1 + 1, oc2) :: (s1.heap.objs.size + 1, ocp) :: acc) := by
          intro p hp
          rcases List.mem_cons.mp hp with rfl | hp
          · exact .head _
          rcases List.mem_cons.mp hp with rfl | hp
          · exact .tail _ (List.mem_append_right _ (.head _))
          rcases List.mem_append.mp hp with hp | hp
          · exact .tail _ (List.mem_append_left _ hp)
          · exact .tail _ (List.mem_append_right _ (.tail _ (.tail _ (.tail _ (.tail _ (.tail _ (.tail _ hp)))))))
        have N4 : News s1.heap s1.heap.objs.size h ((s1.heap.objs.size + 1 + 1 + 1 + 1 + 1, oc5) :: (s1.heap.objs.size + 1 + 1 + 1 + 1, oc4) :: (s1.heap.objs.size + 1 + 1 + 1, oc3) :: (s1.heap.objs.size + 1 + 1, oc2) :: (s1.heap.objs.size + 1, ocp) :: (D, LCg.lst ys) :: (D5, LCg.lst ys5) :: (acc2 ++ acc)) := fun p hp => N3 p (by
          rcases List.mem_cons.mp hp with rfl | hp
          · refine .tail _ (List.mem_append_right _ ?_); k_mem
          rcases List.mem_cons.mp hp with rfl | hp
          · refine .tail _ (List.mem_append_right _ ?_); k_mem
          rcases List.mem_cons.mp hp with rfl | hp
          · refine .tail _ (List.mem_append_right _ ?_); k_mem
          rcases List.mem_cons.mp hp with rfl | hp
          · refine .tail _ (List.mem_append_right _ ?_); k_mem
          rcases List.mem_cons.mp hp with rfl | hp
          · refine .tail _ (List.mem_append_right _ ?_); k_mem
          exact hT p hp)
        have hcell : ∀ c o, (c, o) ∈ [(s1.heap.objs.size + 1 + 1 + 1 + 1 + 1, oc5), (s1.heap.objs.size + 1 + 1 + 1 + 1, oc4), (s1.heap.objs.size + 1 + 1 + 1, oc3), (s1.heap.objs.size + 1 + 1, oc2), (s1.heap.objs.size + 1, ocp)] → D5 ≠ c → (∀ p ∈ acc, p.1 ≠ c) → ∀ p ∈ (D, LCg.lst ys) :: (D5, LCg.lst ys5) :: (acc2 ++ acc), p.1 ≠ c := by
          intro c o hc h1 h2 p hp
          have hcm : (c, o) ∈ (D5, LCg.lst ys5) :: (s1.heap.objs.size + 1 + 1 + 1 + 1 + 1, oc5) :: (s1.heap.objs.size + 1 + 1 + 1 + 1, oc4) :: (s1.heap.objs.size + 1 + 1 + 1, oc3) :: (s1.heap.objs.size + 1 + 1, oc2) :: (s1.heap.objs.size + 1, ocp) :: acc := .tail _ (by
            rcases List.mem_cons.mp hc with e | hc
            · rw [e]; k_mem
            rcases List.mem_cons.mp hc with e | hc
            · rw [e]; k_mem
            rcases List.mem_cons.mp hc with e | hc
            · rw [e]; k_mem
            rcases List.mem_cons.mp hc with e | hc
            · rw [e]; k_mem
            rcases List.mem_cons.mp hc with e | hc
            · rw [e]; k_mem
            · exact nomatch hc)
          rcases List.mem_cons.mp hp with rfl | hp
          · exact Ne.symm (hoD _ (List.mem_append_right _ hcm))
          rcases List.mem_cons.mp hp with rfl | hp
          · exact h1
          rcases List.mem_append.mp hp with hp | hp
          · exact hap p hp _ hcm
          · exact h2 p hp
        have b1 := hcell _ _ (by k_mem) e1 a1
        have b2 := hcell _ _ (by k_mem) e2 a2
        have b3 := hcell _ _ (by k_mem) e3 a3
        have b4 := hcell _ _ (by k_mem) e4 a4
        have b5 := hcell _ _ (by k_mem) e5 a5
        have hP : ∃ ys, (D5, LCg.lst ys) ∈ (D, LCg.lst ys) :: (D5, LCg.lst ys5) :: (acc2 ++ acc) ∧ True := ⟨ys5, .tail _ (.head _), trivial⟩
        have hpm : (D5, LCg.lst ys5) ∈ (D, LCg.lst ys) :: (D5, LCg.lst ys5) :: (acc2 ++ acc) := .tail _ (.head _)
        have hpt : All2 (TwoAt ((D, LCg.lst ys) :: (D5, LCg.lst ys5) :: (acc2 ++ acc))) ys5 ((List.range 16).map fun i => wr (ns.getD i 0)) := hys.mono fun v x h => DatIn.mono (fun p hp => .tail _ (.tail _ (List.mem_append_right _ hp))) h
        have hpn : RowsAt ((D, LCg.lst ys) :: (D5, LCg.lst ys5) :: (acc2 ++ acc)) (.ref D) (matR fun i j => (wr (ns.getD (4 * i + j) 0)).length) := ⟨D, ys, ys.length, rfl, .head _, hpl.mono fun p hp => .tail _ (.tail _ (List.mem_append_left _ hp))⟩
        clear hcell hT hP hoD hap N3 e1 e2 e3 e4 e5 a1 a2 a3 a4 a5
        generalize hTT : (D, LCg.lst ys) :: (D5, LCg.lst ys5) :: (acc2 ++ acc) = TT at *
        dsimp only
        k_steps
        -- part 4
        rename Fr s1.heap _ _ _ => F1
        rename News s1.heap _ _ _ => N1
        rename _ = Data.cell (some (Value.ref D)) => dp2
        rename Obj => ocl
        refine Assign_open F1 (by with_unfolding_all rfl) (by rfl) (by rfl) (by decide) ?_
        k_steps
        unfold Stop
        rename Fr s1.heap _ _ _ => F2
        rename News s1.heap _ _ _ => N2
        rename IsRange _ _ _ _ _ _ _ _ => R2
        refine range_cellA (n := 4) (fun tl v i => RowAt tl v ((List.range 4).map fun j => (((wr (ns.getD (4 * i + j) 0)).length : Nat) : Int))) (fun i => i) ?kk0 ?kk1 ?kk2 rfl R2 (by decide) (by rw [sizeLine_eq]; decide) F2 N2 ?kk3 ?kk4 ?kk5 ?kk6 (fun tl tl' v y hs h => h.mono hs) ?elt ?fin
        case kk0 => rfl
        case kk1 => rfl
        case kk2 => rfl
        case kk3 => exact fun _ _ => rfl
        case kk4 => exact fun _ => rfl
        case kk5 => rfl
        case kk6 => rfl
        case elt =>
          intro i t' I oI C oC K oK D3 h tk ys acc2 E' Q' hi hK F3 N3 hQ'
          simp only [List.cons_append] at N3 hQ'
          refine LCg.ListComp_U F3 (by rfl) (by decide) (by rfl) (by decide) (by rfl) ?_
          k_steps
          unfold Stop
          rename Fr s1.heap _ _ _ => F4
          rename News s1.heap _ _ _ => N4
          rename IsRange _ _ _ _ _ _ _ _ => R4
          refine LCg.CompSrc.range rfl F4 N4 R4 (by decide) (by rw [rangeSize_one]; rfl) (by rw [sizeLine_eq]; decide) ?_
          intro g
          refine compRest_int (fun j => (((wr (ns.getD (4 * i + j) 0)).length : Nat) : Int)) (fun _ => trivial) ?_ ?_
          · intro j vj I2 oI2 C2 oC2 D2 m2 h2 tk2 ys2 acc3 E2 Q2 hj hP hC2 hx2 F5 N5 hQ2
            obtain ⟨tj, rfl⟩ := hP
            have hj4 : j < 4 := hj
            have hi4 : i < 4 := hi
            rw [Int.zero_add] at hx2
            simp only [List.cons_append] at N5 hQ2
            dsimp only at hQ2 ⊢
            k_steps
            unfold Stop
            rename News s1.heap _ _ _ => N6
            obtain ⟨v6, hv6, hd6⟩ := hpt.get (4 * i + j) (wr (ns.getD (4 * i + j) 0)) (by rw [List.getElem?_map, List.getElem?_range (by omega)]; rfl)
            obtain ⟨T6, t6, u6, n6, rfl, hm6⟩ := two_inv hd6
            refine pair_item (vs := ys5) (n := ys5.length) N6 (by repeat' (first | exact hpm | apply List.mem_cons_of_mem | (refine List.mem_append_left _ ?_))) hi4 hj4 hv6 ?_
            k_steps
            unfold Stop
            rename News s1.heap _ _ _ => N7
            refine two_item N7 (x := wr (ns.getD (4 * i + j) 0)) (t := t6) (t' := u6) (n := n6) (by repeat' (first | exact hm6 | apply List.mem_cons_of_mem | (refine List.mem_append_left _ ?_))) (.inl rfl) ?_
            intro t7
            k_steps
            unfold Stop
            have hwl := wr_small (hb (ns.getD (4 * i + j) 0) (getD_mem' (by omega))).1 (hb (ns.getD (4 * i + j) 0) (getD_mem' (by omega))).2
            refine hint_spec (by assumption) F5 (by assumption) N7 (by assumption) rfl (by decide) hwl ?_
            intro t8 h8 tk8 F8 N8
            exact hQ2 _ [] _ _ F8 N8 (fun _ h => nomatch h)
          · intro ys2 acc3 hys3 hap3 D2 h2 tk2 F5 N5 hD2
            have hD2' := off1_mem hD2
            refine hQ' (.ref D2) ((D2, LCg.lst ys2) :: acc3) h2 tk2 F5 N5 ?_ ⟨D2, ys2, ys2.length, rfl, .head _, hys3⟩
            intro p hp q hq
            rcases List.mem_cons.mp hp with rfl | hp
            · exact Ne.symm (hD2' q (List.mem_append_right _ hq))
            · exact hap3 p hp q hq
        case fin =>
          intro ys acc2 D3 h tk hys2 hap F3 N3 hoD
          have hpl : RowsAre acc2 ys (matR fun i j => (wr (ns.getD (4 * i + j) 0)).length) := by
            have z := rows_of hys2
            rw [List.map_map] at z
            exact z
          have N4 : News s1.heap s1.heap.objs.size h ((s1.heap.objs.size + 1 + 1 + 1 + 1 + 1, oc5) :: (s1.heap.objs.size + 1 + 1 + 1 + 1, oc4) :: (s1.heap.objs.size + 1 + 1 + 1, oc3) :: (s1.heap.objs.size + 1 + 1, ocl) :: (s1.heap.objs.size + 1, ocp) :: (D3, LCg.lst ys) :: (acc2 ++ TT)) := fun p hp => N3 p (by
            rcases List.mem_cons.mp hp with rfl | hp
            · refine .tail _ (List.mem_append_right _ ?_); k_mem
            rcases List.mem_cons.mp hp with rfl | hp
            · refine .tail _ (List.mem_append_right _ ?_); k_mem
            rcases List.mem_cons.mp hp with rfl | hp
            · refine .tail _ (List.mem_append_right _ ?_); k_mem
            rcases List.mem_cons.mp hp with rfl | hp
            · refine .tail _ (List.mem_append_right _ ?_); k_mem
            rcases List.mem_cons.mp hp with rfl | hp
            · refine .tail _ (List.mem_append_right _ ?_); k_mem
            rcases List.mem_cons.mp hp with rfl | hp
            · exact .head _
            rcases List.mem_append.mp hp with hp | hp
            · exact .tail _ (List.mem_append_left _ hp)
            · exact .tail _ (List.mem_append_right _ (.tail _ (.tail _ (.tail _ (.tail _ (.tail _ hp)))))))
          have hcell : ∀ c o, (c, o) ∈ [(s1.heap.objs.size + 1 + 1 + 1 + 1 + 1, oc5), (s1.heap.objs.size + 1 + 1 + 1 + 1, oc4), (s1.heap.objs.size + 1 + 1 + 1, oc3), (s1.heap.objs.size + 1 + 1, ocl), (s1.heap.objs.size + 1, ocp)] → (∀ p ∈ TT, p.1 ≠ c) → ∀ p ∈ (D3, LCg.lst ys) :: (acc2 ++ TT), p.1 ≠ c := by
            intro c o hc h2 p hp
            have hcm : (c, o) ∈ (s1.heap.objs.size + 1 + 1 + 1 + 1 + 1, oc5) :: (s1.heap.objs.size + 1 + 1 + 1 + 1, oc4) :: (s1.heap.objs.size + 1 + 1 + 1, oc3) :: (s1.heap.objs.size + 1 + 1, ocl) :: (s1.heap.objs.size + 1, ocp) :: TT := List.mem_append_left TT hc
            rcases List.mem_cons.mp hp with rfl | hp
            · exact Ne.symm (hoD _ (List.mem_append_right _ hcm))
            rcases List.mem_append.mp hp with hp | hp
            · exact hap p hp _ hcm
            · exact h2 p hp
          replace b1 := hcell _ _ (by k_mem) b1
          replace b2 := hcell _ _ (by k_mem) b2
          replace b3 := hcell _ _ (by k_mem) b3
          replace b4 := hcell _ _ (by k_mem) b4
          replace b5 := hcell _ _ (by k_mem) b5
          have hup : ∀ p ∈ TT, p ∈ (D3, LCg.lst ys) :: (acc2 ++ TT) := fun p hp => .tail _ (List.mem_append_right _ hp)
          replace hpn := hpn.mono hup
          have hln : RowsAt ((D3, LCg.lst ys) :: (acc2 ++ TT)) (.ref D3) (matR fun i j => (wr (ns.getD (4 * i + j) 0)).length) := ⟨D3, ys, ys.length, rfl, .head _, hpl.mono fun p hp => .tail _ (List.mem_append_left _ hp)⟩
          clear hcell hoD hap N3 hpm hpt hup hTT
          generalize (D3, LCg.lst ys) :: (acc2 ++ TT) = T4 at *
          dsimp only
          k_steps
          unfold Stop
          -- part 5
          rename Fr s1.heap _ _ _ => F1
          rename News s1.heap _ _ _ => N1
          refine widths_spec (M := fun i j => (wr (ns.getD (4 * i + j) 0)).length) K0 F1 KX N1 T rfl (by decide) ?hM ?hl ?ret
          case hM => exact wr_le hb
          case hl => exact hln.mono fun p hp => .tail _ (.tail _ (.tail _ (.tail _ (.tail _ hp))))
          case ret =>
            intro r tl h5 tk5 F5 N5 hlt hrw
            replace F5 : Fr s1.heap s1.heap.objs.size h5 _ := F5
            replace N5 : News s1.heap s1.heap.objs.size h5 _ := five_up N5
            replace b1 := five_off (by k_mem) (lt_apart hlt) b1
            replace b2 := five_off (by k_mem) (lt_apart hlt) b2
            replace b3 := five_off (by k_mem) (lt_apart hlt) b3
            replace b4 := five_off (by k_mem) (lt_apart hlt) b4
            replace b5 := five_off (by k_mem) (lt_apart hlt) b5
            replace hpn := hpn.mono fun p hp => mem_right (tl := tl) hp
            replace hrw : RowsAt (tl ++ T4) _ _ := hrw.mono fun p hp => mem_left hp
            have hM : ∀ i j, (fun i j => (wr (ns.getD (4 * i + j) 0)).length) i j ≤ 12 := wr_le hb
            clear N1 F1 hlt hln hys hb hlen
            generalize (fun i j => (wr (ns.getD (4 * i + j) 0)).length) = Mx at *
            generalize tl ++ T4 = T5 at *
            k_steps
            rename _ = Data.cell (some r) => dr
            rename Obj => ocr
            obtain ⟨R, Rv, Rn, rfl, hRm, hRa⟩ := id hrw
            clear hRm hRa
            rename Fr s1.heap s1.heap.objs.size _ _ => F6
            rename News s1.heap s1.heap.objs.size _ _ => N6
            rename _ ∧ _ => lT
            rename_i g1 tol g2 g3
            -- part 6
            have auto : AutoSub := trivial
            unfold Stop
            refine For_turns F6 ?_
            k_steps
            unfold Stop
            rename Fr s1.heap _ _ _ => F7
            rename News s1.heap _ _ _ => N7
            rename IsRange _ _ _ _ _ _ _ _ => R7
            have lTT : ∀ p ∈ T5, p.1 < tol := allLt_get lT.2.2.2.2.2
            refine range_turns (n := 4) (ITold s1.heap.objs.size tol oc5 ocr ocl ocp Mx T5) [(Str.ofString "told", .ref tol)] _ rfl R7 (by decide) F7 N7 (fun p hp => hp) ?hp ?hi ?turn ?done
            case hp => (repeat' (first | exact List.forall_mem_nil _ | (refine List.forall_mem_cons.mpr ⟨rfl, ?_⟩)))
            case hi => exact ⟨[], 0, oc4, _, rfl, rfl, dc4, .nil⟩
            case turn =>
              rintro i t ps m2 nx h tk2 own hi hown ⟨lv, c, oc, x, rfl, rfl, hoc, hlv⟩ F8 N8
              clear F7 N7
              simp only [List.cons_append] at N8
              obtain ⟨hto', b1', b2', b3', b4', b5'⟩ := five_own hown (fun p hp => Nat.ne_of_lt (lTT p hp)) b1 b2 b3 b4 b5
              have hrw' : RowsAt (T5 ++ own) (.ref R) ((List.range 5).map (rowR Mx)) := hrw.mono fun p hp => mem_left hp
              generalize hT6 : T5 ++ own = T6 at N8 b1' b2' b3' b4' b5' hto' hrw'
              clear hrw hpn
              replace F8 : Fr s1.heap s1.heap.objs.size h _ := F8
              replace N8 : News s1.heap s1.heap.objs.size h _ := N8
              k_steps
              rotate_left
              · rename Fr s1.heap s1.heap.objs.size _ _ => F9
                rename News s1.heap s1.heap.objs.size _ _ => N9
                rename _ = Data.cell (some (Value.int _ _)) => d9
                rename Obj => oc6
                rename ((Wd Mx 4 i : Nat) : Int) = 0 => w9
                subst hT6
                refine inv_endA F9 N9 [(Str.ofString "told", .ref tol)] ((tol, listOf lv.toArray c) :: (s1.heap.objs.size + 1 + 1 + 1 + 1 + 1, oc5) :: (s1.heap.objs.size + 1 + 1 + 1 + 1, oc6) :: (s1.heap.objs.size + 1 + 1 + 1, ocr) :: (s1.heap.objs.size + 1 + 1, ocl) :: (s1.heap.objs.size + 1, ocp) :: T5) ⟨lv, c, _, _, rfl, rfl, d9, ?_⟩ (by (repeat' (first | exact List.forall_mem_nil _ | (refine List.forall_mem_cons.mpr ⟨rfl, ?_⟩)))) hown rfl ?_ ?_
                · rw [toldL_skip (by omega)]; exact hlv
                · exact fun p hp => six_left hp
                · exact fun p hp => six_right hp
              unfold Stop
              rename Fr s1.heap s1.heap.objs.size _ _ => F9
              rename News s1.heap s1.heap.objs.size _ _ => N9
              rename _ = Data.cell (some (Value.int _ _)) => d9
              rename Obj => oc6
              rename ¬ ((Wd Mx 4 i : Nat) : Int) = 0 => w9
              refine LCg.ListComp_U F9 (by rfl) (by decide) (by rfl) (by decide) (by rfl) ?_
              k_steps
              unfold Stop
              rename Fr s1.heap s1.heap.objs.size _ _ => F10
              rename News s1.heap s1.heap.objs.size _ _ => N10
              rename IsRange _ _ _ _ _ _ _ _ => R10
              refine LCg.CompSrc.range rfl F10 N10 R10 (by decide) (by rw [rangeSize_one]; rfl) (by rw [sizeLine_eq]; decide) ?_
              intro g
              refine compRest_int (fun k => tkv Mx i k) (fun _ => trivial) ?elt ?fin
              case elt =>
                intro k vk I2 oI2 C2 oC2 D2 m3 h2 tk3 ys2 acc3 E2 Q2 hk hP hC2 hx2 F11 N11 hQ2
                obtain ⟨tj, rfl⟩ := hP
                have hk4 : k < 4 := hk
                rw [Int.zero_add] at hx2
                simp only [List.cons_append] at N11 hQ2
                dsimp only at hQ2 ⊢
                have u1 := Wd_le hM (Nat.le_refl 4) i
                have u2 := Wd_le hM (k := k) (by omega) i
                k_steps
                rename Fr T.heap s1.heap.objs.size _ _ => F12
                rename News T.heap s1.heap.objs.size _ _ => N12
                rw [tkv_eq hk4]
                exact hQ2 _ [] _ _ F12 N12 (fun _ h => nomatch h)
              case fin =>
                intro ys2 acc3 hys3 hap3 D2 h2 tk3 F11 N11 hD2
                have hm2 : h2.get? D2 = some (LCg.lst ys2) := (N11 _ (.head _)).1
                have N12 : News s1.heap s1.heap.objs.size h2 ((D2, LCg.lst ys2) :: (tol, listOf lv.toArray c) :: (s1.heap.objs.size + 1 + 1 + 1 + 1 + 1, oc5) :: (s1.heap.objs.size + 1 + 1 + 1 + 1, oc6) :: (s1.heap.objs.size + 1 + 1 + 1, ocr) :: (s1.heap.objs.size + 1 + 1, ocl) :: (s1.heap.objs.size + 1, ocp) :: T6) := fun p hp => N11 p ((List.mem_cons.mp hp).elim (fun e => e ▸ .head _) fun hp => .tail _ (List.mem_append_right _ hp))
                replace F11 : Fr s1.heap s1.heap.objs.size h2 _ := F11
                clear N11 N10 F10 hap3 R10
                k_steps
                unfold Stop
                refine kso_min F11 N12 ⟨_, (N12 _ (.head _)).1, rfl, _, rfl⟩ hys3 (by simp) rfl ?_
                intro h6 mv t6 tk6 F13 N13 hmv1 hmv2
                have emv : mv = tv Mx i := mnL_eq hmv1 hmv2
                subst emv
                replace N13 : News s1.heap s1.heap.objs.size h6 _ := fun p hp => N13 p (.tail _ hp)
                clear N12 F11 hmv1 hmv2
                k_steps
                unfold Stop
                rename Fr s1.heap s1.heap.objs.size _ _ => F14
                rename News s1.heap s1.heap.objs.size _ _ => N14
                refine append_K F14 N14 (.head (List.forall_mem_cons.mpr ⟨Nat.ne_of_lt lT.1, List.forall_mem_cons.mpr ⟨Nat.ne_of_lt lT.2.1, List.forall_mem_cons.mpr ⟨Nat.ne_of_lt lT.2.2.1, List.forall_mem_cons.mpr ⟨Nat.ne_of_lt lT.2.2.2.1, List.forall_mem_cons.mpr ⟨Nat.ne_of_lt lT.2.2.2.2.1, hto'⟩⟩⟩⟩⟩)) ?_ (by rw [List.size_toArray, hlv.length]; exact told_size (by omega))
                intro h9 F15 N15
                rw [List.push_toArray] at N15
                dsimp only at N15 ⊢
                k_steps
                rename Fr s1.heap s1.heap.objs.size _ _ => F16
                rename News s1.heap s1.heap.objs.size _ _ => N16
                subst hT6
                refine inv_endA F16 N16 [(Str.ofString "told", .ref tol)] ((tol, listOf (lv ++ [Value.int (tv Mx i) t6]).toArray (c + 1)) :: (s1.heap.objs.size + 1 + 1 + 1 + 1 + 1, oc5) :: (s1.heap.objs.size + 1 + 1 + 1 + 1, oc6) :: (s1.heap.objs.size + 1 + 1 + 1, ocr) :: (s1.heap.objs.size + 1 + 1, ocl) :: (s1.heap.objs.size + 1, ocp) :: T5) ⟨lv ++ [Value.int (tv Mx i) t6], c + 1, _, _, rfl, rfl, d9, ?_⟩ (by (repeat' (first | exact List.forall_mem_nil _ | (refine List.forall_mem_cons.mpr ⟨rfl, ?_⟩)))) hown rfl ?_ ?_
                · rw [toldL_snoc (by omega)]; exact ints_snoc hlv
                · exact fun p hp => six_left hp
                · exact fun p hp => six_right hp
            case done =>
              rintro ps m2 nx h tk2 ⟨lv, c, oc, x, rfl, rfl, hoc, hlv⟩ F8 N8
              replace F8 : Fr s1.heap s1.heap.objs.size h _ := F8
              replace N8 : News s1.heap s1.heap.objs.size h _ := N8
              clear F7 N7 dc4 R7
              k_steps
              clear auto
              -- part 7
              unfold Stop
              refine rounds_spec (M := Mx) K0 F8 KX N8 T rfl (by decide) (by decide) ?hl ?ret
              case hl => exact hpn.mono fun p hp => .tail _ (.tail _ (.tail _ (.tail _ (.tail _ (.tail _ hp)))))
              case ret =>
                intro r tl h5 tk5 F9 N9 hap hrd
                obtain ⟨rr, rv, rn, rfl, hrm, hrnd⟩ := hrd
                replace F9 : Fr s1.heap s1.heap.objs.size h5 _ := F9
                replace N9 : News s1.heap s1.heap.objs.size h5 _ := N9
                have hun := mid_un (tl := tl) (T := T5) (c0 := (tol, listOf lv.toArray c)) (a1 := s1.heap.objs.size + 1) (a2 := s1.heap.objs.size + 1 + 1) (a3 := s1.heap.objs.size + 1 + 1 + 1) (a4 := s1.heap.objs.size + 1 + 1 + 1 + 1) (a5 := s1.heap.objs.size + 1 + 1 + 1 + 1 + 1) dp1 dp2 dr hoc dc5
                replace hrnd := hrnd.mono (StepsAt.un hun)
                replace hrm := hun _ hrm list_noCell
                replace N9 := mid_up N9
                replace b1 := mid_off (by k_mem) hap (Nat.ne_of_gt lT.2.2.2.2.1) b1
                replace b2 := mid_off (by k_mem) hap (Nat.ne_of_gt lT.2.2.2.1) b2
                replace b3 := mid_off (by k_mem) hap (Nat.ne_of_gt lT.2.2.1) b3
                replace b4 := mid_off (by k_mem) hap (Nat.ne_of_gt lT.2.1) b4
                replace b5 := mid_off (by k_mem) hap (Nat.ne_of_gt lT.1) b5
                have htm : (tol, listOf lv.toArray c) ∈ tl ++ (tol, listOf lv.toArray c) :: T5 := List.mem_append_right _ (.head _)
                have hup : ∀ p ∈ T5, p ∈ tl ++ (tol, listOf lv.toArray c) :: T5 := fun p hp => List.mem_append_right _ (.tail _ hp)
                replace hpn := hpn.mono hup
                replace hrw := hrw.mono hup
                clear hun hup hap N8 F8 lT lTT
                generalize tl ++ (tol, listOf lv.toArray c) :: T5 = T7 at *
                k_steps
                unfold Stop
                rename Fr s1.heap s1.heap.objs.size _ _ => F10
                rename News s1.heap s1.heap.objs.size _ _ => N10
                refine rounds_eq (lv := []) N10 (by repeat' (first | exact hrm | apply List.mem_cons_of_mem)) hrnd (by (intro p hp; (repeat' (first | exact hp | exact List.mem_append_left _ hp | (rcases List.mem_cons.mp hp with rfl | hp) | exact List.mem_cons_self | apply List.mem_cons_of_mem)))) (.head _) .nil (by simp only [units_deeper]; decide) ?_
                by_cases hrk : ranked Mx = []
                · rw [decide_eq_true ⟨hrk, rfl⟩]
                  k_steps
                  unfold Stop
                  rename Fr s1.heap s1.heap.objs.size _ _ => F11
                  rename News s1.heap s1.heap.objs.size _ _ => N11
                  refine rounds_eq N11 (by repeat' (first | exact hrm | apply List.mem_cons_of_mem)) hrnd (by (intro p hp; (repeat' (first | exact hp | exact List.mem_append_left _ hp | (rcases List.mem_cons.mp hp with rfl | hp) | exact List.mem_cons_self | apply List.mem_cons_of_mem)))) (by repeat' (first | exact htm | apply List.mem_cons_of_mem)) hlv (by simp only [units_deeper]; decide) ?_
                  rw [decide_eq_true ⟨hrk, law_none hrk⟩]
                  k_steps
                · rw [decide_eq_false (fun q => hrk q.1)]
                  k_steps
                  unfold Stop
                  rename Fr s1.heap s1.heap.objs.size _ _ => F11
                  rename News s1.heap s1.heap.objs.size _ _ => N11
                  refine ints_eq_nil N11 (by repeat' (first | exact htm | apply List.mem_cons_of_mem)) hlv (.head _) (by simp only [units_deeper]; decide) ?_
                  rw [decide_eq_false (law_best hrk).1]
                  replace N11 : News s1.heap s1.heap.objs.size _ _ := fun p hp => N11 p (.tail _ (.tail _ hp))
                  k_steps
                  try unfold Stop
                  rename Fr s1.heap s1.heap.objs.size _ _ => F12
                  rename News s1.heap s1.heap.objs.size _ _ => N12
                  -- part 8
                  have auto : AutoSub := trivial
                  have hrl := hrnd.length
                  refine LCg.CompSrc.ledger rfl F12 N12 (by repeat' (first | exact hrm | apply List.mem_cons_of_mem)) (by rw [List.size_toArray, hrl]; exact ranked_size Mx) ?_
                  intro g
                  refine compRest_int (fun i => worth Mx ((ranked Mx).getD i [])) ?hS ?elt ?fin
                  case hS => exact fun acc => .inr ⟨listOf rv.toArray rn, List.mem_append_right _ (by repeat' (first | exact hrm | apply List.mem_cons_of_mem)), rfl, rn, rfl⟩
                  case elt =>
                    intro i v I oI C oC D2 m3 h2 tk3 ys2 acc3 E2 Q2 hi hP hC hx F13 N13 hQ2
                    obtain ⟨wy, hwy, sl, svs, sn, rfl, hsm, hsa⟩ := hrnd.at i v (by simpa using hP)
                    have hwm := List.mem_of_getElem? hwy
                    have hsl : svs.length = (cyc wy).length := hsa.length
                    have hc4 := ranked_len hwm
                    rw [← cyc_len] at hc4
                    have ewy : (ranked Mx).getD i [] = wy := by rw [List.getD_eq_getElem?_getD, hwy]; rfl
                    dsimp only at hQ2 ⊢
                    rw [ewy] at hQ2
                    simp only [List.cons_append] at N13 hQ2
                    k_steps
                    unfold Stop
                    rename News s1.heap s1.heap.objs.size _ _ => N14
                    refine list_len N14 (by repeat' (first | exact List.mem_append_left _ hsm | apply List.mem_cons_of_mem)) hsl hc4.2 ?_
                    have hc5 : (0 : Int) < ((cyc wy).length : Int) := by omega
                    have hc6 : ((cyc wy).length : Int) ≤ 4 := by omega
                    k_steps
                    unfold Stop
                    dsimp only
                    rename News s1.heap s1.heap.objs.size _ _ => N15
                    refine LCp.ListComp_P F13 (by with_unfolding_all rfl) (by decide) (by rfl) (by decide) (by rfl) (by rfl) (by decide) ?_
                    k_steps
                    unfold Stop
                    rename Fr s1.heap s1.heap.objs.size _ _ => F16
                    rename News s1.heap s1.heap.objs.size _ _ => N16
                    refine LCp.SrcLP.ledger rfl F16 N16 (by repeat' (first | exact List.mem_append_left _ hsm | apply List.mem_cons_of_mem)) (by rw [List.size_toArray, hsl, sizeLine_eq]; exact Nat.le_trans hc4.2 (by decide)) ?_
                    intro g2
                    refine compRestP_int (fun q => ((Mx q.1 q.2 : Nat) : Int)) (by rw [List.size_toArray]) (fun i v h => by simpa using h) (hsa.mono (PairAt.mono (by (intro p hp; (repeat' (first | exact hp | exact List.mem_append_left _ hp | (rcases List.mem_cons.mp hp with rfl | hp) | exact List.mem_cons_self | apply List.mem_cons_of_mem)))))) (.inr ⟨listOf svs.toArray sn, (by repeat' (first | exact List.mem_append_left _ hsm | apply List.mem_cons_of_mem)), rfl, sn, rfl⟩) ?elt2 ?fin2
                    case elt2 =>
                      intro q tq uq I3 oI3 C3 oC3 D3 m4 h3 tk4 ys3 E3 Q3 hq hC3 hx3 hx4 F17 N17 hQ3
                      have hq1 := (ranked_lt hwm q hq).1
                      have hq2 := (ranked_lt hwm q hq).2
                      k_steps
                      rename News s1.heap s1.heap.objs.size _ _ => N18
                      exact hQ3 _ _ _ F17 N18
                    case fin2 =>
                      intro ys3 hys3 D4 h5 tk5 F18 N18 hD4
                      dsimp only
                      clear F16 N16
                      k_steps
                      unfold Stop
                      refine sumK rfl F18 N18 ⟨_, (N18 _ (.head _)).1, rfl, _, rfl⟩ hys3 ?_
                      intro h6 tk6 t6 F19 N19
                      replace N19 : News s1.heap s1.heap.objs.size h6 _ := fun p hp => N19 p (.tail _ hp)
                      have hsum : ((cyc wy).map fun q : Nat × Nat => ((Mx q.1 q.2 : Nat) : Int)).sum = (((cyc wy).map fun q => Mx q.1 q.2).sum : Nat) := sum_cast (fun q : Nat × Nat => Mx q.1 q.2) (cyc wy)
                      have hsmall := sumW_small hM (cyc wy)
                      have hs1 : 0 ≤ ((cyc wy).map fun q : Nat × Nat => ((Mx q.1 q.2 : Nat) : Int)).sum := by omega
                      have hs2 : ((cyc wy).map fun q : Nat × Nat => ((Mx q.1 q.2 : Nat) : Int)).sum ≤ 48 := by omega
                      clear N18 F18 hsum hsmall
                      k_steps
                      rw [worth_eq hc4.1]
                      exact hQ2 _ [] _ _ F19 N19 (fun _ h => nomatch h)
                  case fin =>
                    intro ys2 acc3 hys hap D2 h2 tk3 F13 N13 hD2
                    have hD2' := off1_mem hD2
                    have hwo : IntsAre ys2 (worthL Mx) := by
                      rw [List.size_toArray, hrl, range_getD] at hys
                      exact hys
                    have N14 : News s1.heap s1.heap.objs.size h2 ((s1.heap.objs.size + 1 + 1 + 1 + 1 + 1, oc5) :: (s1.heap.objs.size + 1 + 1 + 1 + 1, oc) :: (s1.heap.objs.size + 1 + 1 + 1, ocr) :: (s1.heap.objs.size + 1 + 1, ocl) :: (s1.heap.objs.size + 1, ocp) :: ([(D2, LCg.lst ys2)] ++ T7)) := fun p hp => N13 p (by
                      have := five_mem hp
                      rcases List.mem_cons.mp this with rfl | h
                      · exact .head _
                      · exact .tail _ (List.mem_append_right _ h))
                    have hne : ∀ p ∈ [(D2, LCg.lst ys2)], ∀ q ∈ ((s1.heap.objs.size + 1 + 1 + 1 + 1 + 1, oc5) :: (s1.heap.objs.size + 1 + 1 + 1 + 1, oc) :: (s1.heap.objs.size + 1 + 1 + 1, ocr) :: (s1.heap.objs.size + 1 + 1, ocl) :: (s1.heap.objs.size + 1, ocp) :: T7 : List (Addr × Obj)), p.1 ≠ q.1 := by
                      intro p hp q hq
                      rw [List.mem_singleton.mp hp]
                      exact Ne.symm (hD2' q (List.mem_append_right _ hq))
                    replace b1 := five_off (by k_mem) hne b1
                    replace b2 := five_off (by k_mem) hne b2
                    replace b3 := five_off (by k_mem) hne b3
                    replace b4 := five_off (by k_mem) hne b4
                    replace b5 := five_off (by k_mem) hne b5
                    have hup : ∀ p ∈ T7, p ∈ [(D2, LCg.lst ys2)] ++ T7 := fun p hp => mem_right hp
                    replace hpn := hpn.mono hup
                    replace hrw := hrw.mono hup
                    replace htm := hup _ htm
                    have hwm : (D2, LCg.lst ys2) ∈ [(D2, LCg.lst ys2)] ++ T7 := .head _
                    clear N13 hD2 hD2' hap hne hup hrm hrnd N12 F12
                    generalize [(D2, LCg.lst ys2)] ++ T7 = T8 at *
                    obtain ⟨ht0, hkarp⟩ := law_best hrk
                    have hw0 : worthL Mx ≠ [] := fun q => hrk (List.map_eq_nil_iff.mp q)
                    k_steps
                    unfold Stop
                    rename Fr s1.heap s1.heap.objs.size _ _ => F15
                    rename News s1.heap s1.heap.objs.size _ _ => N15
                    refine kso_max F15 N15 ⟨_, (N15 _ (by repeat' (first | exact htm | apply List.mem_cons_of_mem))).1, rfl, _, rfl⟩ hlv (List.length_pos_iff.mpr ht0) rfl ?_
                    intro h6 mv t6 tk6 F16 N16 hm1 hm2
                    have emv : mv = mxL (worthL Mx) := (mxL_eq hm1 hm2).trans hkarp
                    clear N15 F15 hm1 hm2
                    k_steps
                    unfold Stop
                    rename Fr s1.heap s1.heap.objs.size _ _ => F17
                    rename News s1.heap s1.heap.objs.size _ _ => N17
                    refine kso_max F17 N17 ⟨_, (N17 _ (by repeat' (first | exact hwm | apply List.mem_cons_of_mem))).1, rfl, _, rfl⟩ hwo (List.length_pos_iff.mpr hw0) rfl ?_
                    intro h7 mw t7 tk7 F18 N18 hm1 hm2
                    have emw : mw = mxL (worthL Mx) := mxL_eq hm1 hm2
                    subst emv
                    subst emw
                    clear F17 N17 hm1 hm2
                    k_steps
                    rename _ = Data.cell (some (Value.int (mxL _) _)) => dbst
                    rename Obj => ocb
                    rename _ ∧ _ => lP
                    rename Fr s1.heap s1.heap.objs.size _ _ => F20
                    rename News s1.heap s1.heap.objs.size _ _ => N20
                    rename_i prl gA gB
                    have hBp : ∀ u v, u < 4 → v < 4 → Mx u v ≠ 0 → 12 * (Mx u v : Int) + prc Mx (mxL (worthL Mx)) u ≤ mxL (worthL Mx) + prc Mx (mxL (worthL Mx)) v := fun u v hu hv e => law_price hu hv e
                    have hB0 := best_small hM hw0
                    clear hkarp hw0 ht0 hrk hwo hrl
                    generalize mxL (worthL Mx) = B at *
                    clear auto
                    -- part 9
                    have auto : AutoSub := trivial
                    unfold Stop
                    refine For_turns F20 ?_
                    k_steps
                    unfold Stop
                    rename Fr s1.heap s1.heap.objs.size _ _ => F7
                    rename News s1.heap s1.heap.objs.size _ _ => N7
                    rename IsRange _ _ _ _ _ _ _ _ => R7
                    have lTT : ∀ p ∈ T8, p.1 < prl := allLt_get lP.2.2.2.2.2
                    refine range_turns (n := 4) (IPrices s1.heap.objs.size prl ocb ocr ocl ocp Mx B T8) [(Str.ofString "prices", .ref prl)] _ rfl R7 (by decide) F7 N7 (fun p hp => hp) ?hp ?hi ?turn ?done
                    case hp => (repeat' (first | exact List.forall_mem_nil _ | (refine List.forall_mem_cons.mpr ⟨rfl, ?_⟩)))
                    case hi => exact ⟨[], 0, oc, _, rfl, rfl, hoc, .nil⟩
                    case turn =>
                      rintro i t ps m5 nx h tk2 own hi hown ⟨lv2, c2, oc2, x2, rfl, rfl, hoc2, hlv2⟩ F8 N8
                      clear F7 N7
                      simp only [List.cons_append] at N8
                      obtain ⟨hto', b1', b2', b3', b4', b5'⟩ := five_own hown (fun p hp => Nat.ne_of_lt (lTT p hp)) b1 b2 b3 b4 b5
                      have hrw' : RowsAt (T8 ++ own) (.ref R) ((List.range 5).map (rowR Mx)) := hrw.mono fun p hp => mem_left hp
                      generalize hT6 : T8 ++ own = T6 at N8 b1' b2' b3' b4' b5' hto' hrw'
                      clear hrw hpn
                      replace F8 : Fr s1.heap s1.heap.objs.size h _ := F8
                      replace N8 : News s1.heap s1.heap.objs.size h _ := N8
                      k_steps
                      unfold Stop
                      rename Fr s1.heap s1.heap.objs.size _ _ => F9
                      rename News s1.heap s1.heap.objs.size _ _ => N9
                      rename _ = Data.cell (some (Value.int _ _)) => d9
                      rename Obj => oc6
                      refine LCt.ListComp_T F9 (by rfl) (by decide) (by rfl) (by decide) (by rfl) ?_
                      k_steps
                      unfold Stop
                      rename Fr s1.heap s1.heap.objs.size _ _ => F10
                      rename News s1.heap s1.heap.objs.size _ _ => N10
                      rename IsRange _ _ _ _ _ _ _ _ => R10
                      refine LCt.CompSrcT.range rfl F10 N10 R10 (by decide) (by rw [rangeSize_one]; rfl) (by rw [sizeLine_eq]; decide) ?_
                      intro g
                      refine compRestT_int (fun k => decide (Wd Mx k i ≠ 0)) (pkv Mx B i) (fun k v h => by obtain ⟨t, e⟩ := h; exact ⟨t, by rw [e, Int.zero_add]⟩) trivial ?elt ?fin
                      case elt =>
                        intro k t3 I2 oI2 C2 oC2 D6 m6 h3 tk3 ys3 E2 Q2 K2 hk hC2 hx2 F11 N11 hQ2 hK2
                        have hk4 : k < 4 := hk
                        have u1 := Wd_le hM (k := k) (by omega) i
                        k_steps
                        rotate_left
                        · rename News s1.heap s1.heap.objs.size _ _ => N12
                          exact hK2 (decide_eq_false (by omega)) _ _ F11 N12
                        · rename Fr T.heap s1.heap.objs.size _ _ => F12
                          rename News T.heap s1.heap.objs.size _ _ => N12
                          exact hQ2 (decide_eq_true (by omega)) _ _ _ F12 N12
                      case fin =>
                        intro ys3 hys3 D6 h3 tk3 F11 N11 hD6
                        clear F10 N10 R10
                        dsimp only
                        k_steps
                        unfold Stop
                        refine kso_max F11 N11 ⟨_, (N11 _ (.head _)).1, rfl, _, rfl⟩ hys3 (List.length_pos_iff.mpr (prc_ne Mx B i)) rfl ?_
                        intro h6 mv t6' tk6' F13 N13 hmv1 hmv2
                        have emv : mv = prc Mx B i := mxL_eq hmv1 hmv2
                        subst emv
                        replace N13 : News s1.heap s1.heap.objs.size h6 _ := fun p hp => N13 p (.tail _ hp)
                        clear N11 F11 hmv1 hmv2
                        dsimp only
                        k_steps
                        unfold Stop
                        rename Fr s1.heap s1.heap.objs.size _ _ => F14
                        rename News s1.heap s1.heap.objs.size _ _ => N14
                        refine append_K F14 N14 (.head (List.forall_mem_cons.mpr ⟨Nat.ne_of_lt lP.1, List.forall_mem_cons.mpr ⟨Nat.ne_of_lt lP.2.1, List.forall_mem_cons.mpr ⟨Nat.ne_of_lt lP.2.2.1, List.forall_mem_cons.mpr ⟨Nat.ne_of_lt lP.2.2.2.1, List.forall_mem_cons.mpr ⟨Nat.ne_of_lt lP.2.2.2.2.1, hto'⟩⟩⟩⟩⟩)) ?_ (by rw [List.size_toArray, hlv2.length, List.length_map, List.length_range, sizeLine_eq]; omega)
                        intro h9 F15 N15
                        rw [List.push_toArray] at N15
                        dsimp only at N15 ⊢
                        k_steps
                        rename Fr s1.heap s1.heap.objs.size _ _ => F16
                        rename News s1.heap s1.heap.objs.size _ _ => N16
                        subst hT6
                        refine inv_endA F16 N16 [(Str.ofString "prices", .ref prl)] ((prl, listOf (lv2 ++ [Value.int (prc Mx B i) t6']).toArray (c2 + 1)) :: (s1.heap.objs.size + 1 + 1 + 1 + 1 + 1, ocb) :: (s1.heap.objs.size + 1 + 1 + 1 + 1, oc6) :: (s1.heap.objs.size + 1 + 1 + 1, ocr) :: (s1.heap.objs.size + 1 + 1, ocl) :: (s1.heap.objs.size + 1, ocp) :: T8) ⟨lv2 ++ [Value.int (prc Mx B i) t6'], c2 + 1, _, _, rfl, rfl, d9, ?_⟩ (by (repeat' (first | exact List.forall_mem_nil _ | (refine List.forall_mem_cons.mpr ⟨rfl, ?_⟩)))) hown rfl ?_ ?_
                        · rw [rng_snoc]; exact ints_snoc hlv2
                        · exact fun p hp => six_left hp
                        · exact fun p hp => six_right hp
                    case done =>
                      rintro ps m5 nx h tk2 ⟨lv2, cq, ocq, xq, rfl, rfl, hocq, hlv2⟩ F8 N8
                      replace F8 : Fr s1.heap s1.heap.objs.size h _ := F8
                      replace N8 : News s1.heap s1.heap.objs.size h _ := N8
                      clear F7 N7 R7
                      dsimp only
                      k_steps
                      clear auto
                      -- part 10
                      unfold Stop
                      refine For_turns F8 ?_
                      k_steps
                      unfold Stop
                      rename Fr s1.heap s1.heap.objs.size _ _ => F9
                      rename News s1.heap s1.heap.objs.size _ _ => N9
                      rename IsRange _ _ _ _ _ _ _ _ => R9
                      have hpr : RowAt [(prl, listOf lv2.toArray cq)] (.ref prl) ((List.range 4).map (prc Mx B)) := ⟨prl, lv2, cq, rfl, .head _, hlv2⟩
                      refine range_turns (n := 4) (fun _ ps nx => ps = [(Str.ofString "prices", .ref prl)] ∧ nx = ((prl, listOf lv2.toArray cq) :: (s1.heap.objs.size + 1 + 1 + 1 + 1 + 1, ocb) :: (s1.heap.objs.size + 1 + 1 + 1 + 1, ocq) :: (s1.heap.objs.size + 1 + 1 + 1, ocr) :: (s1.heap.objs.size + 1 + 1, ocl) :: (s1.heap.objs.size + 1, ocp) :: T8)) [(Str.ofString "prices", .ref prl)] _ rfl R9 (by decide) F9 N9 (fun p hp => hp) ?hp ⟨rfl, rfl⟩ ?turn ?done
                      case hp => (repeat' (first | exact List.forall_mem_nil _ | (refine List.forall_mem_cons.mpr ⟨rfl, ?_⟩)))
                      case done =>
                        rintro ps m6 nx h3 tk3 ⟨rfl, rfl⟩ F10 N10
                        replace F10 : Fr s1.heap s1.heap.objs.size h3 _ := F10
                        replace N10 : News s1.heap s1.heap.objs.size h3 _ := N10
                        clear F9 N9 R9
                        dsimp only
                        k_steps
                      case turn =>
                        rintro i t ps m6 nx h3 tk3 own hi hown ⟨rfl, rfl⟩ F10 N10
                        clear F9 N9 R9
                        simp only [List.cons_append] at N10
                        have hpn' : RowsAt (T8 ++ own) (.ref D) (matR Mx) := hpn.mono fun p hp => mem_left hp
                        generalize hT9 : T8 ++ own = T9 at N10 hpn'
                        clear hpn hrw
                        replace F10 : Fr s1.heap s1.heap.objs.size h3 _ := F10
                        replace N10 : News s1.heap s1.heap.objs.size h3 _ := N10
                        dsimp only
                        k_steps
                        unfold Stop
                        rename Fr s1.heap s1.heap.objs.size _ _ => F11
                        rename News s1.heap s1.heap.objs.size _ _ => N11
                        refine For_turns F11 ?_
                        k_steps
                        unfold Stop
                        rename Fr s1.heap s1.heap.objs.size _ _ => F12
                        rename News s1.heap s1.heap.objs.size _ _ => N12
                        rename IsRange _ _ _ _ _ _ _ _ => R12
                        refine range_turns (n := 4) (fun _ ps nx => ps = [(Str.ofString "prices", .ref prl), (Str.ofString "start", .int (i : Int) t)] ∧ nx = ((prl, listOf lv2.toArray cq) :: (s1.heap.objs.size + 1 + 1 + 1 + 1 + 1, ocb) :: (s1.heap.objs.size + 1 + 1 + 1 + 1, ocq) :: (s1.heap.objs.size + 1 + 1 + 1, ocr) :: (s1.heap.objs.size + 1 + 1, ocl) :: (s1.heap.objs.size + 1, ocp) :: T9)) [(Str.ofString "prices", .ref prl), (Str.ofString "start", .int (i : Int) t)] _ rfl R12 (by decide) F12 N12 (fun p hp => hp) ?hp2 ⟨rfl, rfl⟩ ?turn2 ?done2
                        case hp2 => (repeat' (first | exact List.forall_mem_nil _ | (refine List.forall_mem_cons.mpr ⟨rfl, ?_⟩)))
                        case done2 =>
                          rintro ps m7 nx h4 tk4 ⟨rfl, rfl⟩ F13 N13
                          replace F13 : Fr s1.heap s1.heap.objs.size h4 _ := F13
                          replace N13 : News s1.heap s1.heap.objs.size h4 _ := N13
                          clear F12 N12 R12
                          dsimp only
                          k_steps
                          rename Fr s1.heap s1.heap.objs.size _ _ => F16
                          rename News s1.heap s1.heap.objs.size _ _ => N16
                          subst hT9
                          refine inv_endA F16 N16 [(Str.ofString "prices", .ref prl)] ((prl, listOf lv2.toArray cq) :: (s1.heap.objs.size + 1 + 1 + 1 + 1 + 1, ocb) :: (s1.heap.objs.size + 1 + 1 + 1 + 1, ocq) :: (s1.heap.objs.size + 1 + 1 + 1, ocr) :: (s1.heap.objs.size + 1 + 1, ocl) :: (s1.heap.objs.size + 1, ocp) :: T8) ⟨rfl, rfl⟩ (by (repeat' (first | exact List.forall_mem_nil _ | (refine List.forall_mem_cons.mpr ⟨rfl, ?_⟩)))) hown rfl ?_ ?_
                          · exact fun p hp => six_left hp
                          · exact fun p hp => six_right hp
                        case turn2 =>
                          rintro j tj ps m7 nx h4 tk4 own2 hj hown2 ⟨rfl, rfl⟩ F13 N13
                          clear F12 N12 R12
                          simp only [List.cons_append] at N13
                          have hpn2 : RowsAt (T9 ++ own2) (.ref D) (matR Mx) := hpn'.mono fun p hp => mem_left hp
                          generalize hT10 : T9 ++ own2 = T10 at N13 hpn2
                          clear hpn'
                          replace F13 : Fr s1.heap s1.heap.objs.size h4 _ := F13
                          replace N13 : News s1.heap s1.heap.objs.size h4 _ := N13
                          have hle := hBp i j hi hj
                          have hm12 := hM i j
                          dsimp only
                          k_steps
                          unfold Stop
                          rename News s1.heap s1.heap.objs.size _ _ => n1
                          refine rows_item n1 hpn2 (by (intro p hp; (repeat' (first | exact hp | exact List.mem_append_left _ hp | (rcases List.mem_cons.mp hp with rfl | hp) | exact List.mem_cons_self | apply List.mem_cons_of_mem)))) (by omega) (matR_row hi) ?_
                          intro r1 hr1
                          k_steps
                          unfold Stop
                          refine row_item n1 hr1 (by (intro p hp; (repeat' (first | exact hp | exact List.mem_append_left _ hp | (rcases List.mem_cons.mp hp with rfl | hp) | exact List.mem_cons_self | apply List.mem_cons_of_mem)))) (by omega) (rng_at hj) ?_
                          intro u1
                          by_cases hz : Mx i j = 0
                          · rw [hz]
                            k_steps
                            rename Fr s1.heap s1.heap.objs.size _ _ => F16
                            rename News s1.heap s1.heap.objs.size _ _ => N16
                            subst hT10
                            refine inv_endA F16 N16 [(Str.ofString "prices", .ref prl), (Str.ofString "start", .int (i : Int) t)] ((prl, listOf lv2.toArray cq) :: (s1.heap.objs.size + 1 + 1 + 1 + 1 + 1, ocb) :: (s1.heap.objs.size + 1 + 1 + 1 + 1, ocq) :: (s1.heap.objs.size + 1 + 1 + 1, ocr) :: (s1.heap.objs.size + 1 + 1, ocl) :: (s1.heap.objs.size + 1, ocp) :: T9) ⟨rfl, rfl⟩ (by (repeat' (first | exact List.forall_mem_nil _ | (refine List.forall_mem_cons.mpr ⟨rfl, ?_⟩)))) hown2 rfl ?_ ?_
                            · exact fun p hp => six_left hp
                            · exact fun p hp => six_right hp
                          · have hle2 := hle hz
                            k_steps
                            rotate_left
                            · exfalso
                              omega
                            unfold Stop
                            rename News s1.heap s1.heap.objs.size _ _ => n2
                            refine rows_item n2 hpn2 (by (intro p hp; (repeat' (first | exact hp | exact List.mem_append_left _ hp | (rcases List.mem_cons.mp hp with rfl | hp) | exact List.mem_cons_self | apply List.mem_cons_of_mem)))) (by omega) (matR_row hi) ?_
                            intro r2 hr2
                            k_steps
                            unfold Stop
                            refine row_item n2 hr2 (by (intro p hp; (repeat' (first | exact hp | exact List.mem_append_left _ hp | (rcases List.mem_cons.mp hp with rfl | hp) | exact List.mem_cons_self | apply List.mem_cons_of_mem)))) (by omega) (rng_at hj) ?_
                            intro u2
                            k_steps
                            unfold Stop
                            rename News T.heap s1.heap.objs.size _ _ => n3
                            refine row_item n3 hpr (fun p hp => (List.mem_singleton.mp hp) ▸ List.mem_cons_self) (by omega) (rng_at hi) ?_
                            intro u3
                            k_steps
                            unfold Stop
                            rename News s1.heap s1.heap.objs.size _ _ => n4
                            refine row_item n4 hpr (fun p hp => (List.mem_singleton.mp hp) ▸ List.mem_cons_self) (by omega) (rng_at hj) ?_
                            intro u4
                            k_steps
                            rename Fr T.heap s1.heap.objs.size _ _ => F17
                            rename News T.heap s1.heap.objs.size _ _ => N17
                            replace F17 : Fr s1.heap s1.heap.objs.size _ _ := F17
                            replace N17 : News s1.heap s1.heap.objs.size _ _ := N17
                            subst hT10
                            refine inv_endA F17 N17 [(Str.ofString "prices", .ref prl), (Str.ofString "start", .int (i : Int) t)] ((prl, listOf lv2.toArray cq) :: (s1.heap.objs.size + 1 + 1 + 1 + 1 + 1, ocb) :: (s1.heap.objs.size + 1 + 1 + 1 + 1, ocq) :: (s1.heap.objs.size + 1 + 1 + 1, ocr) :: (s1.heap.objs.size + 1 + 1, ocl) :: (s1.heap.objs.size + 1, ocp) :: T9) ⟨rfl, rfl⟩ (by (repeat' (first | exact List.forall_mem_nil _ | (refine List.forall_mem_cons.mpr ⟨rfl, ?_⟩)))) hown2 rfl ?_ ?_
                            · exact fun p hp => six_left hp
                            · exact fun p hp => six_right hp
end
end Mine
theorem PySem.Challenge.cw_yf0015_01_holds : PySem.Challenge.rw_yf0015_01.Holds := by
  exact Mine.law_walk
