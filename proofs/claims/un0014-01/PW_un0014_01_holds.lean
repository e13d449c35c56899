import PyProof.Rows.All
import Wide.All
import OpenK.AllK
import Wide.FinOn
import KE.BitLaws
import KE.KBits
import KE.KRevIter
import Lean
import PySem.Challenge.RW_un0014_01
set_option maxRecDepth 100000
set_option Elab.async false
set_option linter.unusedSimpArgs false
section
open PySem PySem.W PyProof.Rows
namespace Mine
set_option maxRecDepth 100000 in
set_option maxHeartbeats 8000000 in
open_top hd for PySem.Challenge.rw_un0014_01
theorem room0 {d a c : Nat} (h : d + a < c) : d < c := Nat.lt_of_le_of_lt (Nat.le_add_right _ _) h
theorem room1 {d a b c : Nat} (h : d + a < c) (k : b ≤ a) : d + b < c := Nat.lt_of_le_of_lt (Nat.add_le_add_left k d) h
theorem room2 {d a b e c : Nat} (h : d + a < c) (k : b + e ≤ a) : d + b + e < c := Nat.lt_of_le_of_lt (Nat.add_assoc d b e ▸ Nat.add_le_add_left k d) h
end Mine
end
local macro_rules | `(tactic| walk_at $s:str) => `(tactic| k_extra $s)
local macro_rules | `(tactic| omega) => `(tactic| k_extra "small")
section
open PySem PySem.W PySem.Spec PySem.Calls PyProof.Rows
namespace Mine

def Rest (rest : List (Addr × Obj)) (h : Heap) : Prop := ∀ p ∈ rest, h.get? p.1 = some p.2

theorem newsR {h₀ h h' : Heap} {L : Addr} {own own' rest : List (Addr × Obj)} (N : News h₀ L h (own ++ rest)) (hr : Rest rest h') (N' : News h₀ L h' own') : News h₀ L h' (own' ++ rest) := fun p hp => by
  rcases List.mem_append.mp hp with hp | hp
  · exact N' p hp
  · exact ⟨hr p hp, (N p (List.mem_append_right _ hp)).2⟩

theorem newsD {h₀ h h' : Heap} {L : Addr} {rest : List (Addr × Obj)} (N : News h₀ L h rest) (hr : Rest rest h') : News h₀ L h' rest := fun p hp => ⟨hr p hp, (N p hp).2⟩

theorem groundR {A₀ A : Around} {base h₀ : Heap} {s : Shared} {outer : List Env} {L : Addr} {m : Str → Option Value} {env : Env} {own rest : List (Addr × Obj)} {R : Result → Shared → Prop}
    (B : Below A₀ base outer h₀) (F : Fr h₀ L s.heap m) (N : News h₀ L s.heap (own ++ rest)) (hdis : ∀ p ∈ rest, p.1 ∉ own.map (·.1))
    (hA : A.frames = some (env :: outer)) (hf : env.frame = some L) (hke : env.scope.kind = .function) :
    Fr h₀ L (hideAll s.heap (own.map (·.1))) m ∧ Below A base (env :: outer) (hideAll s.heap (own.map (·.1))) ∧ h₀.StaysIn (hideAll s.heap (own.map (·.1))) ∧
      ∀ v s', LeaveK h₀ L m (hideAll s.heap (own.map (·.1))) (fun r s' => Rest rest s'.heap → R r s') v s' → R (.ok (.ret v)) s' := by
  have No : News h₀ L s.heap own := fun p hp => N p (List.mem_append_left _ hp)
  have hk : ∀ p ∈ rest, (hideAll s.heap (own.map (·.1))).get? p.1 = some p.2 := fun p hp => hideAll_get _ (N p (List.mem_append_right _ hp)).1 (hdis p hp)
  obtain ⟨G1, G2, G3, G4⟩ := groundX (R := fun r s' => Rest rest s'.heap → R r s') B F No hA hf hke
  refine ⟨G1, G2, G3, fun v s' hl => ?_⟩
  have hl' := hl
  obtain ⟨L', m', news', F', N', k⟩ := hl
  exact G4 v s' hl' fun p hp => F'.keep _ _ (hk p hp)

section
variable {prog : Program} {w : World} {A₀ A : Around} {s : Shared} {base h₀ : Heap} {outer : List Env} {L : Addr} {m : Str → Option Value} {env : Env} {own rest : List (Addr × Obj)}
  {R : Result → Shared → Prop} {name qual : Str} {params : Arguments} {body : List Stmt} {scope : Scope} {cl : List (Str × Addr)} {dV kV doc pm cdv ct : Value} {an : Option Addr} {fo : Obj} {f : Addr} {args : Args} {binds : List (Str × Value)}
  {K : Frag} {p : Program} {loose : List Str} {mean : ExcName → Option Value} {mg mb : Str → Option Value}

theorem callR_plain (B : Below A₀ base outer h₀) (F : Fr h₀ L s.heap m) (N : News h₀ L s.heap (own ++ rest)) (hdis : ∀ p ∈ rest, p.1 ∉ own.map (·.1)) (hlim : h₀.NoLimit) (hA : A.frames = some (env :: outer)) (hf : env.frame = some L) (hke : env.scope.kind = .function)
    (ho : s.heap.get? f = some fo) (hd : fo.data = .func (fnX name qual params body scope cl dV kV doc pm an cdv ct)) (hcd : s.heap.CodeRec cdv qual) (hroom : A.depth < recursionLimit)
    (hbind : BindsTo s (fnX name qual params body scope cl dV kV doc pm an cdv ct) args binds) (hloc : ∀ y ∈ binds, scope.names.lookup y.1 = some .local)
    (h : ∀ g L' h₁, Fr h₀ L g m → Fr g L' h₁ (fun y => binds.reverse.lookup y) → News g L' h₁ own → Below A base (env :: outer) g → h₀.StaysIn g → (∀ p ∈ own ++ rest, p.1 < L') → (∀ p ∈ rest, g.get? p.1 = some p.2) →
      wpAny (model prog w) (A.deeper (envX qual scope L' f cdv cl)) (execs body (envX qual scope L' f cdv cl))
        (fun fl s' => LeaveK h₀ L m g (fun r s' => Rest rest s'.heap → R r s') (match fl with | .ret v => v | _ => .none) s')
        (fun e s' => wpAny (model prog w) (A.deeper (envX qual scope L' f cdv cl)) (leaving (envX qual scope L' f cdv cl) e) (fun _ s'' => R (.error e) s'') (fun e' s'' => R (.error e') s'') s')
        { s with heap := h₁, toks := s.toks + binds.length })
    (hcell : ∀ x ∈ scope.names, x.2 ≠ .cell) (hco : scope.isCoroutine = false := by rfl) (hgen : scope.isGenerator = false := by rfl) (hk : scope.kind = .function := by rfl) : codeAny (model prog w) A (.call (.ref f) args) R s := by
  obtain ⟨FG, BG, st, lv⟩ := groundR (R := R) B F N hdis hA hf hke
  refine codeAny_call_def (fd := fnX name qual params body scope cl dV kV doc pm an cdv ct) (body := body) (binds := binds) hroom ho hd (hlim.keeps F.keep) hcd rfl hbind hcell hloc (fun h₁ hns hk₁ => ?_) hco hgen hk
  exact wpAny_mono (h _ s.heap.objs.size h₁ FG ⟨hns, fun b o e => hk₁ b o (of_hideAll _ e), Nat.le_of_eq (hideAll_size _ _)⟩
    (fun p hp => ⟨hk₁ _ _ (N p (List.mem_append_left _ hp)).1, Nat.ne_of_lt (Heap.lt_size (N p (List.mem_append_left _ hp)).1), hideAll_none _ (List.mem_map_of_mem hp)⟩) BG st (fun p hp => Heap.lt_size (N p hp).1)
    (fun p hp => hideAll_get _ (N p (List.mem_append_right _ hp)).1 (hdis p hp))) (fun fl s' hl => lv _ _ hl) fun _ _ y => y

theorem code_defR {an od : Option Addr} {oc : Value} {osl : Array (Option Value)}
    (B : Below A₀ base outer h₀) (F : Fr h₀ L s.heap m) (X₀ : K.In h₀) (N : News h₀ L s.heap (own ++ rest)) (hdis : ∀ p ∈ rest, p.1 ∉ own.map (·.1)) (T : Top p loose mean mg mb h₀) (hA : A.frames = some (env :: outer)) (hf : env.frame = some L) (hke : env.scope.kind = .function)
    (ho : K.lookup f = some ⟨oc, od, .func (fnOf name qual params body scope dV kV doc pm an cdv ct), osl⟩) (hcd : codeIn K cdv qual = true) (hroom : A.depth < recursionLimit)
    (hbind : BindsTo s (fnOf name qual params body scope dV kV doc pm an cdv ct) args binds) (hloc : ∀ y ∈ binds, scope.names.lookup y.1 = some .local)
    (h : ∀ g L' h₁, Fr h₀ L g m → Fr g L' h₁ (fun y => binds.reverse.lookup y) → News g L' h₁ own → Below A base (env :: outer) g → K.In g → Top p loose mean mg mb g → (∀ p ∈ own ++ rest, p.1 < L') → (∀ p ∈ rest, g.get? p.1 = some p.2) →
      wpAny (model prog w) (A.deeper (envOf qual scope L' f cdv)) (execs body (envOf qual scope L' f cdv))
        (fun fl s' => LeaveK h₀ L m g (fun r s' => Rest rest s'.heap → R r s') (match fl with | .ret v => v | _ => .none) s')
        (fun e s' => wpAny (model prog w) (A.deeper (envOf qual scope L' f cdv)) (leaving (envOf qual scope L' f cdv) e) (fun _ s'' => R (.error e) s'') (fun e' s'' => R (.error e') s'') s')
        { s with heap := h₁, toks := s.toks + binds.length })
    (hco : scope.isCoroutine = false) (hgen : scope.isGenerator = false) (hk : scope.kind = .function)
    (hcell : ∀ x ∈ scope.names, x.2 ≠ .cell) : codeAny (model prog w) A (.call (.ref f) args) R s :=
  callR_plain (cl := []) B F N hdis T.nolimit hA hf hke ((X₀.keeps F.keep) _ _ ho) rfl (codeRec_of (X₀.keeps F.keep) hcd) hroom hbind hloc (fun g L' h₁ FG F' N' B' st lt gr => h g L' h₁ FG F' N' B' (X₀.keeps st) (T.keeps st) lt gr) hcell hco hgen hk
end

/-- a call that makes nothing that its caller may see, and changes nothing -/
def Con0 (w : World) (f : Addr) (vs : List Value) (d u : Nat) (Pre : Heap → Prop) (Ret : Value → Prop) : Prop :=
  ∀ (dp un : Nat) (gd : Option (List Code)) (cn : Str) (cs : Scope) (a : Addr) (ccd : Value) (cl : List (Str × Addr)) (outer : List Env) (A₀ : Around) (base h₀ : Heap) (L : Addr) (m : Str → Option Value) (s : Shared) (Q E : Value → Shared → Prop)
    (p : Program) (loose : List Str) (mean : ExcName → Option Value) (mg mb : Str → Option Value) (rest : List (Addr × Obj)),
    Below A₀ base outer h₀ → Fr h₀ L s.heap m → (hd.heap_39 w.params).In h₀ → News h₀ L s.heap rest → Top p loose mean mg mb h₀ → cs.kind = .function → dp + d < recursionLimit → un + u < cLine → Pre base →
    (∀ (v : Value) (h' : Heap) (tk' : Nat), Ret v → Fr h₀ L h' m → News h₀ L h' rest → Q v { s with heap := h', toks := tk' }) →
    wpAny (model PySem.Challenge.rw_un0014_01.row.prog w) (ktrTop dp un gd cn cs L a ccd cl outer) (call (.ref f) vs) Q E s
theorem retI {x y : Int} {t : Tok} (e : x = y) : ∃ t', Value.int x t = Value.int y t' := ⟨t, e ▸ rfl⟩
theorem retS {x y : Str} {t : Tok} (e : x = y) : ∃ t', Value.str x t = Value.str y t' := ⟨t, e ▸ rfl⟩
end Mine
end
section
open PySem PySem.W PySem.Spec PySem.Calls PyProof.Rows
namespace Mine
def v2 (n : Int) : Nat := if h : n = 0 then 0 else if n % 2 = 0 then v2 (n / 2) + 1 else 0
termination_by n.natAbs
decreasing_by
  rename_i h2
  obtain ⟨y, rfl⟩ := Int.dvd_of_emod_eq_zero h2
  rw [Int.mul_ediv_cancel_left _ (by decide), Int.natAbs_mul]
  have hy : 0 < y.natAbs := Nat.pos_of_ne_zero fun e => h (by rw [Int.natAbs_eq_zero.mp e]; rfl)
  show y.natAbs < 2 * y.natAbs
  clear h h2
  omega
theorem v2_even {n : Int} (h : n ≠ 0) (e : n % 2 = 0) : v2 n = v2 (n / 2) + 1 := by
  rw [v2, dif_neg h, if_pos e]
theorem v2_odd {n : Int} (h : n ≠ 0) (e : n % 2 ≠ 0) : v2 n = 0 := by
  rw [v2, dif_neg h, if_neg e]

theorem fmod2 (n : Int) : n.fmod 2 = n % 2 := Int.fmod_eq_emod_of_nonneg _ (by decide)
theorem fdiv2 (n : Int) : n.fdiv 2 = n / 2 := Int.fdiv_eq_ediv_of_nonneg _ (by decide)
theorem twos_turn {n₀ x c : Int} (h0 : x ≠ 0) (h1 : 0 ≤ c) (h2 : c + v2 x = v2 n₀) (h3 : x.fmod 2 = 0) : x.fdiv 2 ≠ 0 ∧ 0 ≤ c + 1 ∧ c + 1 + v2 (x.fdiv 2) = v2 n₀ := by
  rw [fmod2] at h3
  rw [fdiv2]
  have := v2_even h0 h3
  refine ⟨by omega, by omega, ?_⟩
  omega
theorem twos_less {x : Int} (h0 : x ≠ 0) (h3 : x.fmod 2 = 0) : (x.fdiv 2).natAbs < x.natAbs := by
  rw [fmod2] at h3; rw [fdiv2]; omega
theorem twos_end {n₀ x c : Int} (h2 : c + v2 x = v2 n₀) (h0 : x ≠ 0) (h3 : x.fmod 2 ≠ 0) : c = v2 n₀ := by
  rw [fmod2] at h3
  have := v2_odd h0 h3
  omega



set_option maxHeartbeats 4000000 in
theorem con_twos (w : World) (n : Int) (t : Tok) (hn : n ≠ 0) : Con0 w 108 [.int n t] 1 8 (fun _ => True) (fun v => ∃ t', v = .int (v2 n) t') := by
  k_with_none
  w_top off
  k_with "small" => first | with_reducible exact Mine.room2 (by assumption) (by decide) | with_reducible exact Mine.room1 (by assumption) (by decide) | with_reducible exact Mine.room0 (by assumption) | decide +kernel
  k_with "state" => first | exact twos_turn (by assumption) (by assumption) (by assumption) (by assumption) | exact ⟨hn, by decide, Int.zero_add _⟩
  k_with "measure" => exact twos_less (by assumption) (by assumption)
  k_with "exec While Compare cons nil" => k_while_given ["number!"] (fun n₀ script number count => number ≠ 0 ∧ 0 ≤ count ∧ count + v2 number = v2 n₀) (fun n₀ script number _ => number.natAbs) "number" "count"
  unfold Con0
  k_fill
  intro dp un gd cn cs a ccd cl outer A₀ base h₀ L m s Q E p loose mean mg mb rest B F X N T hk hd hu hpre ret
  refine wpAny_call ?_
  k_dflt ((refine' code_defR (own := []) ?k1 ?k2 ?k3 ?k4 ?kdis ?k5 ?kA ?kF ?kK ?k6 ?k7 ?k8 ?k9 ?kB ?_ ?c2 ?c3 ?c4 ?c5; (case kA => exact rfl); (case kF => exact rfl); (case kK => assumption); (case k1 => k_asm); (case k2 => k_asm); (case k3 => k_asm); (case k4 => k_asm); (case kdis => exact fun _ _ h => nomatch h); (case k5 => k_asm); (case k6 => k_is); (case k7 => k_is); (case k8 => ktr_room); (case k9 => exact BindsTo.of_eq rfl); (case c5 => decide); (case kB => exact locs rfl); (case c2 => exact rfl); (case c3 => exact rfl); (case c4 => exact rfl); k_whole; intro g' L' h' FG' F' N' B' X' T' LT' GR'; (try dsimp only); (try k_lift B'); (try k_fold)))
  k_steps
  exact ret _ _ _ (retI (twos_end (by assumption) (by assumption) (by assumption))) (by k_asm) (newsD N (by assumption))
end Mine
end
section
open PySem PySem.W PySem.Spec PySem.Calls PyProof.Rows
namespace Mine

def Fit (n : Int) : Prop := 0 ≤ n ∧ n.natAbs < 16 ^ 2000
theorem baseFit {n : Int} (h0 : 0 ≤ n) (h : n.natAbs < 16 ^ 2000) : (baseText "0x" 16 n).length ≤ sizeLine := by
  have h1 := toDigits_len_pow (b := 16) (by decide) (by decide : 1 ≤ 2000) h
  unfold baseText
  rw [Str.length_append, Str.length_append, sizeLine_eq]
  have h3 : (Str.ofString (if n < 0 then "-" else "")).length ≤ 1 := by
    split <;> (rw [PyProof.Rows.ofString_len]; decide)
  have h4 : (Str.ofString "0x").length = 2 := by rw [PyProof.Rows.ofString_len]; decide
  rw [h4, ofString_ofList_length]
  omega
theorem fitDiv {n : Int} (h0 : 0 ≤ n) : 0 ≤ n.fdiv (2 ^ Int.toNat 32) * 2 ^ Int.toNat 32 ∧ n.fdiv (2 ^ Int.toNat 32) * 2 ^ Int.toNat 32 ≤ n := by
  have e : (2 : Int) ^ Int.toNat 32 = 4294967296 := by decide
  rw [e, Int.fdiv_eq_ediv_of_nonneg _ (by decide)]
  omega
theorem hexFit {n : Int} (h : Fit n) : (baseText "0x" 16 (n.fdiv (2 ^ Int.toNat 32) * 2 ^ Int.toNat 32)).length ≤ sizeLine := by
  obtain ⟨a, b⟩ := fitDiv h.1
  have h2 := h.2
  generalize (16 : Nat) ^ 2000 = N at h2
  refine baseFit a (Nat.lt_of_le_of_lt ?_ h.2)
  generalize n.fdiv (2 ^ Int.toNat 32) * 2 ^ Int.toNat 32 = y at *
  have := h.1
  omega
theorem wordFit {i : Int} (h : ¬ 32 ≤ i) : (Str.ofString "0x" ++ Txt.item (Str.ofString "1248") (i.fmod 4)).length + (Txt.mul (Str.ofString "0") (i.fdiv 4)).length ≤ sizeLine := by
  have h1 : (Txt.mul (Str.ofString "0") (i.fdiv 4)).length ≤ 1 * 8 := len_mul_leN (by rw [PyProof.Rows.ofString_len]; decide) (by rw [Int.fdiv_eq_ediv_of_nonneg _ (by decide)]; omega)
  have h4 : (Str.ofString "0x").length = 2 := by rw [PyProof.Rows.ofString_len]; decide
  rw [Str.length_append, item_length, h4, sizeLine_eq]
  omega
def names : List Str := [Str.ofString "OPTIMIZED", Str.ofString "NEWLOCALS", Str.ofString "VARARGS", Str.ofString "VARKEYWORDS",
          Str.ofString "NESTED", Str.ofString "GENERATOR", Str.ofString "NOFREE", Str.ofString "COROUTINE",
          Str.ofString "ITERABLE_COROUTINE", Str.ofString "ASYNC_GENERATOR"]
def wordS (i n : Int) : Str := if i < 10 then names.getD i.toNat Str.empty else if i < 32 then Str.ofString "0x" ++ Txt.item (Str.ofString "1248") (i.fmod 4) ++ Txt.mul (Str.ofString "0") (i.fdiv 4)
  else baseText "0x" 16 (n.fdiv (2 ^ Int.toNat 32) * 2 ^ Int.toNat 32)
theorem wordS_1 {i n : Int} (h : i < 10) : names.getD i.toNat Str.empty = wordS i n := by rw [wordS, if_pos h]
theorem wordS_2 {i n : Int} (h : ¬ i < 10) (h' : i < 32) : Str.ofString "0x" ++ Txt.item (Str.ofString "1248") (i.fmod 4) ++ Txt.mul (Str.ofString "0") (i.fdiv 4) = wordS i n := by rw [wordS, if_neg h, if_pos h']
theorem wordS_3 {i n : Int} (h : ¬ i < 10) (h' : ¬ i < 32) : baseText "0x" 16 (n.fdiv (2 ^ Int.toNat 32) * 2 ^ Int.toNat 32) = wordS i n := by rw [wordS, if_neg h, if_neg h']
local macro_rules | `(tactic| size_fits) => `(tactic| exact hexFit (by assumption))

set_option maxHeartbeats 4000000 in
theorem con_word (w : World) (i n : Int) (t u : Tok) (hi : 0 ≤ i) (hb : Fit n) : Con0 w 115 [.int i t, .int n u] 1 8 (fun _ => True) (fun v => ∃ t', v = .str (wordS i n) t') := by
  k_with_none
  w_top off
  k_with "small" => first | with_reducible exact Mine.room2 (by assumption) (by decide) | with_reducible exact Mine.room1 (by assumption) (by decide) | with_reducible exact Mine.room0 (by assumption) | decide +kernel
  k_with "binaryOp Add str str" => ((refine add_str ?_ (wordFit (by omega))); intro _ _)
  unfold Con0
  k_fill
  intro dp un gd cn cs a ccd cl outer A₀ base h₀ L m s Q E p loose mean mg mb rest B F X N T hk hd hu hpre ret
  refine wpAny_call ?_
  k_dflt ((refine' code_defR (own := []) ?k1 ?k2 ?k3 ?k4 ?kdis ?k5 ?kA ?kF ?kK ?k6 ?k7 ?k8 ?k9 ?kB ?_ ?c2 ?c3 ?c4 ?c5; (case kA => exact rfl); (case kF => exact rfl); (case kK => assumption); (case k1 => k_asm); (case k2 => k_asm); (case k3 => k_asm); (case k4 => k_asm); (case kdis => exact fun _ _ h => nomatch h); (case k5 => k_asm); (case k6 => k_is); (case k7 => k_is); (case k8 => ktr_room); (case k9 => exact BindsTo.of_eq rfl); (case c5 => decide); (case kB => exact locs rfl); (case c2 => exact rfl); (case c3 => exact rfl); (case c4 => exact rfl); k_whole; intro g' L' h' FG' F' N' B' X' T' LT' GR'; (try dsimp only); (try k_lift B'); (try k_fold)))
  k_steps
  · exact ret _ _ _ (retS (wordS_1 (by omega))) (by k_asm) (newsD N (by assumption))
  · exact ret _ _ _ (retS (wordS_2 (by omega) (by omega))) (by k_asm) (newsD N (by assumption))
  · exact ret _ _ _ (retS (wordS_3 (by omega) (by omega))) (by k_asm) (newsD N (by assumption))
end Mine
end
section
open PySem PySem.W PySem.Spec PySem.Calls PyProof.Rows
namespace Mine
section
variable {prog : Program} {w : World} {A : Around} {E : Value → Shared → Prop} {s : Shared} {env : Env} {h₀ : Heap} {x : Str} {body orelse : List Stmt} {Q : Flow → Shared → Prop}

/-- a for with an else, from the frame: what the loop's own rules tell of a for without one -/
theorem for_else {px pos : Pos} {iter : Expr} {n : Nat} {P : Nat → Value → Prop} (hx : env.kindOf x = some .local)
    (hp : (env.scope.kind == .class || (env.scope.kind == .module && env.locals != env.globals)) = false)
    (J : Nat → (Str → Option Value) → List (Addr × Obj) → Prop) (adr : List Addr)
    (h : wpAny (model prog w) A (eval iter env) (fun xv s₁ => wpAny (model prog w) A (pyIter xv) (fun it s₂ => ∃ (I : Addr) (fp wr : List Addr) (St : Nat → Heap → Prop) (m₀ : Str → Option Value) (news : List (Addr × Obj)),
      it = .ref I ∧ Walks prog w A I fp wr n P St ∧ env.locals ∉ fp ∧ (∀ b ∈ wr, h₀.get? b = none) ∧ (∀ p ∈ news, p.1 ∉ fp) ∧ St 0 s₂.heap ∧ Fr h₀ env.locals s₂.heap m₀ ∧ News h₀ env.locals s₂.heap news ∧ news.map (·.1) = adr ∧ J 0 m₀ news ∧
      (∀ i v m₁ news₁ h tk own, i < n → P i v → news₁.map (·.1) = adr → OwnOff own adr → J i m₁ news₁ → Fr h₀ env.locals h (fun y => if y = x then some v else m₁ y) → News h₀ env.locals h (news₁ ++ own) →
        wpAny (model prog w) A (execs body env) (InvPostN h₀ env.locals (J (i + 1)) own adr { s₂ with heap := h, toks := tk } Q) E { s₂ with heap := h, toks := tk }) ∧
      (∀ m₁ news₁ h tk, J n m₁ news₁ → Fr h₀ env.locals h m₁ → News h₀ env.locals h news₁ → wpAny (model prog w) A (execs orelse env) Q E { s₂ with heap := h, toks := tk })) E s₁) E s)
    (hs : ∀ x, foldedSetIterable iter env x = pure x := by intro _; rfl)
    (hE : PassesOwn (model prog w) A env E := by passes_own) :
    wpAny (model prog w) A (exec (.For (.Name x px) iter body orelse pos) env) Q E s := by
  refine wpAny_For (wpAny_mono h (fun xv s₁ h₁ => wpAny_mono h₁ (fun it s h₂ => ?_) fun _ _ e => e) fun _ _ e => e) hs
  obtain ⟨I, fp, wr, St, m, news, rfl, W, hLf, hwr, hnf, hst, F, N, hadr, h0, turn, done⟩ := h₂
  have hLw : env.locals ∉ wr := fun h => hLf (W.sub _ h)
  have old : ∀ b o, h₀.get? b = some o → b ∉ wr := fun b o e hb => by rw [hwr b hb] at e; cases e
  refine codeAny_forLoop
    (fun k s' => ∃ h' tk m' news' i, s' = { s with heap := h', toks := tk } ∧ St i h' ∧ Fr h₀ env.locals h' m' ∧ News h₀ env.locals h' news' ∧ news'.map (·.1) = adr ∧ J i m' news' ∧ i ≤ n ∧ k = n + 1 - i) ?_ (n + 1)
    ⟨s.heap, s.toks, m, news, 0, rfl, hst, F, N, hadr, h0, Nat.zero_le _, rfl⟩
  rintro k s' ⟨h', tk, m', news', i, rfl, hst', F', N', ha', hJ, hi, rfl⟩
  have hoff : ∀ p ∈ news', p.1 ∉ fp := fun p hp => by
    have h1 : p.1 ∈ news.map (·.1) := by rw [hadr, ← ha']; exact List.mem_map.mpr ⟨p, hp, rfl⟩
    obtain ⟨q, hq1, hq2⟩ := List.mem_map.mp h1
    exact hq2 ▸ hnf q hq1
  have next : ∀ h₁ : Heap, (∀ b o, b ∉ wr → h'.get? b = some o → h₁.get? b = some o) → Fr h₀ env.locals h₁ m' ∧ News h₀ env.locals h₁ news' := fun h₁ hk₁ =>
    ⟨⟨F'.ns.at' fun o e => hk₁ _ o hLw e, fun b o e => hk₁ b o (old b o e) (F'.keep b o e), F'.above⟩, fun p hp => ⟨hk₁ _ _ (fun q => hoff p hp (W.sub _ q)) (N' p hp).1, (N' p hp).2⟩⟩
  by_cases hlt : i < n
  · refine W.item i _ _ _ hlt hst' fun v h₁ tk₁ hP hst₁ hk₁ => ?_
    obtain ⟨F₁, N₁⟩ := next h₁ hk₁
    refine wpAny_assign_Name (wpAny_storeName_local hx F₁.ns (fun h₂ hn₂ hs₂ => ?_) hp)
    have F₂ := F₁.set hn₂ hs₂
    have Nown : News h₀ env.locals h₂ (ownOf h₀ fp h₂) := news_ownOf hLf
    have sep : OwnOff (ownOf h₀ fp h₂) adr := by
      intro p hp b hb e
      rw [← ha'] at hb
      obtain ⟨q, hq, rfl⟩ := List.mem_map.mp hb
      exact hoff q hq (e ▸ ownOf_sub p hp)
    have fin : ∀ s₃, InvEndN h₀ env.locals (J (i + 1)) (ownOf h₀ fp h₂) adr { s with heap := h₂, toks := tk₁ + 1 } s₃ →
        ∃ m, m < n + 1 - i ∧ ∃ h' tk m' news' i, s₃ = { s with heap := h', toks := tk } ∧ St i h' ∧ Fr h₀ env.locals h' m' ∧ News h₀ env.locals h' news' ∧ news'.map (·.1) = adr ∧ J i m' news' ∧ i ≤ n ∧ m = n + 1 - i := by
      rintro s₃ ⟨h₃, tk₃, m₃, news₃, nx, rfl, F₃, N₃, hn, ho, ha, hj⟩
      refine ⟨n + 1 - (i + 1), by omega, h₃, tk₃, m₃, nx, i + 1, rfl, ?_, F₃, fun p hp => N₃ p (hn p hp), ha, hj, hlt, rfl⟩
      refine W.frame _ _ _ hst₁ fun b hb o e => ?_
      have e₂ : h₂.get? b = some o := (hs₂.2 b fun q => hLf (q ▸ hb)).trans e
      cases hn : h₀.get? b with
      | some o₀ =>
        have : o₀ = o := by have := F₂.keep b o₀ hn; rw [e₂] at this; exact (Option.some.inj this).symm
        exact this ▸ F₃.keep b o₀ hn
      | none => exact (N₃ _ (ho _ (mem_ownOf hb hn e₂))).1
    refine wpAny_passesOwn hE (wpAny_mono (turn i v m' news' h₂ (tk₁ + 1) (ownOf h₀ fp h₂) hlt hP ha' sep hJ F₂ ((N₁.set hs₂).append Nown)) (fun f s₃ h₃ => ?_) fun _ _ e => e)
    cases f with
    | ret v => exact h₃
    | brk => exact h₃
    | cont => exact fin _ h₃
    | next => exact fin _ h₃
  · have hin : i = n := by omega
    subst hin
    refine W.done _ _ _ hst' fun h₁ tk₁ hk₁ => ?_
    obtain ⟨F₁, N₁⟩ := next h₁ hk₁
    exact wpAny_passesOwn hE (done m' news' h₁ tk₁ hJ F₁ N₁)

/-- a for with an else over a range by ones -/
theorem for_rangeE {σ : Type} {px pos : Pos} {iter : Expr} {a₀ : Int} {n : Nat} {m₀ : Str → Option Value} (Led : σ → List (Addr × Obj)) (ps : σ → List (Str × Value)) (Facts : σ → Prop) (stored : List Str) (P : List Int → σ → Prop) (c₀ : σ) (adr : List Addr)
    (F : Fr h₀ env.locals s.heap m₀) (N : News h₀ env.locals s.heap (Led c₀)) (ha : (Led c₀).map (·.1) = adr) (hf : Facts c₀) (hk : ∀ p ∈ ps c₀, m₀ p.1 = some p.2) (hp : P [] c₀)
    (hx : env.kindOf x = some .local) (hpk : (env.scope.kind == .class || (env.scope.kind == .module && env.locals != env.globals)) = false) (hh : A.handled = none)
    (head : wpAny (model prog w) A (eval iter env) (fun xv s₁ => ∃ (r : Addr) (b₀ : Int) (t₀ u₀ v₀ : Tok) (h₁ : Heap) (tk₁ : Nat), s₁ = { s with heap := h₁, toks := tk₁ } ∧ xv = .ref r ∧ IsRange h₁ r a₀ b₀ 1 t₀ u₀ v₀ ∧ Builtin.Range.small a₀ b₀ 1 = true ∧ Builtin.Range.rangeSize a₀ b₀ 1 = (n : Int) ∧
      Fr h₀ env.locals h₁ m₀ ∧ News h₀ env.locals h₁ (Led c₀)) E s)
    (turn : ∀ (c : σ) (pre : List Int) (k : Int) t (u : Str → Option Value) h tk own, k = a₀ + (pre.length : Int) → pre.length < n → OwnOff own adr → Facts c → P pre c →
      Fr h₀ env.locals h (fun y => if y = x then some (.int k t) else kstB (fun z => if stored.contains z then u z else m₀ z) (ps c) y) → News h₀ env.locals h (Led c ++ own) →
      wpAny (model prog w) A (execs body env) (InvPostN h₀ env.locals (KstS Led ps Facts x stored m₀ P (pre ++ [k])) own adr { s with heap := h, toks := tk } Q) E { s with heap := h, toks := tk })
    (done : ∀ (c : σ) (u : Str → Option Value) h tk, Facts c → P (rangeKs a₀ n) c → Fr h₀ env.locals h (fun y => if y = x then u y else kstB (fun z => if stored.contains z then u z else m₀ z) (ps c) y) → News h₀ env.locals h (Led c) → wpAny (model prog w) A (execs orelse env) Q E { s with heap := h, toks := tk })
    (hs : ∀ x, foldedSetIterable iter env x = pure x) (hE : PassesOwn (model prog w) A env E) :
    wpAny (model prog w) A (exec (.For (.Name x px) iter body orelse pos) env) Q E s := by
  refine for_else (h₀ := h₀) (n := n) (P := fun i v => i < n ∧ ∃ t, v = .int (a₀ + i * 1) t) hx hpk (fun i m nx => KstS Led ps Facts x stored m₀ P ((rangeKs a₀ n).take i) m nx) adr ?_ hs hE
  refine wpAny_mono head (fun xv s₁ hh1 => ?_) fun _ _ e => e
  obtain ⟨r, b₀, t₀, u₀, v₀, h₁, tk₁, rfl, rfl, hr, hsmall, hn, F, N⟩ := hh1
  refine wpAny_pyIter_range hr hsmall ?_
  have W : Walks prog w A h₁.objs.size [h₁.objs.size] [h₁.objs.size] n (fun i v => i < n ∧ ∃ t, v = .int (a₀ + i * 1) t)
      (fun i h => IsRangeIter h h₁.objs.size (a₀ + (i : Nat) * 1) ((n : Int) - (i : Nat)) 1) := (Walks.range hh _ a₀ 1 n).bound
  refine ⟨_, _, _, _, m₀, Led c₀, rfl, W, ?_, ?_, ?_, (by show IsRangeIter _ _ _ _ _; rw [hn]; simpa using Heap.get?_push_size _ rfl), F.push _, fun p hp => ⟨Heap.get?_push_of_some _ (N p hp).1, (N p hp).2⟩, ha, ⟨c₀, rfl, hf, hk, fun _ _ _ _ => rfl, by simpa using hp⟩, ?_, ?_⟩
  · intro hm
    exact absurd F.ns.lt ((List.mem_singleton.mp hm) ▸ Nat.lt_irrefl _)
  · intro b hb
    rw [List.mem_singleton.mp hb]
    exact next_is_new F
  · intro p hp hI
    exact absurd (Heap.lt_size (N p hp).1) ((List.mem_singleton.mp hI) ▸ Nat.lt_irrefl _)
  · rintro i v m₁ nx h tk own hi ⟨_, t, rfl⟩ _ hoff ⟨c, rfl, hf', h1, h2, hp'⟩ F₁ N₁
    have e1 : a₀ + (i : Int) * 1 = a₀ + (i : Int) := by omega
    rw [e1] at F₁
    have hk' : (rangeKs a₀ n)[i]? = some (a₀ + (i : Int)) := by simp [rangeKs, hi]
    have hs : (rangeKs a₀ n).take (i + 1) = (rangeKs a₀ n).take i ++ [a₀ + (i : Int)] := by simp [List.take_add_one, hk']
    have hlen : ((rangeKs a₀ n).take i).length = i := by rw [List.length_take, rangeKs_length]; omega
    rw [hs]
    exact turn c _ _ t m₁ h tk own (by rw [hlen]) (by rw [hlen]; exact hi) hoff hf' hp' (kst_fr h1 h2 F₁) N₁
  · rintro m₁ nx h tk ⟨c, rfl, hf', h1, h2, hp'⟩ F₁ N₁
    have hl : (rangeKs a₀ n).take n = rangeKs a₀ n := List.take_of_length_le (Nat.le_of_eq (rangeKs_length _ _))
    rw [hl] at hp'
    exact done c m₁ h tk hf' hp' (kst_frOut h1 h2 F₁) N₁
end
end Mine
namespace Mine
theorem range_small {a b : Int} (h0 : -1000000 ≤ a) (h1 : a ≤ 1000000) (h2 : -1000000 ≤ b) (h3 : b ≤ 1000000) : Builtin.Range.small a b 1 = true := by
  have fits : ∀ x : Int, -4000000 ≤ x → x ≤ 4000000 → Builtin.Range.rangeFitsLong x = true := fun x l r => by
    unfold Builtin.Range.rangeFitsLong
    simp only [Bool.and_eq_true, decide_eq_true_eq]
    omega
  unfold Builtin.Range.small
  rw [rangeSize_nat, fits a (by omega) (by omega), fits b (by omega) (by omega), fits 1 (by decide) (by decide), fits _ (by omega) (by omega)]
  rw [if_pos (by decide), fits _ (by omega) (by omega)]
  simp
end Mine
end
section
open PySem PySem.W PySem.Spec PySem.Calls PyProof.Rows
namespace Mine
def flagsD : List (PyData × PyData) := [(.int 1, .str (Str.ofString "OPTIMIZED")), (.int 2, .str (Str.ofString "NEWLOCALS")), (.int 4, .str (Str.ofString "VARARGS")), (.int 8, .str (Str.ofString "VARKEYWORDS")), (.int 16, .str (Str.ofString "NESTED")),
  (.int 32, .str (Str.ofString "GENERATOR")), (.int 64, .str (Str.ofString "NOFREE")), (.int 128, .str (Str.ofString "COROUTINE")), (.int 256, .str (Str.ofString "ITERABLE_COROUTINE")), (.int 512, .str (Str.ofString "ASYNC_GENERATOR"))]
def word32 (m : Nat) : Str := wordS m 0
def flagWords (n : Int) (i : Nat) : List Str := (List.range i).filterMap fun (j : Nat) => if (n.fdiv (2 ^ j)).fmod 2 = 1 then some (word32 j) else none
theorem flagsTab {w : World} {prog : Program} {h : Heap} (X : (hd.heap_39 w.params).In h) : IntTab prog w h 15 flagsD := by
  refine TabAt.ofObj (kvs := [(1, .str (Str.ofString "OPTIMIZED") 190), (2, .str (Str.ofString "NEWLOCALS") 192), (4, .str (Str.ofString "VARARGS") 194), (8, .str (Str.ofString "VARKEYWORDS") 196), (16, .str (Str.ofString "NESTED") 198),
    (32, .str (Str.ofString "GENERATOR") 200), (64, .str (Str.ofString "NOFREE") 202), (128, .str (Str.ofString "COROUTINE") 204), (256, .str (Str.ofString "ITERABLE_COROUTINE") 206), (512, .str (Str.ofString "ASYNC_GENERATOR") 208)]) (by decide) (X 15 _ (by rfl)) ?_ ?_
  · refine ⟨_, _, ⟨rfl, rfl, rfl⟩, rfl, ?_, ?_, by decide⟩
    · intro e he
      have he' := Array.mem_toList_iff.mpr he
      simp only [List.mem_cons, List.not_mem_nil, or_false] at he'
      rcases he' with rfl | rfl | rfl | rfl | rfl | rfl | rfl | rfl | rfl | rfl <;> exact ⟨_, intKind_is _ _ _ _, rfl⟩
    · repeat' (first | exact .nil | refine .cons (intKind_is _ _ _ _) rfl ?_)
  · repeat' (first | exact .nil | refine .cons (PyProof.V.Flat.str _ _) ?_)

theorem hexFit2 {k : Int} {m : Nat} (h : k = 0 + (m : Int)) (hm : m < 32) : (baseText "0x" 16 (1 * 2 ^ k.toNat)).length ≤ sizeLine := by
  have e : k.toNat = m := by omega
  rw [e, Int.one_mul]
  have h1 : (2 : Int) ^ m = ((2 ^ m : Nat) : Int) := by simp
  have h2 : 2 ^ m < 2 ^ 32 := Nat.pow_lt_pow_right (by decide) hm
  refine baseText_under (by rw [PyProof.Rows.ofString_len]; decide) (by decide) ?_
  rw [h1, Int.natAbs_natCast]
  omega

theorem flags_len {vs : List Value} {n : Int} {m : Nat} (h : StrsAre vs (flagWords n m)) (hm : m ≤ 32) : vs.length ≤ 32 := by
  have h1 := PyProof.Rows.StrsAre.length h
  have h2 : (flagWords n m).length ≤ m := Nat.le_trans (List.length_filterMap_le _ _) (by simp)
  omega
theorem wordS_32 {m : Nat} (h : m < 32) (n : Int) : wordS m n = word32 m := by
  unfold word32 wordS
  split
  · rfl
  · rw [if_pos (by omega), if_pos (by omega)]
def isStrD (d : PyData) (x : Str) : Bool := match d with
  | .str y => y == x
  | _ => false
theorem isStrD_eq {d : PyData} {x : Str} (h : isStrD d x = true) : d = .str x := by
  unfold isStrD at h
  split at h
  · rw [eq_of_beq h]
  · cases h
theorem looked_all : ((List.range 32).all fun m => isStrD ((PySem.Spec.lookup (.int (1 * 2 ^ m)) flagsD).getD (.str (baseText "0x" 16 (1 * 2 ^ m)))) (word32 m)) = true := by decide +kernel
theorem looked (m : Nat) (h : m < 32) : (PySem.Spec.lookup (.int (1 * 2 ^ m)) flagsD).getD (.str (baseText "0x" 16 (1 * 2 ^ m))) = .str (word32 m) :=
  isStrD_eq (List.all_eq_true.mp looked_all m (List.mem_range.mpr h))
theorem get_flags {w : World} {A : Around} {E : Value → Shared → Prop} {s : Shared} {h₀ : Heap} {L : Addr} {mm : Str → Option Value} {k : Int} {m : Nat} {t u : Tok} {Q : Value → Shared → Prop} (F : Fr h₀ L s.heap mm) (X : (hd.heap_39 w.params).In h₀) (hk : k = 0 + (m : Int)) (hm : m < 32)
    (h : ∀ t, Q (.str (word32 m) t) { s with toks := s.toks + 1 }) : wpAny (model PySem.Challenge.rw_un0014_01.row.prog w) A (call (.builtin "dict.get") [.ref 15, .int (1 * 2 ^ k.toNat) t, .str (baseText "0x" 16 (1 * 2 ^ k.toNat)) u]) Q E s := by
  have e : k.toNat = m := by omega
  refine call_get2_intTab (flagsTab (X.keeps F.keep)) (PyProof.V.Flat.str _ _) fun v hv => ?_
  rw [e, looked m hm] at hv
  obtain ⟨t, rfl⟩ := hv.str_inv
  exact h t


end Mine
end
section
open PySem PySem.W PySem.Spec PySem.Calls PyProof.Rows
namespace Mine
theorem pow2_pos (m : Nat) : (0 : Int) < 2 ^ m := Int.pow_pos (by decide)
theorem fdiv_pow (n : Int) (m : Nat) : n.fdiv (2 ^ m) = n / 2 ^ m := Int.fdiv_eq_ediv_of_nonneg _ (Int.le_of_lt (pow2_pos m))
theorem fmod_two (n : Int) : n.fmod 2 = n % 2 := Int.fmod_eq_emod_of_nonneg _ (by decide)
theorem ediv_succ (n : Int) (m : Nat) : n / 2 ^ (m + 1) = n / 2 ^ m / 2 := by
  rw [Int.pow_succ, Int.ediv_ediv_of_nonneg (Int.le_of_lt (pow2_pos m))]
theorem fdiv_succ (n : Int) (m : Nat) : n.fdiv (2 ^ (m + 1)) = (n.fdiv (2 ^ m)) / 2 := by rw [fdiv_pow, fdiv_pow, ediv_succ]
theorem high_succ (n : Int) (m : Nat) : n.fdiv (2 ^ (m + 1)) * 2 ^ (m + 1) = (n.fdiv (2 ^ m) - n.fdiv (2 ^ m) % 2) * 2 ^ m := by
  rw [fdiv_succ, Int.pow_succ]
  generalize (2 : Int) ^ m = u
  generalize n.fdiv u = q
  have h : q - q % 2 = q / 2 * 2 := by omega
  rw [h, Int.mul_comm u 2, Int.mul_assoc]
theorem flagWords_succ (n : Int) (m : Nat) : flagWords n (m + 1) = flagWords n m ++ (if (n.fdiv (2 ^ m)).fmod 2 = 1 then [word32 m] else []) := by
  unfold flagWords
  rw [List.range_succ, List.filterMap_append]
  congr 1
  simp only [List.filterMap_cons, List.filterMap_nil]
  by_cases h : (n.fdiv (2 ^ m)).fmod 2 = 1
  · rw [if_pos h, if_pos h]
  · rw [if_neg h, if_neg h]
theorem and_high (n : Int) (m : Nat) : Builtin.bitAnd (n.fdiv (2 ^ m) * 2 ^ m) (2 ^ m) = if (n.fdiv (2 ^ m)).fmod 2 = 1 then 2 ^ m else 0 := by
  rw [kbt_bitF, kbt_q1]
theorem xor_high {n : Int} {m : Nat} (h : (n.fdiv (2 ^ m)).fmod 2 = 1) : Builtin.bitXor (n.fdiv (2 ^ m) * 2 ^ m) (2 ^ m) = n.fdiv (2 ^ (m + 1)) * 2 ^ (m + 1) := by
  rw [bitXor_and, and_high, if_pos h, high_succ]
  rw [fmod_two] at h
  rw [h, Int.sub_mul]
  omega
theorem one_pow {k : Int} {m : Nat} (h : k = 0 + (m : Int)) : (1 : Int) * 2 ^ k.toNat = 2 ^ m := by
  have e : k.toNat = m := by omega
  rw [e, Int.one_mul]
section
variable {n f k : Int} {pre : List Int}
theorem bit_set (hk : k = 0 + (pre.length : Int)) (hf : f = n.fdiv (2 ^ pre.length) * 2 ^ pre.length) (ha : Builtin.bitAnd f (1 * 2 ^ k.toNat) ≠ 0) : (n.fdiv (2 ^ pre.length)).fmod 2 = 1 := by
  rw [one_pow hk, hf, and_high] at ha
  by_cases h : (n.fdiv (2 ^ pre.length)).fmod 2 = 1
  · exact h
  · rw [if_neg h] at ha; exact absurd rfl ha
theorem bit_off (hk : k = 0 + (pre.length : Int)) (hf : f = n.fdiv (2 ^ pre.length) * 2 ^ pre.length) (ha : Builtin.bitAnd f (1 * 2 ^ k.toNat) = 0) : ¬ (n.fdiv (2 ^ pre.length)).fmod 2 = 1 := by
  rw [one_pow hk, hf, and_high] at ha
  intro h
  rw [if_pos h] at ha
  exact absurd ha (Int.ne_of_gt (pow2_pos _))
theorem flags_on (hk : k = 0 + (pre.length : Int)) (hf : f = n.fdiv (2 ^ pre.length) * 2 ^ pre.length) (ha : Builtin.bitAnd f (1 * 2 ^ k.toNat) ≠ 0) (hx : Builtin.bitXor f (1 * 2 ^ k.toNat) ≠ 0) :
    Builtin.bitXor f (1 * 2 ^ k.toNat) ≠ 0 ∧ Builtin.bitXor f (1 * 2 ^ k.toNat) = n.fdiv (2 ^ (pre ++ [k]).length) * 2 ^ (pre ++ [k]).length ∧ flagWords n pre.length ++ [word32 pre.length] = flagWords n (pre ++ [k]).length := by
  have hb := bit_set hk hf ha
  refine ⟨hx, ?_, ?_⟩
  · rw [one_pow hk, hf, List.length_append, List.length_singleton, xor_high hb]
  · rw [List.length_append, List.length_singleton, flagWords_succ, if_pos hb]
theorem flags_off (hk : k = 0 + (pre.length : Int)) (hf0 : f ≠ 0) (hf : f = n.fdiv (2 ^ pre.length) * 2 ^ pre.length) (ha : Builtin.bitAnd f (1 * 2 ^ k.toNat) = 0) :
    f ≠ 0 ∧ f = n.fdiv (2 ^ (pre ++ [k]).length) * 2 ^ (pre ++ [k]).length ∧ flagWords n pre.length = flagWords n (pre ++ [k]).length := by
  have hb := bit_off hk hf ha
  refine ⟨hf0, ?_, ?_⟩
  · rw [List.length_append, List.length_singleton, high_succ]
    rw [fmod_two] at hb
    have h2 : n.fdiv (2 ^ pre.length) % 2 = 0 := by omega
    rw [h2, Int.sub_zero]
    exact hf
  · rw [List.length_append, List.length_singleton, flagWords_succ, if_neg hb, List.append_nil]
end
/-- the words that pretty_flags tells -/
def allWords (n : Int) : List Str := flagWords n 32 ++ (if n.fdiv (2 ^ 32) = 0 then [] else [baseText "0x" 16 (n.fdiv (2 ^ 32) * 2 ^ 32)])
theorem fdiv_zero_up {n : Int} {m : Nat} (h : n.fdiv (2 ^ m) = 0) : ∀ j, n.fdiv (2 ^ (m + j)) = 0
  | 0 => h
  | j + 1 => by rw [← Nat.add_assoc, fdiv_succ, fdiv_zero_up h j]; rfl
theorem flagWords_stop {n : Int} {m : Nat} (h : n.fdiv (2 ^ m) = 0) : ∀ j, flagWords n (m + j) = flagWords n m
  | 0 => rfl
  | j + 1 => by
    rw [← Nat.add_assoc, flagWords_succ, fdiv_zero_up h j, flagWords_stop h j, if_neg (by decide), List.append_nil]
theorem flags_break {n f k : Int} {pre : List Int} (hk : k = 0 + (pre.length : Int)) (hm : pre.length < 32) (hf : f = n.fdiv (2 ^ pre.length) * 2 ^ pre.length) (ha : Builtin.bitAnd f (1 * 2 ^ k.toNat) ≠ 0) (hx : Builtin.bitXor f (1 * 2 ^ k.toNat) = 0) :
    flagWords n pre.length ++ [word32 pre.length] = allWords n := by
  have hb := bit_set hk hf ha
  rw [one_pow hk, hf, xor_high hb] at hx
  have h0 : n.fdiv (2 ^ (pre.length + 1)) = 0 := by
    rcases Int.mul_eq_zero.mp hx with h | h
    · exact h
    · exact absurd h (Int.ne_of_gt (pow2_pos _))
  obtain ⟨j, hj⟩ : ∃ j, 32 = pre.length + 1 + j := ⟨32 - (pre.length + 1), by omega⟩
  have e1 := flagWords_stop h0 j
  have e2 := fdiv_zero_up h0 j
  rw [← hj] at e1 e2
  unfold allWords
  rw [if_pos e2, List.append_nil, e1, flagWords_succ, if_pos hb]
theorem flags_done {n f : Int} (hf0 : f ≠ 0) (hf : f = n.fdiv (2 ^ (rangeKs 0 32).length) * 2 ^ (rangeKs 0 32).length) : flagWords n (rangeKs 0 32).length ++ [baseText "0x" 16 f] = allWords n := by
  rw [rangeKs_length] at hf ⊢
  unfold allWords
  rw [if_neg, hf]
  intro h
  rw [h, Int.zero_mul] at hf
  exact hf0 hf
end Mine
namespace Mine
theorem word_len (m : Nat) (h : m < 32) : (word32 m).length ≤ 2010 := by
  have all : ((List.range 32).all fun m => decide ((word32 m).length ≤ 20)) = true := by decide +kernel
  have := of_decide_eq_true (List.all_eq_true.mp all m (List.mem_range.mpr h))
  omega
theorem flagWords_len {n : Int} {m : Nat} (hm : m ≤ 32) : ∀ z ∈ flagWords n m, z.length ≤ 2010 := by
  intro z hz
  obtain ⟨j, hj, e⟩ := List.mem_filterMap.mp hz
  split at e
  · cases e
    exact word_len j (by have := List.mem_range.mp hj; omega)
  · cases e
theorem base_len {n : Int} (h : n.natAbs < 16 ^ 2000) : (baseText "0x" 16 n).length ≤ 2010 := by
  have h1 := toDigits_len_pow (b := 16) (by decide) (by decide : 1 ≤ 2000) h
  unfold baseText
  rw [Str.length_append, Str.length_append]
  have h3 : (Str.ofString (if n < 0 then "-" else "")).length ≤ 1 := by
    split <;> (rw [PyProof.Rows.ofString_len]; decide)
  have h4 : (Str.ofString "0x").length = 2 := by rw [PyProof.Rows.ofString_len]; decide
  rw [h4, ofString_ofList_length]
  omega
theorem high_fit {n : Int} (h : Fit n) : (n.fdiv (2 ^ 32) * 2 ^ 32).natAbs < 16 ^ 2000 := by
  have e := fitDiv h.1
  have h2 := h.2
  rw [show Int.toNat 32 = 32 from rfl] at e
  have h3 := h.1
  generalize (16 : Nat) ^ 2000 = N at h2 ⊢
  generalize n.fdiv (2 ^ 32) * 2 ^ 32 = y at *
  omega
theorem allWords_len {n : Int} (h : Fit n) : (∀ z ∈ allWords n, z.length ≤ 2010) ∧ (allWords n).length ≤ 40 := by
  unfold allWords
  refine ⟨fun z hz => ?_, ?_⟩
  · rcases List.mem_append.mp hz with hz | hz
    · exact flagWords_len (Nat.le_refl _) z hz
    · split at hz
      · cases hz
      · rw [List.mem_singleton.mp hz]
        exact base_len (high_fit h)
  · rw [List.length_append]
    have h2 : (flagWords n 32).length ≤ 32 := Nat.le_trans (List.length_filterMap_le _ _) (by simp)
    split
    · simp only [List.length_nil]; omega
    · simp only [List.length_singleton]; omega
theorem sum_le {ys : List Str} {k : Nat} (h : ∀ z ∈ ys, z.length ≤ k) : (ys.map (·.length)).sum ≤ ys.length * k := by
  induction ys with
  | nil => simp
  | cons y r ih =>
    simp only [List.map_cons, List.sum_cons, List.length_cons, Nat.add_mul, Nat.one_mul]
    have := h y (.head _)
    have := ih fun z hz => h z (.tail _ hz)
    omega
theorem join_push {prog : Program} {w : World} {A : Around} {E : Value → Shared → Prop} {s : Shared} {h₀ : Heap} {L l : Addr} {news : List (Addr × Obj)} {vs : List Value} {ss ys : List Str} {y : Str} {t t₀ : Tok} {nn : Nat} {Q : Value → Shared → Prop}
    (N : News h₀ L s.heap news) (hm : (l, W.listOf (vs.toArray.push (.str y t)) nn) ∈ news) (hs : StrsAre vs ss) (e : ss ++ [y] = ys) (hy : ∀ z ∈ ys, z.length ≤ 2010) (hn : ys.length ≤ 40)
    (h : ∀ t' k, Q (.str (Txt.join (Str.ofString ", ") ys) t') { s with toks := k }) : wpAny (model prog w) A (call (.builtin "str.join") [.str (Str.ofString ", ") t₀, .ref l]) Q E s := by
  refine join_listC (items := vs.toArray.push (.str y t)) ⟨_, (N _ hm).1, rfl, nn, rfl⟩ ?_ (by rw [PyProof.Rows.ofString_len]; decide) ?_ h
  · rw [← e]
    simpa using PyProof.Rows.StrsAre.append' hs (.cons y t .nil)
  · have := sum_le hy
    have h2 : ys.length * 2010 ≤ 40 * 2010 := Nat.mul_le_mul_right _ hn
    omega
/-- what pretty_flags tells of n -/
def flagsS (n : Int) : Str := Txt.join (Str.ofString ", ") (allWords n)
end Mine
namespace Mine
theorem exTok {g h : Heap} {L l : Addr} {vs : List Value} {y : Str} {t : Tok} {n : Nat} {own : List (Addr × Obj)} (N : News g L h ((l, W.listOf (vs ++ [Value.str y t]).toArray n) :: own)) : ∃ t', News g L h ((l, W.listOf (vs ++ [Value.str y t']).toArray n) :: own) := ⟨t, N⟩
end Mine
namespace Mine
theorem exTokF {g h : Heap} {L : Addr} {x : Str} {v : Int} {t : Tok} {m : Str → Option Value} (F : Fr g L h (fun y => if y = x then some (.int v t) else m y)) : ∃ t', Fr g L h (fun y => if y = x then some (.int v t') else m y) := ⟨t, F⟩
end Mine
end
section
open PySem PySem.W PySem.Spec PySem.Calls PyProof.Rows
namespace Mine

local macro_rules | `(tactic| size_fits) => `(tactic| exact hexFit2 (by assumption) (by assumption))
theorem flags_hex {n f : Int} (h : Fit n) (hf : f = n.fdiv (2 ^ (rangeKs 0 32).length) * 2 ^ (rangeKs 0 32).length) : (baseText "0x" 16 f).length ≤ sizeLine := by
  rw [rangeKs_length] at hf
  rw [hf, sizeLine_eq]
  exact Nat.le_trans (base_len (high_fit h)) (by decide)
local macro_rules | `(tactic| size_fits) => `(tactic| assumption)

set_option pp.maxSteps 600 in
set_option maxHeartbeats 1500000 in
theorem con_flags (w : World) (n : Int) (u : Tok) (h0 : 0 < n) (hb : Fit n) : Con0 w 22 [.int n u] 1 8 (fun _ => True) (fun v => ∃ t', v = .str (flagsS n) t') := by
  k_with_none
  w_top off
  k_with "small" => first | with_reducible exact Mine.room2 (by assumption) (by decide) | with_reducible exact Mine.room1 (by assumption) (by decide) | with_reducible exact Mine.room0 (by assumption) | decide +kernel | lia
  k_with "call builtin:dict.get" => (k_here; (with_reducible show wpAny _ _ (call (Value.builtin "dict.get") [Value.ref _, Value.int _ _, Value.str _ _]) _ _ _); k_dflt (refine' get_flags ?k1 ?k2 ?k3 ?k4 ?_; (case k1 => k_asm); (case k2 => k_asm); (case k3 => assumption); (case k4 => assumption); k_whole); intro _)
  k_with "state" => first | exact flags_on (by assumption) (by assumption) (by assumption) (by assumption) | exact flags_off (by assumption) (by assumption) (by assumption) (by assumption)
  unfold Con0
  k_fill
  intro dp un gd cn cs a ccd cl outer A₀ base h₀ L m s Q E p loose mean mg mb rest B F X N T hk hd hu hpre ret
  refine wpAny_call ?_
  k_dflt (refine' code_defR (own := []) (binds := [(Str.ofString "flags", Value.int n u)]) ?k1 ?k2 ?k3 ?k4 ?kdis ?k5 ?kA ?kF ?kK ?k6 ?k7 ?k8 ?k9 ?kB ?_ ?c2 ?c3 ?c4 ?c5; ((case kA => exact rfl); (case kF => exact rfl); (case kK => assumption); (case k1 => k_asm); (case k2 => k_asm); (case k3 => k_asm); (case k4 => k_asm); (case kdis => exact fun _ _ h => nomatch h); (case k5 => k_asm); (case k6 => k_is); (case k7 => k_is); (case k8 => ktr_room); (case k9 => exact BindsTo.of_eq rfl); (case c5 => decide); (case kB => exact locs rfl); (case c2 => exact rfl); (case c3 => exact rfl); (case c4 => exact rfl); k_whole; intro g' L' h' FG' F' N' B' X' T' LT' GR'; (try dsimp only [List.reverse_cons, List.reverse_nil, List.nil_append, List.cons_append, List.length_cons, List.length_nil] at *); (try k_lift B'); (try k_fold)))
  k_steps
  (rename Fr _ _ _ _ => F9); (rename News _ _ _ _ => N9)
  with_unfolding_all
   refine' for_rangeE (a₀ := 0) (n := 32) (fun c : Int × Nat × List Value × List Str × Nat => [(_, W.listOf c.2.2.1.toArray c.2.2.2.2)]) (fun c => [(Str.ofString "flags", .int c.1 c.2.1)]) (fun c => StrsAre c.2.2.1 c.2.2.2.1) [Str.ofString "flag"]
      (fun pre c => c.1 ≠ 0 ∧ c.1 = n.fdiv (2 ^ pre.length) * 2 ^ pre.length ∧ c.2.2.2.1 = flagWords n pre.length) (n, u, [], [], 0) _ F9 N9 ?mA ?mF ?mK ?mP ?mX ?mC ?mH ?mHead ?mTurn ?mDone ?mS ?mE
  case mA => rfl
  case mF => exact .nil
  case mK => kst_all
  case mP => exact ⟨by omega, by simp, rfl⟩
  case mX => rfl
  case mC => rfl
  case mH => rfl
  case mS => intro _; rfl
  case mE => passes_own
  case mHead =>
    k_steps
    all_goals assumption
  all_goals (clear F9 N9)
  case mTurn =>
    rintro ⟨f, tf, vs, ss, nn⟩ pre k t kU kH kTk own kEq kLt kOff kFacts kInv kFr kNews
    have kMark := kstMark
    ((try dsimp only [kstB] at kFr); (try dsimp only at kNews); (try dsimp only at kFacts); (try dsimp only at kInv); (try simp only [List.nil_append, List.cons_append, List.append_nil] at kNews); (try dsimp only at kOff); (try simp only [List.map_cons, List.map_nil] at kOff); (try k_fold))
    obtain ⟨hf0, hf1, rfl⟩ := kInv
    have hL := flags_len kFacts (by omega)
    k_steps
    · (rename News _ _ _ _ => nE'); simp only [List.push_toArray] at nE'; obtain ⟨tW, nW⟩ := exTok nE'; (rename Fr _ _ _ _ => fE'); obtain ⟨tF, nF⟩ := exTokF fE'
      refine kst_end (⟨Builtin.bitXor f (1 * 2 ^ k.toNat), tF, vs ++ [.str (word32 pre.length) tW], flagWords n pre.length ++ [word32 pre.length], nn + 1⟩ : Int × Nat × List Value × List Str × Nat) nF nW ?mi (fun p hp => .tail _ hp) rfl (PyProof.Rows.StrsAre.append' kFacts (.cons _ _ .nil)) ?mk ?ms ?mp
      case mi => intro p hp; rw [List.mem_singleton.mp hp]; exact .head _
      case mk => intro p hp; rw [List.mem_singleton.mp hp]; exact if_pos rfl
      case ms => kst_same
      case mp => exact flags_on kEq hf1 (by assumption) (by assumption)
    · have hA := allWords_len hb
      refine join_push (by assumption) (by k_mem) kFacts (flags_break kEq kLt hf1 (by assumption) (by assumption)) hA.1 hA.2 ?_
      intro t9 tk9
      k_steps
      exact ret _ _ _ (retS rfl) (by k_asm) (newsD N (by assumption))
  case mDone =>
    rintro ⟨f, tf, vs, ss, nn⟩ kU kH kTk kFacts kInv kFr kNews
    have kMark := kstMark
    ((try dsimp only [kstB] at kFr); (try dsimp only at kNews); (try dsimp only at kFacts); (try dsimp only at kInv); (try simp only [List.nil_append, List.cons_append, List.append_nil] at kNews); (try dsimp only at kOff); (try simp only [List.map_cons, List.map_nil] at kOff); (try k_fold))
    obtain ⟨hf0, hf1, rfl⟩ := kInv
    have hL := flags_len kFacts (by rw [rangeKs_length]; decide)
    have hZ := flags_hex hb hf1
    have hA := allWords_len hb
    k_steps
    refine join_push (by assumption) (by k_mem) kFacts (flags_done hf0 hf1) hA.1 hA.2 ?_
    intro t9 tk9
    k_steps
    exact ret _ _ _ (retS rfl) (by k_asm) (newsD N (by assumption))
end Mine
end
section
open PySem PySem.W PySem.Spec PySem.Calls PyProof.Rows
namespace Mine
def quotes (k : Nat) : Str := ⟨(List.replicate k 34).toArray⟩
def signS (c : Nat) : Str := ⟨#[c]⟩
def replyL (q c : Nat) : List Nat := [50, 53, 55, 32, 34] ++ (List.replicate q 34 ++ [c, 34, c])
def reply (q c : Nat) : Str := ⟨(replyL q c).toArray⟩
def inPath (q c : Nat) (d : Str) (i : Int) : Prop := (∃ k : Nat, 2 * k ≤ q ∧ i = 5 + 2 * (k : Int) ∧ d = quotes k) ∨ (∃ k : Nat, 2 * k = q ∧ i = 6 + (q : Int) ∧ d = quotes k ++ signS c)
def readS (q c : Nat) : Str := if q % 2 = 1 then quotes (q / 2) else quotes (q / 2) ++ signS c
theorem replyL_len (q c : Nat) : (replyL q c).length = q + 8 := by simp [replyL]
theorem reply_len (q c : Nat) : (reply q c).length = q + 8 := by
  show (replyL q c).toArray.size = _
  rw [List.size_toArray, replyL_len]
theorem reply_at {q c : Nat} {i : Int} (h0 : 0 ≤ i) (h1 : i < (q : Int) + 8) : Txt.item (reply q c) i = ⟨#[(replyL q c).getD i.toNat 0]⟩ := by
  rw [PySem.W.item_meets ⟨h0, by rw [reply_len]; (first | lia | omega)⟩]
  show (⟨#[(replyL q c).toArray.getD i.toNat 0]⟩ : Str) = _
  congr 2
  simp [Array.getD_eq_getD_getElem?, List.getD_eq_getElem?_getD]
theorem at_quote {q c j : Nat} (h : j < q) : (replyL q c).getD (5 + j) 0 = 34 := by
  simp only [replyL, List.getD_eq_getElem?_getD]
  rw [List.getElem?_append_right (by simp), List.getElem?_append_left (by simp; (first | lia | omega))]
  have e : 5 + j - [50, 53, 55, 32, 34].length = j := by simp
  rw [e, List.getElem?_replicate, if_pos h]; rfl
theorem at_tail {q c j : Nat} : (replyL q c).getD (5 + q + j) 0 = [c, 34, c].getD j 0 := by
  simp only [replyL, List.getD_eq_getElem?_getD]
  rw [List.getElem?_append_right (by simp; (first | lia | omega)), List.getElem?_append_right (by simp; (first | lia | omega))]
  congr 2
  simp
  (first | lia | omega)
theorem isQuote (c : Nat) : ((⟨#[c]⟩ : Str) == Str.ofString "\"") = decide (c = 34) := by
  have e : Str.ofString "\"" = ⟨#[34]⟩ := by decide +kernel
  rw [e]
  by_cases h : c = 34
  · subst h; decide +kernel
  · rw [decide_eq_false h]
    apply Bool.eq_false_iff.mpr
    intro q
    have := congrArg (fun s : Str => s.cps.toList) (eq_of_beq q)
    simp at this
    exact h this
theorem slice_257 (q c : Nat) : Txt.slice (reply q c) none (some 3) = Str.ofString "257" := by
  have h := slice_closes_to (x := reply q c) (j := 3) ⟨by decide, by show _ ≤ ((replyL q c).toArray.toList.length : Int); simp [replyL]; (first | lia | omega)⟩
  rw [eq_of_beq h]
  have e : Str.ofString "257" = ⟨#[50, 53, 55]⟩ := by decide +kernel
  rw [e]
  rfl
theorem slice_quote (q c : Nat) : Txt.slice (reply q c) (some 3) (some 5) = Str.ofString " \"" := by
  have h := slice_closes (x := reply q c) (i := 3) (j := 5) ⟨by decide, by decide, by show _ ≤ ((replyL q c).toArray.toList.length : Int); simp [replyL]; (first | lia | omega)⟩
  rw [eq_of_beq h]
  have e : Str.ofString " \"" = ⟨#[32, 34]⟩ := by decide +kernel
  rw [e]
  rfl
theorem not_257 {q c : Nat} {x : Str} (he : x = reply q c) (h : (Txt.slice x none (some 3) != Str.ofString "257") = true) : False := by
  rw [he, slice_257] at h; simp at h
theorem not_quote {q c : Nat} {x : Str} (he : x = reply q c) (h : (Txt.slice x (some 3) (some 5) != Str.ofString " \"") = true) : False := by
  rw [he, slice_quote] at h; simp at h
theorem quotes_succ (k : Nat) : quotes k ++ ⟨#[34]⟩ = quotes (k + 1) := by
  unfold quotes
  apply Str.ext'
  show (List.replicate k 34).toArray ++ #[34] = (List.replicate (k + 1) 34).toArray
  rw [List.replicate_succ']
  exact (List.append_toArray _ [34])
theorem path_start (q c : Nat) : inPath q c (Str.ofString "") 5 := .inl ⟨0, by (first | lia | omega), by simp, by decide +kernel⟩
section
variable {q c : Nat} {x d : Str} {i : Int}
/-- where the reading stands: a quote pair, the last single quote, the sign, the closing quote -/
theorem path_cases (hp : inPath q c d i) : (∃ k : Nat, 2 * k + 2 ≤ q ∧ i = 5 + 2 * (k : Int) ∧ d = quotes k) ∨ (∃ k : Nat, 2 * k + 1 = q ∧ i = 5 + 2 * (k : Int) ∧ d = quotes k) ∨ (∃ k : Nat, 2 * k = q ∧ i = 5 + 2 * (k : Int) ∧ d = quotes k) ∨ (∃ k : Nat, 2 * k = q ∧ i = 6 + 2 * (k : Int) ∧ d = quotes k ++ signS c) := by
  rcases hp with ⟨k, h1, h2, h3⟩ | ⟨k, h1, h2, h3⟩
  · by_cases a : 2 * k + 2 ≤ q
    · exact .inl ⟨k, a, h2, h3⟩
    · by_cases b : 2 * k + 1 = q
      · exact .inr (.inl ⟨k, b, h2, h3⟩)
      · exact .inr (.inr (.inl ⟨k, by (first | lia | omega), h2, h3⟩))
  · exact .inr (.inr (.inr ⟨k, h1, by (first | lia | omega), h3⟩))
theorem path_in (hp : inPath q c d i) : 0 ≤ i ∧ i + 1 < (q : Int) + 8 := by
  rcases hp with ⟨k, h1, h2, h3⟩ | ⟨k, h1, h2, h3⟩ <;> (first | lia | omega)
theorem item0 (he : x = reply q c) {k : Nat} (h : 2 * k + 1 ≤ q) : Txt.item x (5 + 2 * (k : Int)) = ⟨#[34]⟩ := by
  rw [he, reply_at (by (first | lia | omega)) (by (first | lia | omega))]
  have e : (5 + 2 * (k : Int)).toNat = 5 + 2 * k := by (first | lia | omega)
  rw [e, at_quote (by (first | lia | omega))]
theorem item1 (he : x = reply q c) {k : Nat} (h : 2 * k + 2 ≤ q) : Txt.item x (5 + 2 * (k : Int) + 1) = ⟨#[34]⟩ := by
  rw [he, reply_at (by (first | lia | omega)) (by (first | lia | omega))]
  have e : (5 + 2 * (k : Int) + 1).toNat = 5 + (2 * k + 1) := by (first | lia | omega)
  rw [e, at_quote (by (first | lia | omega))]
theorem itemT (he : x = reply q c) {j : Nat} {z : Int} (hj : j < 3) (hz : z = 5 + (q : Int) + j) : Txt.item x z = ⟨#[[c, 34, c].getD j 0]⟩ := by
  rw [he, reply_at (by (first | lia | omega)) (by (first | lia | omega))]
  have e : z.toNat = 5 + q + j := by (first | lia | omega)
  rw [e, at_tail]
/-- two quotes: one is told -/
theorem path_pair (he : x = reply q c) (hc : c ≠ 34) (hp : inPath q c d i) (h0 : (Txt.item x i == Str.ofString "\"") = true) (h1 : (Txt.item x (i + 1) != Str.ofString "\"") = false) : inPath q c (d ++ Txt.item x i) (i + 1 + 1) := by
  rcases path_cases hp with ⟨k, a, rfl, rfl⟩ | ⟨k, a, rfl, rfl⟩ | ⟨k, a, rfl, rfl⟩ | ⟨k, a, rfl, rfl⟩
  · rw [item0 he (by (first | lia | omega)), quotes_succ]
    exact .inl ⟨k + 1, by (first | lia | omega), by (first | lia | omega), rfl⟩
  · rw [itemT (j := 0) he (by decide) (by (first | lia | omega)), bne, isQuote] at h1
    simp at h1; exact absurd h1 hc
  · rw [itemT (j := 0) he (by decide) (by (first | lia | omega)), isQuote] at h0
    simp at h0; exact absurd h0 hc
  · rw [itemT (j := 2) he (by decide) (by (first | lia | omega)), bne, isQuote] at h1
    simp at h1; exact absurd h1 hc
/-- another sign: it is told -/
theorem path_sign (he : x = reply q c) (hc : c ≠ 34) (hp : inPath q c d i) (h0 : (Txt.item x i == Str.ofString "\"") = false) : inPath q c (d ++ Txt.item x i) (i + 1) := by
  rcases path_cases hp with ⟨k, a, rfl, rfl⟩ | ⟨k, a, rfl, rfl⟩ | ⟨k, a, rfl, rfl⟩ | ⟨k, a, rfl, rfl⟩
  · rw [item0 he (by (first | lia | omega)), isQuote] at h0; simp at h0
  · rw [item0 he (by (first | lia | omega)), isQuote] at h0; simp at h0
  · rw [itemT (j := 0) he (by decide) (by (first | lia | omega))]
    exact .inr ⟨k, a, by (first | lia | omega), rfl⟩
  · rw [itemT (j := 1) he (by decide) (by (first | lia | omega)), isQuote] at h0; simp at h0
/-- a quote alone: the end -/
theorem path_end (he : x = reply q c) (_hc : c ≠ 34) (hp : inPath q c d i) (h0 : (Txt.item x i == Str.ofString "\"") = true) (h1 : (Txt.item x (i + 1) != Str.ofString "\"") = true) : d = readS q c := by
  rcases path_cases hp with ⟨k, a, rfl, rfl⟩ | ⟨k, a, rfl, rfl⟩ | ⟨k, a, rfl, rfl⟩ | ⟨k, a, rfl, rfl⟩
  · rw [item1 he a, bne, isQuote] at h1; simp at h1
  · unfold readS; rw [if_pos (by (first | lia | omega))]; congr 1; (first | lia | omega)
  · rw [itemT (j := 0) he (by decide) (by (first | lia | omega)), isQuote] at h0
    simp at h0; exact absurd h0 _hc
  · unfold readS; rw [if_neg (by (first | lia | omega))]; congr 2; (first | lia | omega)
end
end Mine
namespace Mine
/-- what holds between the readings -/
def Path (q c : Nat) (d : Str) (i : Int) : Prop := 0 ≤ i ∧ i + 1 < (q : Int) + 8 ∧ d.length ≤ q + 1 ∧ inPath q c d i
theorem quotes_len (k : Nat) : (quotes k).length = k := by
  show (List.replicate k 34).toArray.size = k
  simp
theorem Path.of {q c : Nat} {d : Str} {i : Int} (h : inPath q c d i) : Path q c d i := by
  obtain ⟨a, b⟩ := path_in h
  refine ⟨a, b, ?_, h⟩
  rcases h with ⟨k, h1, h2, rfl⟩ | ⟨k, h1, h2, rfl⟩
  · rw [quotes_len]; (first | lia | omega)
  · rw [Str.length_append, quotes_len]
    show k + 1 ≤ _
    (first | lia | omega)
end Mine
end
section
open PySem PySem.W PySem.Spec PySem.Calls PyProof.Rows
namespace Mine

local macro_rules | `(tactic| size_fits) => `(tactic| exact item_fit (by assumption) (by assumption))

set_option pp.maxSteps 600 in
set_option maxHeartbeats 1000000 in
theorem con_parse (w : World) (q c : Nat) (u : Tok) (hq : q ≤ 100) (hc : c ≠ 34) (x : Str) (he : x = reply q c) : Con0 w 96 [.str x u] 1 8 (fun _ => True) (fun v => ∃ t', v = .str (readS q c) t') := by
  k_with_none
  w_top off
  k_with "small" => first | with_reducible exact Mine.room2 (by assumption) (by decide) | with_reducible exact Mine.room1 (by assumption) (by decide) | with_reducible exact Mine.room0 (by assumption) | decide +kernel
  have hx : x.length = q + 8 := by rw [he, reply_len]
  k_with "state" => first | exact Path.of (path_start q c) | exact Path.of (path_pair he hc (by assumption) (by assumption) (by assumption)) | exact Path.of (path_sign he hc (by assumption) (by assumption))
  k_with "measure" => omega
  k_with "exec While Compare cons nil" => k_while_given [] (fun script d i => 0 ≤ i ∧ i + 1 < (q : Int) + 8 ∧ d.length ≤ q + 1 ∧ inPath q c d i) (fun script d i => (q + 8 - i).toNat) "dirname" "i"
  unfold Con0
  k_fill
  intro dp un gd cn cs a ccd cl outer A₀ base h₀ L m s Q E p loose mean mg mb rest B F X N T hk hd hu hpre ret
  refine wpAny_call ?_
  k_dflt (refine' code_defR (own := []) (binds := [(Str.ofString "resp", Value.str x u)]) ?k1 ?k2 ?k3 ?k4 ?kdis ?k5 ?kA ?kF ?kK ?k6 ?k7 ?k8 ?k9 ?kB ?_ ?c2 ?c3 ?c4 ?c5; ((case kA => exact rfl); (case kF => exact rfl); (case kK => assumption); (case k1 => k_asm); (case k2 => k_asm); (case k3 => k_asm); (case k4 => k_asm); (case kdis => exact fun _ _ h => nomatch h); (case k5 => k_asm); (case k6 => k_is); (case k7 => k_is); (case k8 => ktr_room); (case k9 => exact BindsTo.of_eq rfl); (case c5 => decide); (case kB => exact locs rfl); (case c2 => exact rfl); (case c3 => exact rfl); (case c4 => exact rfl); k_whole; intro g' L' h' FG' F' N' B' X' T' LT' GR'; (try dsimp only [List.reverse_cons, List.reverse_nil, List.nil_append, List.cons_append, List.length_cons, List.length_nil] at *); (try k_lift B'); (try k_fold)))
  k_steps
  · exact (not_257 he (by assumption)).elim
  · exact (not_quote he (by assumption)).elim
  · exact ret _ _ _ (retS (path_end he hc (by assumption) (by assumption) (by assumption))) (by k_asm) (newsD N (by assumption))
end Mine
end
section
open PySem PySem.W PySem.Spec PySem.Calls PyProof.Rows
namespace Mine
theorem Con0.use {w : World} {f : Addr} {vs : List Value} {d u : Nat} {Pre : Heap → Prop} {Ret : Value → Prop} (C : Con0 w f vs d u Pre Ret)
    {dp un : Nat} {gd : Option (List Code)} {cn : Str} {cs : Scope} {a : Addr} {ccd : Value} {cl : List (Str × Addr)} {outer : List Env} {A₀ : Around} {base h₀ : Heap} {L : Addr} {m : Str → Option Value} {s : Shared} {Q E : Value → Shared → Prop}
    {p : Program} {loose : List Str} {mean : ExcName → Option Value} {mg mb : Str → Option Value} {rest : List (Addr × Obj)}
    (B : Below A₀ base outer h₀) (F : Fr h₀ L s.heap m) (X : (hd.heap_39 w.params).In h₀) (N : News h₀ L s.heap rest) (T : Top p loose mean mg mb h₀) (hk : cs.kind = .function) (hd : dp + d < recursionLimit) (hu : un + u < cLine) (hp : Pre base)
    (ret : ∀ (v : Value) (h' : Heap) (tk' : Nat), Ret v → Fr h₀ L h' m → News h₀ L h' rest → Q v { s with heap := h', toks := tk' }) :
    wpAny (model PySem.Challenge.rw_un0014_01.row.prog w) (ktrTop dp un gd cn cs L a ccd cl outer) (call (.ref f) vs) Q E s := C _ _ _ _ _ _ _ _ _ _ _ _ _ _ _ _ _ _ _ _ _ _ _ B F X N T hk hd hu hp ret

def midWords (n a : Int) (m : Nat) : List Str := (List.range m).filterMap fun (j : Nat) => if (n.fdiv (2 ^ (a + j).toNat)).fmod 2 = 1 then some (wordS (a + j) n) else none
def endWords (i n : Int) : List Str := if i < 32 ∧ n ≥ 2 ^ 32 then [wordS 32 n] else []
def lawWords (i n : Int) : List Str := wordS i n :: midWords n (i + 1) (32 - (i + 1)).toNat ++ endWords i n
theorem midWords_succ (n a : Int) (m : Nat) : midWords n a (m + 1) = midWords n a m ++ (if (n.fdiv (2 ^ (a + m).toNat)).fmod 2 = 1 then [wordS (a + m) n] else []) := by
  unfold midWords
  rw [List.range_succ, List.filterMap_append]
  congr 1
  simp only [List.filterMap_cons, List.filterMap_nil]
  by_cases h : (n.fdiv (2 ^ (a + m).toNat)).fmod 2 = 1
  · rw [if_pos h, if_pos h]
  · rw [if_neg h, if_neg h]
section
variable {n a k : Int} {pre : List Int} {x : Str}
theorem words_on (hk : k = a + (pre.length : Int)) (ha : (n.fdiv (2 ^ k.toNat)).fmod 2 = 1) : (x :: midWords n a pre.length) ++ [wordS k n] = x :: midWords n a (pre ++ [k]).length := by
  rw [List.length_append, List.length_singleton, midWords_succ, ← hk, if_pos ha]; rfl
theorem words_off (hk : k = a + (pre.length : Int)) (ha : ¬ (n.fdiv (2 ^ k.toNat)).fmod 2 = 1) : (x :: midWords n a pre.length) = x :: midWords n a (pre ++ [k]).length := by
  rw [List.length_append, List.length_singleton, midWords_succ, ← hk, if_neg ha, List.append_nil]
end
theorem wordS_len {i n : Int} (h0 : 0 ≤ i) (h : Fit n) : (wordS i n).length ≤ 2010 := by
  by_cases hi : i < 32
  · obtain ⟨m, rfl⟩ : ∃ m : Nat, i = m := ⟨i.toNat, by omega⟩
    rw [wordS_32 (by omega)]
    exact word_len m (by omega)
  · unfold wordS
    rw [if_neg (by omega), if_neg hi]
    exact base_len (high_fit h)
theorem midWords_len {n a : Int} {m : Nat} (h0 : 0 ≤ a) (h : Fit n) : ∀ z ∈ midWords n a m, z.length ≤ 2010 := by
  intro z hz
  obtain ⟨j, hj, e⟩ := List.mem_filterMap.mp hz
  split at e
  · cases e
    exact wordS_len (by omega) h
  · cases e
theorem midWords_count (n a : Int) (m : Nat) : (midWords n a m).length ≤ m := Nat.le_trans (List.length_filterMap_le _ _) (by simp)
theorem lawWords_len {i n : Int} (h0 : 0 ≤ i) (h : Fit n) : (∀ z ∈ lawWords i n, z.length ≤ 2010) ∧ (lawWords i n).length ≤ 40 := by
  unfold lawWords endWords
  refine ⟨fun z hz => ?_, ?_⟩
  · rcases List.mem_append.mp hz with hz | hz
    · rcases List.mem_cons.mp hz with rfl | hz
      · exact wordS_len h0 h
      · exact midWords_len (by omega) h z hz
    · split at hz
      · rw [List.mem_singleton.mp hz]
        exact wordS_len (by decide) h
      · cases hz
  · have := midWords_count n (i + 1) (32 - (i + 1)).toNat
    rw [List.length_append, List.length_cons]
    split
    · simp only [List.length_singleton]; omega
    · simp only [List.length_nil]; omega
/-- what _law_words tells -/
def lawS (i n : Int) : Str := Txt.join (Str.ofString ", ") (lawWords i n)
theorem words_end1 {i n : Int} (h1 : i < 32) (h2 : n ≥ 2 ^ 32) : (wordS i n :: midWords n (i + 1) (rangeKs (i + 1) (32 - (i + 1)).toNat).length) ++ [wordS 32 n] = lawWords i n := by
  unfold lawWords endWords
  rw [rangeKs_length, if_pos ⟨h1, h2⟩]
theorem words_end0 {i n : Int} (h : ¬ (i < 32 ∧ n ≥ 2 ^ 32)) : (wordS i n :: midWords n (i + 1) (rangeKs (i + 1) (32 - (i + 1)).toNat).length) = lawWords i n := by
  unfold lawWords endWords
  rw [rangeKs_length, if_neg h, List.append_nil]
theorem join_whole {prog : Program} {w : World} {A : Around} {E : Value → Shared → Prop} {s : Shared} {h₀ : Heap} {L l : Addr} {news : List (Addr × Obj)} {vs : List Value} {ss ys : List Str} {t₀ : Tok} {nn : Nat} {Q : Value → Shared → Prop}
    (N : News h₀ L s.heap news) (hm : (l, W.listOf vs.toArray nn) ∈ news) (hs : StrsAre vs ss) (e : ss = ys) (hy : ∀ z ∈ ys, z.length ≤ 2010) (hn : ys.length ≤ 40)
    (h : ∀ t' k, Q (.str (Txt.join (Str.ofString ", ") ys) t') { s with toks := k }) : wpAny (model prog w) A (call (.builtin "str.join") [.str (Str.ofString ", ") t₀, .ref l]) Q E s := by
  subst e
  refine join_listC (items := vs.toArray) ⟨_, (N _ hm).1, rfl, nn, rfl⟩ hs (by rw [PyProof.Rows.ofString_len]; decide) ?_ h
  have := sum_le hy
  have h2 : ss.length * 2010 ≤ 40 * 2010 := Nat.mul_le_mul_right _ hn
  omega
theorem words_count {vs : List Value} {x : Str} {n a : Int} {m : Nat} (h : StrsAre vs (x :: midWords n a m)) (hm : m ≤ 32) : vs.length ≤ 33 := by
  have h1 := PyProof.Rows.StrsAre.length h
  have h2 := midWords_count n a m
  rw [List.length_cons] at h1
  omega
end Mine
end
section
open PySem PySem.W PySem.Spec PySem.Calls PyProof.Rows
namespace Mine

set_option pp.maxSteps 600 in
set_option maxHeartbeats 1500000 in
theorem con_words (w : World) (i n : Int) (t u : Tok) (h0 : 0 ≤ i) (hi : i ≤ 100000) (hb : Fit n) : Con0 w 122 [.int i t, .int n u] 2 16 (fun _ => True) (fun v => ∃ t', v = .str (lawS i n) t') := by
  k_with_none
  w_top off
  k_with "small" => first | with_reducible exact Mine.room2 (by assumption) (by decide) | with_reducible exact Mine.room1 (by assumption) (by decide) | with_reducible exact Mine.room0 (by assumption) | decide +kernel | lia
  k_with "call ref" => (k_here; (with_reducible show wpAny _ _ (call (Value.ref 115) [Value.int _ _, Value.int _ _]) _ _ _); k_dflt (refine' Con0.use (con_word _ _ _ _ _ ?p1 ?p2) ?k1 ?k2 ?k3 ?k4 ?k5 ?kK ?kd ?ku ?kpre ?_; (case p1 => omega); (case p2 => assumption); ((case k1 => k_asm); (case k2 => k_asm); (case k3 => k_asm); (case k4 => k_asm); (case k5 => k_asm); (case kK => first | exact rfl | assumption); (case kd => ktr_room); (case ku => ktr_units); (case kpre => trivial)); intro v' h' tk' hv' F' N'; (obtain ⟨t', hv'⟩ := hv'); subst hv'))
  k_with "exec For Name Call cons nil" => k_extra "my for"
  k_with "state" => exact words_off kEq (by assumption)
  k_with "my for" => (k_dflt (
    (rename Fr _ _ _ _ => F9); (rename News _ _ _ _ => N9)
    refine' for_rangeE (a₀ := i + 1) (n := (32 - (i + 1)).toNat) (fun c : List Value × List Str × Nat => [(_, W.listOf c.1.toArray c.2.2)]) (fun _ => []) (fun c => StrsAre c.1 c.2.1) []
      (fun pre c => c.2.1 = wordS i n :: midWords n (i + 1) pre.length) ([_], [wordS i n], 0) _ F9 N9 ?mA ?mF ?mK ?mP ?mX ?mC ?mH ?mHead ?mTurn ?mDone ?mS ?mE
    case mA => rfl
    case mF => exact .cons _ _ .nil
    case mK => kst_all
    case mP => exact rfl
    case mX => rfl
    case mC => rfl
    case mH => rfl
    case mS => intro _; rfl
    case mE => passes_own
    case' mTurn =>
      clear F9 N9
      rintro ⟨vs, ss, nn⟩ pre k t9 kU kH kTk own kEq kLt kOff kFacts kInv kFr kNews
      have kMark := kstMark
      ((try dsimp only [kstB] at kFr); (try dsimp only at kNews); (try dsimp only at kFacts); (try dsimp only at kInv); (try simp only [List.nil_append, List.cons_append, List.append_nil] at kNews); (try dsimp only at kOff); (try simp only [List.map_cons, List.map_nil] at kOff); (try k_fold))
      subst kInv
      have hL := words_count kFacts (by omega)
    case' mDone =>
      clear F9 N9
      rintro ⟨vs, ss, nn⟩ kU kH kTk kFacts kInv kFr kNews
      have kMark := kstMark
      ((try dsimp only [kstB] at kFr); (try dsimp only at kNews); (try dsimp only at kFacts); (try dsimp only at kInv); (try simp only [List.nil_append, List.cons_append, List.append_nil] at kNews); (try dsimp only at kOff); (try simp only [List.map_cons, List.map_nil] at kOff); (try k_fold))
      subst kInv
      have hL := words_count kFacts (by rw [rangeKs_length]; omega)))
  unfold Con0
  k_fill
  intro dp un gd cn cs a ccd cl outer A₀ base h₀ L m s Q E p loose mean mg mb rest B F X N T hk hd hu hpre ret
  refine wpAny_call ?_
  k_dflt (refine' code_defR (own := []) (binds := [(Str.ofString "lowest", Value.int i t), (Str.ofString "number", Value.int n u)]) ?k1 ?k2 ?k3 ?k4 ?kdis ?k5 ?kA ?kF ?kK ?k6 ?k7 ?k8 ?k9 ?kB ?_ ?c2 ?c3 ?c4 ?c5; ((case kA => exact rfl); (case kF => exact rfl); (case kK => assumption); (case k1 => k_asm); (case k2 => k_asm); (case k3 => k_asm); (case k4 => k_asm); (case kdis => exact fun _ _ h => nomatch h); (case k5 => k_asm); (case k6 => k_is); (case k7 => k_is); (case k8 => ktr_room); (case k9 => exact BindsTo.of_eq rfl); (case c5 => decide); (case kB => exact locs rfl); (case c2 => exact rfl); (case c3 => exact rfl); (case c4 => exact rfl); k_whole; intro g' L' h' FG' F' N' B' X' T' LT' GR'; (try dsimp only [List.reverse_cons, List.reverse_nil, List.nil_append, List.cons_append, List.length_cons, List.length_nil] at *); (try k_lift B'); (try k_fold)))
  k_steps
  all_goals (first | assumption | skip)
  · have hA := lawWords_len h0 hb
    refine join_push (by assumption) (by k_mem) kFacts (words_end1 (by assumption) (by assumption)) hA.1 hA.2 ?_
    intro t9 tk9
    k_steps
    exact ret _ _ _ (retS rfl) (by k_asm) (newsD N (by assumption))
  · have hA := lawWords_len h0 hb
    refine join_whole (by assumption) (by k_mem) kFacts (words_end0 (fun h => absurd h.2 (by assumption))) hA.1 hA.2 ?_
    intro t9 tk9
    k_steps
    exact ret _ _ _ (retS rfl) (by k_asm) (newsD N (by assumption))
  · have hA := lawWords_len h0 hb
    refine join_whole (by assumption) (by k_mem) kFacts (words_end0 (fun h => absurd h.1 (by assumption))) hA.1 hA.2 ?_
    intro t9 tk9
    k_steps
    exact ret _ _ _ (retS rfl) (by k_asm) (newsD N (by assumption))
  · (rename News _ _ _ _ => nE'); simp only [List.push_toArray] at nE'; obtain ⟨tW, nW⟩ := exTok nE'; (rename Fr _ _ _ _ => fE')
    refine kst_end (⟨vs ++ [.str (wordS k n) tW], (wordS i n :: midWords n (i + 1) pre.length) ++ [wordS k n], nn + 1⟩ : List Value × List Str × Nat) fE' nW ?mi (fun p hp => .tail _ hp) rfl (PyProof.Rows.StrsAre.append' kFacts (.cons _ _ .nil)) ?mk ?ms ?mp
    case mi => intro p hp; rw [List.mem_singleton.mp hp]; exact .head _
    case mk => exact fun p hp => nomatch hp
    case ms => kst_same
    case mp => exact words_on kEq (by assumption)
  · exact range_small (by omega) (by omega) (by decide) (by decide)
  · exact rangeSize_nat _ _
end Mine
end
section
open PySem PySem.W PySem.Spec PySem.Calls PyProof.Rows
namespace Mine
section
variable {prog : Program} {w : World} {A : Around} {E : Value → Shared → Prop} {s : Shared} {h₀ : Heap} {L : Addr} {m : Str → Option Value} {env : Env}

theorem range_stC {I : Addr} {a c : Int} {n : Nat} : ∀ i (h h' : Heap) (o : Obj) (nw : List (Addr × Obj)), IsRangeIter h I (a + (i : Nat) * c) ((n : Int) - (i : Nat)) c → h.get? I = some o → h'.get? I = some o → (∀ b o, h₀.get? b = some o → h'.get? b = some o) → News h₀ L h' nw → True → IsRangeIter h' I (a + (i : Nat) * c) ((n : Int) - (i : Nat)) c :=
  fun i h h' o nw st e e' _ _ _ => by
    have st' : h.get? I = some _ := st
    show h'.get? I = some _
    rw [e', ← e]; exact st'

def SrcC (prog : Program) (w : World) (A : Around) (h₀ : Heap) (L : Addr) (m : Str → Option Value) (env : Env) (elt : Expr) (x : Str) (scope : Scope) (cl : List (Str × Addr)) (Q : Value → Shared → Prop) (xv : Value) (s₁ : Shared) : Prop :=
  ∃ (r : Addr) (a b c : Int) (t u v : Tok) (n : Nat) (news : List (Addr × Obj)), xv = .ref r ∧ A.handled = none ∧ Fr h₀ L s₁.heap m ∧ News h₀ L s₁.heap news ∧ IsRange s₁.heap r a b c t u v ∧ Builtin.Range.small a b c = true ∧
      Builtin.Range.rangeSize a b c = ((n : Nat) : Int) ∧ n ≤ sizeLine ∧ ∀ s₂ : Shared, (∃ h, s₂ = { s₁ with heap := h }) → LCg.CompRest prog w A h₀ L m env elt x scope cl s₂ (fun _ => True) (fun i v => i < n ∧ ∃ t, v = .int (a + (i : Int) * c) t) (LCg.FinE h₀ L m s₂ Q) n 0 [] news
/-- a list comprehension over a range by any step -/
theorem ListComp_C {elt iter : Expr} {x : Str} {px : Pos} {scope : Scope} {cl : List (Str × Addr)} {pos : Pos} {Q : Value → Shared → Prop} (_F₀ : Fr h₀ L s.heap m)
    (hclos : closureFor scope env = pure cl) (hcell : ∀ y ∈ scope.names, y.2 ≠ .cell) (hkind : scope.kind = .function)
    (hnames : ∀ y ∈ scope.names, y.2 = .local → scope.names.lookup y.1 = some .local) (hx : scope.names.lookup x = some .local)
    (h : wpAny (model prog w) A (eval iter env) (SrcC prog w A h₀ L m env elt x scope cl Q) E s)
    (hs : ∀ x, foldedSetIterable iter env x = pure x := by intro _; rfl) :
    wpAny (model prog w) A (eval (.ListComp elt [⟨.Name x px, iter, [], 0⟩] scope pos) env) Q E s := by
  rw [eval_ListComp]
  refine wpAny_comprehension_free (use := none) rfl hs hclos hkind hnames (wpAny_mono h (fun xv s₁ h₁ => ?_) fun _ _ e => e)
  obtain ⟨r, a, b, c, t, u, v, n, news, rfl, hh, F, N, hr, hsm, hn, hsz, R⟩ := h₁
  refine wpAny_pyIter_range hr hsm ?_
  refine LCg.block_U (Walks.range hh s₁.heap.objs.size a c n).bound hsz (fun i h st => ⟨_, st⟩) range_stC hcell hkind hx (by show IsRangeIter _ _ _ _ _; rw [hn]; simpa using Heap.get?_push_size _ rfl) (fun b hb => ?_)
    (F.keeps fun _ _ e => Heap.get?_push_of_some _ e) (N.grown fun _ _ e => Heap.get?_push_of_some _ e) (Nat.ne_of_lt F.ns.lt) (next_is_new F) (fun p hp => Nat.ne_of_lt (Heap.lt_size (N p hp).1)) trivial (R _ ⟨_, rfl⟩) ?_
  · rw [List.mem_singleton.mp hb]
    show s₁.heap.objs.size < (s₁.heap.push _).objs.size
    rw [Heap.size_push]; exact Nat.lt_succ_self _
  · intro D C h tk m' ys news' F' N' o1 hn hC₀ hD₀ hCL hDL hCD offC fin
    refine ⟨m', hn, fun h'' hs'' => fin D h'' tk (F'.change hs'' hCL hC₀) (fun p hp => ?_) o1⟩
    refine ⟨hs''.extBut _ _ ?_ (N' p hp).1, (N' p hp).2⟩
    rcases List.mem_cons.mp hp with rfl | hp
    · exact Ne.symm hCD
    · exact offC p hp

/-- its turns, where the element is an item of a list of ints that stood before -/
theorem comp_items {x y : Str} {px py pz : Pos} {scope : Scope} {cl : List (Str × Addr)} {Q : Value → Shared → Prop} {a c : Int} {n : Nat} {news : List (Addr × Obj)} {cc l : Addr} {oc : Obj} {vs : List Value} {ns : List Int}
    (hcl : cl.lookup y = some cc) (hcm : (cc, oc) ∈ news) (hcd : oc.data = .cell (some (.ref l))) (hl : h₀.IsList l vs.toArray) (hv : IntsAre vs ns) (ha : ∀ i : Nat, i < n → 0 ≤ a + (i : Int) * c ∧ a + (i : Int) * c < ns.length) (hlen : ns.length < 2 ^ 62)
    (hk : ∀ C, (compEnvC scope cl C env).scope.kind = .function) (hx : ∀ C, (compEnvC scope cl C env).kindOf x = some .local) (hy : ∀ C, (compEnvC scope cl C env).kindOf y = some .cell) (hxd : (x == ("__debug__" : Str)) = false) (hyd : (y == ("__debug__" : Str)) = false)
    (fin : ∀ ys zs, IntsAre ys zs → ys.length = n → LCg.FinE h₀ L m s Q ys news) :
    ∀ k i ys zs, i + k = n → IntsAre ys zs → ys.length = i → LCg.CompRest prog w A h₀ L m env (.Subscript (.Name y py) (.Name x px) pz) x scope cl s (fun _ => True) (fun i v => i < n ∧ ∃ t, v = .int (a + (i : Int) * c) t) (LCg.FinE h₀ L m s Q) k i ys news := by
  intro k
  induction k with
  | zero => intro i ys zs hi hz hl; exact LCg.CompRest.zero (fin ys zs hz (by omega))
  | succ k ih =>
    intro i ys zs hi hz hl'
    refine LCg.CompRest.succ ?_
    rintro v I oI C oC D m₂ h tk E' ⟨hin, t, rfl⟩ hC hx2 F N off ne
    obtain ⟨h0, h1⟩ := ha i hin
    refine Subscript_ ?_
    refine lcf_cell N hcl (List.mem_cons_of_mem _ (List.mem_cons_of_mem _ (List.mem_cons_of_mem _ hcm))) hcd ?_ (hk C) (hy C) hyd
    refine LCgL.ld_own N (List.mem_cons_of_mem _ List.mem_cons_self) hC hx2 ?_ (hk C) (hx C) hxd
    have hls : h.IsList l vs.toArray := hl.at fun o e => F.keep l o e
    refine item_list_ints hls hv h0 h1 (by omega) ?_
    intro t'
    refine LCg.CompEnd.intro F N news (fun p hp => hp) off trivial ?_
    exact ih (i + 1) _ (zs ++ [_]) (by omega) (hz.append (.cons _ _ .nil)) (by rw [List.length_append, List.length_singleton, hl'])
end
end Mine
namespace Mine
section
variable {prog : Program} {w : World} {A₀ A : Around} {s : Shared} {base h₀ : Heap} {outer : List Env} {L : Addr} {m : Str → Option Value} {env : Env} {own rest : List (Addr × Obj)}
  {R : Result → Shared → Prop} {name qual : Str} {params : Arguments} {body : List Stmt} {scope : Scope} {cl : List (Str × Addr)} {dV kV doc pm cdv ct : Value} {an : Option Addr} {fo : Obj} {f : Addr} {args : Args} {binds : List (Str × Value)}
  {K : Frag} {p : Program} {loose : List Str} {mean : ExcName → Option Value} {mg mb : Str → Option Value}

theorem callR_cells (B : Below A₀ base outer h₀) (F : Fr h₀ L s.heap m) (N : News h₀ L s.heap (own ++ rest)) (hdis : ∀ p ∈ rest, p.1 ∉ own.map (·.1)) (hlim : h₀.NoLimit) (hA : A.frames = some (env :: outer)) (hf : env.frame = some L) (hke : env.scope.kind = .function)
    (ho : s.heap.get? f = some fo) (hd : fo.data = .func (fnX name qual params body scope [] dV kV doc pm an cdv ct)) (hcd : s.heap.CodeRec cdv qual) (hroom : A.depth < recursionLimit)
    (hbind : BindsTo s (fnX name qual params body scope [] dV kV doc pm an cdv ct) args binds)
    (hkind : ∀ n, ∀ x ∈ binds, scope.names.lookup x.1 = some .local ∨ (scope.names.lookup x.1 = some .cell ∧ ((cellsFrom n scope.names []).lookup x.1).isSome = true))
    (hnd : ((cellsFrom 0 scope.names []).map (·.1)).Nodup)
    (h : ∀ g L' h₁ tk cells, Fr h₀ L g m → Fr g L' h₁ (bindL (envOfC qual scope L' f cdv).kindOf binds fun _ => none) → News g L' h₁ (cells ++ own) →
      CellsAre (bindC (envOfC qual scope L' f cdv).kindOf binds fun _ => none) (cellsFrom (L' + 1) scope.names []) cells → Below A base (env :: outer) g → h₀.StaysIn g → (∀ p ∈ own ++ rest, p.1 < L') → (∀ p ∈ rest, g.get? p.1 = some p.2) →
      wpAny (model prog w) (A.deeper (envOfC qual scope L' f cdv)) (execs body (envOfC qual scope L' f cdv))
        (fun fl s' => LeaveK h₀ L m g (fun r s' => Rest rest s'.heap → R r s') (match fl with | .ret v => v | _ => .none) s')
        (fun e s' => wpAny (model prog w) (A.deeper (envOfC qual scope L' f cdv)) (leaving (envOfC qual scope L' f cdv) e) (fun _ s'' => R (.error e) s'') (fun e' s'' => R (.error e') s'') s')
        { s with heap := h₁, toks := tk })
    (hco : scope.isCoroutine = false := by rfl) (hgen : scope.isGenerator = false := by rfl) (hk : scope.kind = .function := by rfl) : codeAny (model prog w) A (.call (.ref f) args) R s := by
  obtain ⟨FG, BG, st, lv⟩ := groundR (R := R) B F N hdis hA hf hke
  have No : News h₀ L s.heap own := fun p hp => N p (List.mem_append_left _ hp)
  refine codeAny_call_function hroom ho hd hco hgen rfl hcd (hbind _ _ _ _ ?_)
  refine wpAny_newFunctionEnv_cells hk (hkind _) fun env' he s' x => ?_
  subst he
  refine ⟨(hlim.keeps F.keep).keeps x.toInCall.keep, codeAny_func ?_⟩
  obtain ⟨h₁, tk, rfl, _⟩ := x.done
  have hk₁ := x.toInCall.keep
  obtain ⟨cells, NC, Y⟩ := Cl.news (h₀ := s.heap) (Nat.le_refl _) fun n c hm => ⟨x.cell n c (lookup_of_mem_nodup (cellsFrom_names scope.names 0 (s.heap.objs.size + 1) [] [] rfl ▸ hnd) hm), x.above n c hm⟩
  refine wpAny_mono (h _ s.heap.objs.size h₁ tk cells FG ⟨x.toInCall.ns, fun b o e => hk₁ b o (of_hideAll _ e), Nat.le_of_eq (hideAll_size _ _)⟩ (fun p hp => ?_) Y BG st (fun p hp => Heap.lt_size (N p hp).1)
    (fun p hp => hideAll_get _ (N p (List.mem_append_right _ hp)).1 (hdis p hp))) (fun fl s' hl => lv _ _ hl) fun _ _ y => y
  rcases List.mem_append.mp hp with hp | hp
  · refine ⟨(NC p hp).1, (NC p hp).2.1, ?_⟩
    cases q : (hideAll s.heap (own.map (·.1))).get? p.1 with
    | none => rfl
    | some o => have := of_hideAll _ q; rw [(NC p hp).2.2] at this; cases this
  · exact ⟨hk₁ _ _ (No p hp).1, Nat.ne_of_lt (Heap.lt_size (No p hp).1), hideAll_none _ (List.mem_map_of_mem hp)⟩

theorem code_defCR {an od : Option Addr} {oc : Value} {osl : Array (Option Value)}
    (B : Below A₀ base outer h₀) (F : Fr h₀ L s.heap m) (X₀ : K.In h₀) (N : News h₀ L s.heap (own ++ rest)) (hdis : ∀ p ∈ rest, p.1 ∉ own.map (·.1)) (T : Top p loose mean mg mb h₀) (hA : A.frames = some (env :: outer)) (hf : env.frame = some L) (hke : env.scope.kind = .function)
    (ho : K.lookup f = some ⟨oc, od, .func (fnOf name qual params body scope dV kV doc pm an cdv ct), osl⟩) (hcd : codeIn K cdv qual = true) (hroom : A.depth < recursionLimit)
    (hbind : BindsTo s (fnOf name qual params body scope dV kV doc pm an cdv ct) args binds) (hkind : (binds.all fun y => scope.names.lookup y.1 == some .local || scope.names.lookup y.1 == some .cell) = true)
    (hnd : ((cellsFrom 0 scope.names []).map (·.1)).Nodup)
    (h : ∀ g L' h₁ tk cells, Fr h₀ L g m → Fr g L' h₁ (bindL (envOfC qual scope L' f cdv).kindOf binds fun _ => none) → News g L' h₁ (cells ++ own) →
      CellsAre (bindC (envOfC qual scope L' f cdv).kindOf binds fun _ => none) (cellsFrom (L' + 1) scope.names []) cells → Below A base (env :: outer) g → K.In g → Top p loose mean mg mb g → (∀ p ∈ own ++ rest, p.1 < L') → (∀ p ∈ rest, g.get? p.1 = some p.2) →
      wpAny (model prog w) (A.deeper (envOfC qual scope L' f cdv)) (execs body (envOfC qual scope L' f cdv))
        (fun fl s' => LeaveK h₀ L m g (fun r s' => Rest rest s'.heap → R r s') (match fl with | .ret v => v | _ => .none) s')
        (fun e s' => wpAny (model prog w) (A.deeper (envOfC qual scope L' f cdv)) (leaving (envOfC qual scope L' f cdv) e) (fun _ s'' => R (.error e) s'') (fun e' s'' => R (.error e') s'') s')
        { s with heap := h₁, toks := tk })
    (hco : scope.isCoroutine = false) (hgen : scope.isGenerator = false) (hk : scope.kind = .function) : codeAny (model prog w) A (.call (.ref f) args) R s :=
  callR_cells B F N hdis T.nolimit hA hf hke ((X₀.keeps F.keep) _ _ ho) rfl (codeRec_of (X₀.keeps F.keep) hcd) hroom hbind (kindsX hkind) hnd (fun g L' h₁ tk cells FG F' N' Y B' st lt gr => h g L' h₁ tk cells FG F' N' Y B' (X₀.keeps st) (T.keeps st) lt gr) hco hgen hk
end
end Mine
namespace Mine
theorem fits_long (x : Int) (l : -4000000 ≤ x) (r : x ≤ 4000000) : Builtin.Range.rangeFitsLong x = true := by
  unfold Builtin.Range.rangeFitsLong
  simp only [Bool.and_eq_true, decide_eq_true_eq]
  omega
theorem size4 (a b : Int) : Builtin.Range.rangeSize a b 4 = if a < b then (b - a - 1) / 4 + 1 else 0 := by
  unfold Builtin.Range.rangeSize
  rw [if_pos (by decide)]
theorem small4 {a b : Int} (h0 : 0 ≤ a) (h1 : a ≤ 1000) (h2 : 0 ≤ b) (h3 : b ≤ 1000) : Builtin.Range.small a b 4 = true := by
  have hs : 0 ≤ Builtin.Range.rangeSize a b 4 ∧ Builtin.Range.rangeSize a b 4 ≤ 2000 := by
    rw [size4]; split <;> omega
  unfold Builtin.Range.small
  rw [fits_long a (by omega) (by omega), fits_long b (by omega) (by omega), fits_long 4 (by decide) (by decide), fits_long _ (by omega) (by omega)]
  rw [if_pos (by decide), fits_long _ (by omega) (by omega)]
  simp
theorem size4_nat {a b : Int} : Builtin.Range.rangeSize a b 4 = (((Builtin.Range.rangeSize a b 4).toNat : Nat) : Int) := rangeSize_toNat a b 4
theorem size4_le {a : Int} {n : Nat} (h0 : 0 ≤ a) (hn : n ≤ 63) : (Builtin.Range.rangeSize a n 4).toNat ≤ sizeLine := by
  rw [size4, sizeLine_eq]; split <;> omega
theorem size4_in {a : Int} {n : Nat} (h0 : 0 ≤ a) (i : Nat) (hi : i < (Builtin.Range.rangeSize a n 4).toNat) : 0 ≤ a + (i : Int) * 4 ∧ a + (i : Int) * 4 < n := by
  rw [size4] at hi
  split at hi <;> omega
end Mine
namespace Mine
theorem mill : (10 : Int) ^ Int.toNat 6 = 1000000 := by decide
theorem cell_pos {x : Int} {t : Tok} : ∃ (t' : Tok) (z : Int), Value.int (x.fmod (10 ^ Int.toNat 6)) t = .int z t' ∧ -1000000 < z ∧ z < 1000000 := by
  refine ⟨t, _, rfl, ?_⟩
  rw [mill]
  have h1 := fmod_lo x (n := 1000000) (by decide)
  have h2 := fmod_hi x (n := 1000000) (by decide)
  omega
theorem cell_neg {x : Int} {t : Tok} : ∃ (t' : Tok) (z : Int), Value.int (-(x.fmod (10 ^ Int.toNat 6))) t = .int z t' ∧ -1000000 < z ∧ z < 1000000 := by
  refine ⟨t, _, rfl, ?_⟩
  rw [mill]
  have h1 := fmod_lo x (n := 1000000) (by decide)
  have h2 := fmod_hi x (n := 1000000) (by decide)
  omega
end Mine
end
section
open PySem PySem.W PySem.Spec PySem.Calls PyProof.Rows
namespace Mine
def ListPre (l : Addr) (vs : List Value) (base : Heap) : Prop := base.IsList l vs.toArray
set_option pp.maxSteps 600 in
set_option maxHeartbeats 1500000 in
theorem con_cell (w : World) (l : Addr) (vs : List Value) (ns : List Int) (i o : Int) (t u : Tok) (hv : IntsAre vs ns) (hn : ns.length ≤ 63) (h0 : 0 ≤ i) (hi : i ≤ 3) : Con0 w 101 [.ref l, .int i t, .int o u] 2 16 (ListPre l vs) (fun v => ∃ t' z, v = .int z t' ∧ -1000000 < z ∧ z < 1000000) := by
  k_with_none
  w_top off
  k_with "small" => first | with_reducible exact Mine.room2 (by assumption) (by decide) | with_reducible exact Mine.room1 (by assumption) (by decide) | with_reducible exact Mine.room0 (by assumption) | decide +kernel
  k_with "eval ListComp" => (k_here; k_dflt (refine' ListComp_C ?lF ?l1 ?l2 ?l3 ?l4 ?l5 ?_ ?l6; (case lF => k_asm); (case l1 => with_unfolding_all rfl); (case l2 => decide); (case l3 => rfl); (case l4 => decide); (case l5 => rfl); (case l6 => intro _; rfl)))
  unfold Con0
  k_fill
  intro dp un gd cn cs a ccd cl outer A₀ base h₀ L m s Q E p loose mean mg mb rest B F X N T hk hd hu hpre ret
  unfold ListPre at hpre
  refine wpAny_call ?_
  k_dflt (refine' code_defCR (own := []) (binds := [(Str.ofString "script", Value.ref l), (Str.ofString "place", Value.int i t), (Str.ofString "own", Value.int o u)]) ?k1 ?k2 ?k3 ?k4 ?kdis ?k5 ?kA ?kF ?kK ?k6 ?k7 ?k8 ?k9 ?kB ?kD ?_ ?c2 ?c3 ?c4; ((case kA => exact rfl); (case kF => exact rfl); (case kK => assumption); (case k1 => k_asm); (case k2 => k_asm); (case k3 => k_asm); (case k4 => k_asm); (case kdis => exact fun _ _ h => nomatch h); (case k5 => k_asm); (case k6 => k_is); (case k7 => k_is); (case k8 => ktr_room); (case k9 => exact BindsTo.of_eq rfl); (case kB => exact rfl); (case kD => decide +kernel); (case c2 => exact rfl); (case c3 => exact rfl); (case c4 => exact rfl); k_whole; intro g' L' h' tk' cells' FG' F' N' Y' B' X' T' LT' GR'; k_cells Y'; (try simp only [List.cons_append, List.nil_append] at N'); (try dsimp only); (try k_lift B'); (try k_fold)))
  k_steps
  (rename IsRange _ _ _ _ _ _ _ _ => hR); (rename Fr _ _ _ _ => F9); (rename News _ _ _ _ => N9)
  refine ⟨_, i, ns.length, 4, _, _, _, (Builtin.Range.rangeSize i ns.length 4).toNat, _, rfl, rfl, F9, N9, hR, small4 (by omega) (by omega) (by omega) (by omega), size4_nat, size4_le h0 hn, ?_⟩
  rintro _ ⟨g9, rfl⟩
  refine comp_items (cc := _) (l := l) (vs := vs) (ns := ns) ?q1 List.mem_cons_self ?q2 (by assumption) hv (size4_in h0) (by omega) ?q3 ?q4 ?q5 (by decide) (by decide) ?q6 _ 0 [] [] (by omega) .nil rfl
  case q1 => with_unfolding_all rfl
  case q2 => assumption
  case q3 => intro _; rfl
  case q4 => intro _; rfl
  case q5 => intro _; rfl
  case q6 =>
    intro ys zs hz hlen
    unfold LCg.FinE
    intro D' h' tk' F' N' o1'
    clear F9 N9
    simp only [LCg.Off1, and_true] at o1'
    k_steps
    · exact ret _ _ _ cell_neg (by k_asm) (newsD N (by assumption))
    · exact ret _ _ _ cell_pos (by k_asm) (newsD N (by assumption))
end Mine
end
section
open PySem PySem.W PySem.Spec PySem.Calls PyProof.Rows
namespace Mine
/-- none of the one list stands in the other -/
def Apart (own rest : List (Addr × Obj)) : Prop := ∀ p ∈ own, ∀ q ∈ rest, @Ne Nat q.1 p.1
structure Kept (rest : List (Addr × Obj)) (g : Heap) : Prop where
  at_ : ∀ p ∈ rest, g.get? p.1 = some p.2
theorem Apart.of {g h : Heap} {L : Addr} {own rest : List (Addr × Obj)} (gr : Kept rest g) (N : News g L h own) : Apart own rest := fun p hp q hq e => by
  have h1 := gr.at_ q hq
  rw [e, (N p hp).2.2] at h1
  cases h1
theorem Apart.nil {rest : List (Addr × Obj)} : Apart [] rest := fun _ h => nomatch h
theorem Apart.notin {own rest : List (Addr × Obj)} (a : Apart own rest) : ∀ p ∈ rest, p.1 ∉ own.map (·.1) := fun p hp h => by
  obtain ⟨q, hq, e⟩ := List.mem_map.mp h
  exact a q hq p hp e.symm
/-- a call that may turn the part 'own' of the ledger into 'own'', and tells what it hands back -/
def ConT (w : World) (f : Addr) (vs : List Value) (d u : Nat) (own : List (Addr × Obj)) (Ret : Value → List (Addr × Obj) → Prop) : Prop :=
  ∀ (dp un : Nat) (gd : Option (List Code)) (cn : Str) (cs : Scope) (a : Addr) (ccd : Value) (cl : List (Str × Addr)) (outer : List Env) (A₀ : Around) (base h₀ : Heap) (L : Addr) (m : Str → Option Value) (s : Shared) (Q E : Value → Shared → Prop)
    (p : Program) (loose : List Str) (mean : ExcName → Option Value) (mg mb : Str → Option Value) (rest : List (Addr × Obj)),
    Below A₀ base outer h₀ → Fr h₀ L s.heap m → (hd.heap_39 w.params).In h₀ → News h₀ L s.heap (own ++ rest) → Apart own rest → Top p loose mean mg mb h₀ → cs.kind = .function → dp + d < recursionLimit → un + u < cLine →
    (∀ (v : Value) (own' : List (Addr × Obj)) (h' : Heap) (tk' : Nat), Ret v own' → Apart own' rest → Fr h₀ L h' m → News h₀ L h' (own' ++ rest) → Q v { s with heap := h', toks := tk' }) →
    wpAny (model PySem.Challenge.rw_un0014_01.row.prog w) (ktrTop dp un gd cn cs L a ccd cl outer) (call (.ref f) vs) Q E s
theorem ConT.use {w : World} {f : Addr} {vs : List Value} {d u : Nat} {own : List (Addr × Obj)} {Ret : Value → List (Addr × Obj) → Prop} (C : ConT w f vs d u own Ret)
    {dp un : Nat} {gd : Option (List Code)} {cn : Str} {cs : Scope} {a : Addr} {ccd : Value} {cl : List (Str × Addr)} {outer : List Env} {A₀ : Around} {base h₀ : Heap} {L : Addr} {m : Str → Option Value} {s : Shared} {Q E : Value → Shared → Prop}
    {p : Program} {loose : List Str} {mean : ExcName → Option Value} {mg mb : Str → Option Value} {rest : List (Addr × Obj)}
    (B : Below A₀ base outer h₀) (F : Fr h₀ L s.heap m) (X : (hd.heap_39 w.params).In h₀) (N : News h₀ L s.heap (own ++ rest)) (D : Apart own rest) (T : Top p loose mean mg mb h₀) (hk : cs.kind = .function) (hd : dp + d < recursionLimit) (hu : un + u < cLine)
    (ret : ∀ (v : Value) (own' : List (Addr × Obj)) (h' : Heap) (tk' : Nat), Ret v own' → Apart own' rest → Fr h₀ L h' m → News h₀ L h' (own' ++ rest) → Q v { s with heap := h', toks := tk' }) :
    wpAny (model PySem.Challenge.rw_un0014_01.row.prog w) (ktrTop dp un gd cn cs L a ccd cl outer) (call (.ref f) vs) Q E s := C _ _ _ _ _ _ _ _ _ _ _ _ _ _ _ _ _ _ _ _ _ _ _ B F X N D T hk hd hu ret
/-- a part of the ledger that holds all of one of which P holds -/
def Holding (P : List (Addr × Obj) → Prop) (l : List (Addr × Obj)) : Prop := ∃ o, P o ∧ ∀ p ∈ o, p ∈ l
theorem ConT.sub {w : World} {f : Addr} {vs : List Value} {d u : Nat} {own own2 : List (Addr × Obj)} {Ret : Value → List (Addr × Obj) → Prop} (C : ConT w f vs d u own Ret) (hs : ∀ p ∈ own, p ∈ own2) : ConT w f vs d u own2 Ret :=
  fun _ _ _ _ _ _ _ _ _ _ _ _ _ _ _ _ _ _ _ _ _ _ _ B F X N D T hk h1 h2 ret => C _ _ _ _ _ _ _ _ _ _ _ _ _ _ _ _ _ _ _ _ _ _ _ B F X
    (fun p hp => N p ((List.mem_append.mp hp).elim (fun h => List.mem_append_left _ (hs p h)) (fun h => List.mem_append_right _ h))) (fun p hp => D p (hs p hp)) T hk h1 h2 ret
/-- a pair of ints, made -/
abbrev pairObj (x y : Int) (t u : Tok) : Obj := { cls := .type "tuple", data := .seq #[.int x t, .int y u] }
def RetPair (x y : Int) (v : Value) (own' : List (Addr × Obj)) : Prop := ∃ (T : Addr) (t u : Tok), v = .ref T ∧ own' = [(T, pairObj x y t u)]
end Mine
end
section
open PySem PySem.W PySem.Spec PySem.Calls PyProof.Rows
namespace Mine
set_option pp.maxSteps 600 in
set_option maxHeartbeats 1500000 in
theorem con_2n1n (w : World) (a b n : Int) (t u v : Tok) (hb : b ≠ 0) (hlim : (Builtin.Int.intBits a : Int) - n ≤ 4000) (hlog : b.natAbs.log2 < 9000) : ConT w 29 [.int a t, .int b u, .int n v] 1 16 [] (RetPair (a.fdiv b) (a.fmod b)) := by
  k_with_none
  w_top off
  k_with "small" => first | with_reducible exact Mine.room2 (by assumption) (by decide) | with_reducible exact Mine.room1 (by assumption) (by decide) | with_reducible exact Mine.room0 (by assumption) | decide +kernel
  k_with "call builtin:divmod" => ((with_reducible show wpAny _ _ (call (Value.builtin _) [Value.int _ _, Value.int _ _]) _ _ _); k_dflt (refine divmod_N (by assumption) (by assumption) (by assumption) ?_ (Or.inl (PyProof.noPylong_of_log2 (by assumption)))); intro _ _ _)
  unfold ConT
  k_fill
  intro dp un gd cn cs ac ccd cl outer A₀ base h₀ L m s Q E p loose mean mg mb rest B F X N Dj T hk hd hu ret
  refine wpAny_call ?_
  k_dflt (refine' code_defR (own := []) (binds := [(Str.ofString "a", Value.int a t), (Str.ofString "b", Value.int b u), (Str.ofString "n", Value.int n v)]) ?k1 ?k2 ?k3 ?k4 ?kdis ?k5 ?kA ?kF ?kK ?k6 ?k7 ?k8 ?k9 ?kB ?_ ?c2 ?c3 ?c4 ?c5; ((case kA => exact rfl); (case kF => exact rfl); (case kK => assumption); (case k1 => k_asm); (case k2 => k_asm); (case k3 => k_asm); (case k4 => k_asm); (case kdis => first | exact Apart.notin (by assumption) | exact fun _ _ h => nomatch h); (case k5 => k_asm); (case k6 => k_is); (case k7 => k_is); (case k8 => ktr_room); (case k9 => exact BindsTo.of_eq rfl); (case c5 => decide); (case kB => exact locs rfl); (case c2 => exact rfl); (case c3 => exact rfl); (case c4 => exact rfl); k_whole; intro g' L' h' FG' F' N' B' X' T' LT' GR'; replace GR' := Kept.mk GR'; (try dsimp only [List.reverse_cons, List.reverse_nil, List.nil_append, List.cons_append, List.length_cons, List.length_nil] at *); (try k_lift B'); (try k_fold)))
  k_steps
  exact ret _ _ _ _ ⟨_, _, _, rfl, rfl⟩ (Apart.of (by assumption) (by assumption)) (by k_asm) (newsR (own := []) N (by assumption) (by k_asm))
end Mine
end
section
open PySem PySem.W PySem.Spec PySem.Calls PyProof.Rows
namespace Mine
/-- the def that a def of the top makes: its parameters, its body, its scope -/
def innerText (i j : Nat) : Option (Arguments × List Stmt × Scope) := match PySem.Challenge.pw_un0014_01.main.body[i]? with
  | some (.FunctionDef _ _ b _ _ _ _ _ _ _) => (match b[j]? with
    | some (.FunctionDef _ ps b' _ _ _ sc _ _ _) => some (ps, b', sc)
    | _ => none)
  | _ => none
section
variable {prog : Program} {w : World} {A A₀ : Around} {s : Shared} {K : Frag} {L : Addr} {h₀ base : Heap} {m mg mb : Str → Option Value} {own rest : List (Addr × Obj)} {p : Program} {loose : List Str} {mean : ExcName → Option Value}
theorem code_nestR {env : Env} {outer : List Env} {R : Result → Shared → Prop} {name qual : Str} {params : Arguments} {body : List Stmt} {scope : Scope} {cl : List (Str × Addr)} {doc pm ctv : Value} {c' : Addr} {f : Addr} {args : Args} {binds : List (Str × Value)}
    (B : Below A₀ base outer h₀) (F : Fr h₀ L s.heap m) (X₀ : K.In h₀) (N : News h₀ L s.heap (own ++ rest)) (hdis : ∀ p ∈ rest, p.1 ∉ own.map (·.1)) (T : Top p loose mean mg mb h₀) (hA : A.frames = some (env :: outer)) (hf : env.frame = some L) (hke : env.scope.kind = .function)
    (ho : (f, fnMade name qual params body scope cl doc pm c' ctv) ∈ own) (hcd : s.heap.CodeRec (.ref c') qual) (hroom : A.depth < recursionLimit)
    (hbind : BindsTo s (fnX name qual params body scope cl .none .none doc pm none (.ref c') ctv) args binds) (hloc : ∀ y ∈ binds, scope.names.lookup y.1 = some .local)
    (h : ∀ g L' h₁, Fr h₀ L g m → Fr g L' h₁ (fun y => binds.reverse.lookup y) → News g L' h₁ own → Below A base (env :: outer) g → K.In g → Top p loose mean mg mb g → (∀ p ∈ own ++ rest, p.1 < L') → (∀ p ∈ rest, g.get? p.1 = some p.2) →
      wpAny (model prog w) (A.deeper (envX qual scope L' f (.ref c') cl)) (execs body (envX qual scope L' f (.ref c') cl))
        (fun fl s' => LeaveK h₀ L m g (fun r s' => Rest rest s'.heap → R r s') (match fl with | .ret v => v | _ => .none) s')
        (fun e s' => wpAny (model prog w) (A.deeper (envX qual scope L' f (.ref c') cl)) (leaving (envX qual scope L' f (.ref c') cl) e) (fun _ s'' => R (.error e) s'') (fun e' s'' => R (.error e') s'') s')
        { s with heap := h₁, toks := s.toks + binds.length })
    (hco : scope.isCoroutine = false) (hgen : scope.isGenerator = false) (hk : scope.kind = .function)
    (hcell : ∀ x ∈ scope.names, x.2 ≠ .cell) : codeAny (model prog w) A (.call (.ref f) args) R s :=
  callR_plain (cl := cl) B F N hdis T.nolimit hA hf hke (N _ (List.mem_append_left _ ho)).1 rfl hcd hroom hbind hloc (fun g L' h₁ FG F' N' B' st lt gr => h g L' h₁ FG F' N' B' (X₀.keeps st) (T.keeps st) lt gr) hcell hco hgen hk
end
theorem text_7_1 : ∃ ps b sc, innerText 7 1 = some (ps, b, sc) := ⟨_, _, _, rfl⟩
end Mine
end
section
open PySem PySem.W PySem.Spec PySem.Calls PyProof.Rows
namespace Mine
def dval (B : Int) : List Int → Int
  | [] => 0
  | d :: r => d + B * dval B r
structure Digs (B : Int) (k : Nat) (x : Int) (ds : List Int) : Prop where
  len : ds.length = k
  low : ∀ d ∈ ds, 0 ≤ d ∧ d < B
  val : dval B ds = x
theorem dval_append (B : Int) (a b : List Int) : dval B (a ++ b) = dval B a + B ^ a.length * dval B b := by
  induction a with
  | nil => simp [dval]
  | cons d r ih => simp only [List.cons_append, dval, ih, List.length_cons, Int.pow_succ]; grind
theorem Digs.join {B : Int} {k1 k2 : Nat} {l u : Int} {d1 d2 : List Int} (h1 : Digs B k1 l d1) (h2 : Digs B k2 u d2) : Digs B (k1 + k2) (l + B ^ k1 * u) (d1 ++ d2) := by
  refine ⟨by rw [List.length_append, h1.len, h2.len], fun d hd => ?_, by rw [dval_append, h1.len, h1.val, h2.val]⟩
  rcases List.mem_append.mp hd with h | h
  · exact h1.low d h
  · exact h2.low d h
theorem Digs.one {B x : Int} (h0 : 0 ≤ x) (h1 : x < B) : Digs B 1 x [x] := ⟨rfl, fun d hd => by rw [List.mem_singleton.mp hd]; exact ⟨h0, h1⟩, by simp [dval]⟩
theorem and_top (s : Nat) : ∀ x : Int, Builtin.bitAnd x (x / 2 ^ s * 2 ^ s) = x / 2 ^ s * 2 ^ s := by
  induction s with
  | zero => intro x; rw [Int.pow_zero, Int.ediv_one, Int.mul_one, bitAnd_self]
  | succ s ih =>
    intro x
    have e1 : x / 2 ^ (s + 1) = x / 2 / 2 ^ s := by rw [Int.pow_succ, Int.mul_comm, Int.ediv_ediv_of_nonneg (by decide)]
    have e2 : x / 2 ^ (s + 1) * 2 ^ (s + 1) = 2 * (x / 2 / 2 ^ s * 2 ^ s) := by rw [e1, Int.pow_succ]; grind
    rw [e2, kbt_halves, Int.mul_ediv_cancel_left _ (by decide), ih, if_neg (by (first | lia | omega))]
    (first | lia | omega)
theorem xor_low (x : Int) (s : Nat) : Builtin.bitXor x (x.fdiv (2 ^ s) * 2 ^ s) = x % 2 ^ s := by
  have hp := kbt_pos s
  rw [Int.fdiv_eq_ediv_of_nonneg _ (Int.le_of_lt hp), bitXor_and, and_top]
  have := Int.emod_def x (2 ^ s)
  rw [Int.mul_comm] at this
  (first | lia | omega)
theorem half_mid {lo hi : Int} {j : Nat} (h : lo < hi) (hn : lo + 1 ≠ hi) (hj : hi - lo ≤ 2 ^ (j + 1)) : lo < (lo + hi).fdiv (2 ^ Int.toNat 1) ∧ (lo + hi).fdiv (2 ^ Int.toNat 1) < hi ∧ (lo + hi).fdiv (2 ^ Int.toNat 1) - lo ≤ 2 ^ j ∧ hi - (lo + hi).fdiv (2 ^ Int.toNat 1) ≤ 2 ^ j := by
  have e : (lo + hi).fdiv (2 ^ Int.toNat 1) = (lo + hi) / 2 := Int.fdiv_eq_ediv_of_nonneg _ (by decide)
  rw [e]
  rw [Int.pow_succ] at hj
  (first | lia | omega)
theorem shift_pow {c n : Int} (hc : 0 ≤ c) (hn : 0 ≤ n) : (2 : Int) ^ (c * n).toNat = (2 ^ n.toNat) ^ c.toNat := by
  obtain ⟨c, rfl⟩ := Int.eq_ofNat_of_zero_le hc
  obtain ⟨n, rfl⟩ := Int.eq_ofNat_of_zero_le hn
  rw [← Int.natCast_mul, Int.toNat_natCast, Int.toNat_natCast, Int.toNat_natCast, ← Int.pow_mul, Nat.mul_comm]
theorem low_bits {x y : Int} {k : Nat} (h : Builtin.Int.intBits x ≤ k) (hx : 0 ≤ x) (h0 : 0 ≤ y) (h1 : y ≤ x) : Builtin.Int.intBits y ≤ k :=
  intBits_le (Nat.lt_of_le_of_lt (by (first | lia | omega)) (Nat.lt_of_lt_of_le (natAbs_lt_pow_bits x) (Nat.pow_le_pow_right (by decide) h)))
theorem emod_below {x b : Int} (hx : 0 ≤ x) (hb : 0 < b) : x % b ≤ x := by
  have h1 := Int.emod_def x b
  have h2 := Int.mul_nonneg (Int.le_of_lt hb) (Int.ediv_nonneg hx (Int.le_of_lt hb))
  (first | lia | omega)
/-- the two parts of a number that is cut at a place -/
structure Parts (x n c : Int) (up low : Int) : Prop where
  u0 : 0 ≤ up
  l0 : 0 ≤ low
  ux : up ≤ x
  lx : low ≤ x
  lB : low < (2 ^ n.toNat) ^ c.toNat
  eq : x = low + (2 ^ n.toNat) ^ c.toNat * up
  uB : ∀ {d : Int}, 0 ≤ d → x < (2 ^ n.toNat) ^ (c + d).toNat → up < (2 ^ n.toNat) ^ d.toNat
theorem parts {x n c : Int} (hx : 0 ≤ x) (hn : 0 ≤ n) (hc : 0 ≤ c) : Parts x n c (x.fdiv (2 ^ (c * n).toNat)) (Builtin.bitXor x (x.fdiv (2 ^ (c * n).toNat) * 2 ^ (c * n).toNat)) := by
  rw [xor_low, shift_pow hc hn]
  have hp : (0 : Int) < (2 ^ n.toNat) ^ c.toNat := pow_pos_of (kbt_pos _) _
  rw [Int.fdiv_eq_ediv_of_nonneg _ (Int.le_of_lt hp)]
  refine ⟨Int.ediv_nonneg hx (Int.le_of_lt hp), Int.emod_nonneg _ (by (first | lia | omega)), Int.ediv_le_self _ hx, emod_below hx hp, Int.emod_lt_of_pos _ hp, (Int.emod_add_mul_ediv _ _).symm, fun hd hlt => ?_⟩
  rw [Int.toNat_add hc hd, Int.pow_add] at hlt
  exact Int.ediv_lt_of_lt_mul hp (by rwa [Int.mul_comm] at hlt)
def filled (ns : List Int) (lo hi : Int) (ds : List Int) : List Int := ns.take lo.toNat ++ ds ++ ns.drop hi.toNat
theorem toNat_cut {lo mid hi : Int} (h1 : lo ≤ mid) (h2 : mid ≤ hi) : (hi - lo).toNat = (mid - lo).toNat + (hi - mid).toNat := by
  rw [← Int.toNat_add (Int.sub_nonneg.mpr h1) (Int.sub_nonneg.mpr h2)]
  congr 1
  lia
theorem toNat_up {lo mid : Int} (h0 : 0 ≤ lo) (h1 : lo ≤ mid) : lo.toNat + (mid - lo).toNat = mid.toNat := by
  rw [← Int.toNat_add h0 (Int.sub_nonneg.mpr h1), Int.add_comm, Int.sub_add_cancel]
theorem filled_len {ns ds : List Int} {lo hi : Int} (h0 : 0 ≤ lo) (h1 : lo ≤ hi) (h2 : hi ≤ ns.length) (hd : ds.length = (hi - lo).toNat) : (filled ns lo hi ds).length = ns.length := by
  simp only [filled, List.length_append, List.length_take, List.length_drop, hd]
  rw [Nat.min_eq_left (Int.toNat_le.mpr (Int.le_trans h1 h2)), toNat_up h0 h1, Nat.add_sub_cancel' (Int.toNat_le.mpr h2)]
theorem filled_one {ns : List Int} {lo hi x : Int} (h0 : 0 ≤ lo) (h1 : lo + 1 = hi) (h2 : hi ≤ ns.length) : ns.set lo.toNat x = filled ns lo hi [x] := by
  have e : hi.toNat = lo.toNat + 1 := by (first | lia | omega)
  rw [List.set_eq_take_append_cons_drop, if_pos (by (first | lia | omega)), filled, e]
  simp
theorem filled_two {ns d1 d2 : List Int} {lo mid hi : Int} (h0 : 0 ≤ lo) (h1 : lo ≤ mid) (h2 : mid ≤ hi) (h3 : hi ≤ ns.length) (hd : d1.length = (mid - lo).toNat) :
    filled (filled ns lo mid d1) mid hi d2 = filled ns lo hi (d1 ++ d2) := by
  have ha : (ns.take lo.toNat ++ d1).length = mid.toNat := by rw [List.length_append, List.length_take, hd, Nat.min_eq_left (Int.toNat_le.mpr (Int.le_trans h1 (Int.le_trans h2 h3))), toNat_up h0 h1]
  have hm := Int.toNat_le_toNat h2
  have e1 : (filled ns lo mid d1).take mid.toNat = ns.take lo.toNat ++ d1 := by rw [filled, ← ha, List.take_left]
  have e2 : (filled ns lo mid d1).drop hi.toNat = ns.drop hi.toNat := by
    rw [filled, List.drop_append, ha, List.drop_eq_nil_of_le (by rw [ha]; exact hm), List.nil_append, List.drop_drop, Nat.add_sub_cancel' hm]
  rw [filled, e1, e2, filled, List.append_assoc (ns.take lo.toNat)]
theorem digs_two {n x lo mid hi up low : Int} {d1 d2 : List Int} (P : Parts x n (mid - lo) up low) (h1 : lo ≤ mid) (h2 : mid ≤ hi) (g1 : Digs (2 ^ n.toNat) (mid - lo).toNat low d1) (g2 : Digs (2 ^ n.toNat) (hi - mid).toNat up d2) : Digs (2 ^ n.toNat) (hi - lo).toNat x (d1 ++ d2) := by
  have h := g1.join g2
  rw [← P.eq, ← toNat_cut h1 h2] at h
  exact h
theorem Apart.nilR {own : List (Addr × Obj)} : Apart own [] := fun _ _ _ h => nomatch h
theorem Apart.same {own own' rest : List (Addr × Obj)} (a : Apart own rest) (e : own'.map (·.1) = own.map (·.1)) : Apart own' rest := fun p hp q hq => by
  have h1 : p.1 ∈ own.map (·.1) := e ▸ List.mem_map_of_mem hp
  obtain ⟨r, hr, e'⟩ := List.mem_map.mp h1
  exact fun h => a r hr q hq (h.trans e'.symm)
theorem shift_size {c n : Int} (hc : 0 ≤ c) (hc2 : c ≤ 4096) (hn : 1 ≤ n) (hn2 : n ≤ 10000) : 0 ≤ c * n ∧ c * n ≤ 40960000 :=
  ⟨Int.mul_nonneg hc (by (first | lia | omega)), Int.le_trans (Int.mul_le_mul hc2 hn2 (by (first | lia | omega)) (by (first | lia | omega))) (by decide)⟩
theorem news_pick {h₀ h : Heap} {L : Addr} {l : List (Addr × Obj)} (N : News h₀ L h l) (is : List Nat) : News h₀ L h (is.filterMap fun i => l[i]?) := fun p hp => by
  obtain ⟨i, _, e⟩ := List.mem_filterMap.mp hp
  exact N p (List.mem_of_getElem? e)
def ApartA (a b : List Nat) : Prop := ∀ x ∈ a, ∀ y ∈ b, y ≠ x
theorem Apart.byA {own rest : List (Addr × Obj)} (h : ApartA (own.map (·.1)) (rest.map (·.1))) : Apart own rest := fun _ hp _ hq => h _ (List.mem_map_of_mem hp) _ (List.mem_map_of_mem hq)
theorem apartA_nil {b : List Nat} : ApartA [] b := fun _ h => nomatch h
theorem apartA_cons {x : Nat} {a b : List Nat} (h : ∀ y ∈ b, y ≠ x) (t : ApartA a b) : ApartA (x :: a) b := fun z hz => by
  rcases List.mem_cons.mp hz with rfl | hz
  · exact h
  · exact t z hz
theorem ne_two {a b x : Nat} (h1 : a ≠ x) (h2 : b ≠ x) : ∀ y ∈ [a, b], y ≠ x := fun y hy => by
  rcases List.mem_cons.mp hy with rfl | hy
  · exact h1
  · rw [List.mem_singleton.mp hy]; exact h2
theorem ne_three {a b c x : Nat} (h1 : a ≠ x) (h2 : b ≠ x) (h3 : c ≠ x) : ∀ y ∈ [a, b, c], y ≠ x := fun y hy => by
  rcases List.mem_cons.mp hy with rfl | hy
  · exact h1
  · exact ne_two h2 h3 y hy
/-- the table of a def's made codes: empty, or the one inner def's code -/
def CodeHit (P line col : Nat) (qual : Str) (own : List (Addr × Obj)) : Prop :=
  ∃ (c' : Addr) (oc : Obj) (vs : Array Value) (t : Tok), own = [((P : Addr), tabObj #[rawInt line, rawInt col, .ref c']), (c', oc)] ∧ oc.data = .fields vs ∧ vs[1]? = some (.str qual t) ∧ @Ne Nat c' P
def CodeTab (P line col : Nat) (qual : Str) (own : List (Addr × Obj)) : Prop := own = [((P : Addr), tabObj #[])] ∨ CodeHit P line col qual own
theorem digits_fit {a n : Int} {k : Nat} (ha : 0 ≤ a) (hn : 1 ≤ n) (hk : ((Builtin.Int.intBits a : Int) + n - 1).fdiv n = k) : a < (2 ^ n.toNat) ^ k := by
  have h1 := natAbs_lt_pow_bits a
  rw [Int.fdiv_eq_ediv_of_nonneg _ (by (first | lia | omega))] at hk
  have h2 := Int.emod_def ((Builtin.Int.intBits a : Int) + n - 1) n
  have h3 := Int.emod_lt_of_pos ((Builtin.Int.intBits a : Int) + n - 1) (show 0 < n by (first | lia | omega))
  rw [hk] at h2
  obtain ⟨n, rfl⟩ := Int.eq_ofNat_of_zero_le (show 0 ≤ n by (first | lia | omega))
  have h4 : Builtin.Int.intBits a ≤ n * k := by
    have : (Builtin.Int.intBits a : Int) ≤ ((n * k : Nat) : Int) := by rw [Int.natCast_mul]; (first | lia | omega)
    (first | lia | omega)
  have h5 : a.natAbs < (2 ^ n) ^ k := by rw [← Nat.pow_mul]; exact Nat.lt_of_lt_of_le h1 (Nat.pow_le_pow_right (by decide) h4)
  have h6 : ((2 : Int) ^ (n : Int).toNat) ^ k = (((2 ^ n) ^ k : Nat) : Int) := by simp
  rw [h6]
  (first | lia | omega)
theorem digits_none {a n : Int} {k : Nat} (ha : a = 0) (hn : 1 ≤ n) (hk : ((Builtin.Int.intBits a : Int) + n - 1).fdiv n = k) : k = 0 := by
  subst ha
  rw [Int.fdiv_eq_ediv_of_nonneg _ (by (first | lia | omega)), show Builtin.Int.intBits 0 = 0 from rfl] at hk
  have := Int.ediv_lt_of_lt_mul (show 0 < n by (first | lia | omega)) (show ((0 : Nat) : Int) + n - 1 < 1 * n by (first | lia | omega))
  (first | lia | omega)
theorem digits_some {a n : Int} {k : Nat} (ha : a ≠ 0) (hn : 1 ≤ n) (hk : ((Builtin.Int.intBits a : Int) + n - 1).fdiv n = k) : 0 < k := by
  have h0 : Builtin.Int.intBits a ≠ 0 := fun e => by
    have := natAbs_lt_pow_bits a
    rw [e] at this
    (first | lia | omega)
  rw [Int.fdiv_eq_ediv_of_nonneg _ (by (first | lia | omega))] at hk
  have := Int.le_ediv_of_mul_le (show 0 < n by (first | lia | omega)) (show 1 * n ≤ (Builtin.Int.intBits a : Int) + n - 1 by (first | lia | omega))
  (first | lia | omega)
theorem digits_k {n1 k : Nat} (e : (n1 : Int) = ((0 + 1 : Nat) : Int) * (k : Int)) : ((n1 : Int) - 0).toNat = k := by (first | lia | omega)
theorem filled_all {ns ds : List Int} {n1 : Nat} (e : ns.length = n1) : filled ns 0 n1 ds = ds := by
  subst e
  simp [filled]
theorem group_b {h₀ h : Heap} {L : Addr} {f c' D l c1 c2 c3 P : Addr} {of oc oD ol o1 o2 o3 oP : Obj} (N : News h₀ L h [(D, oD), (f, of), (c', oc), (c1, o1), (c2, o2), (c3, o3), (l, ol), (P, oP)]) : News h₀ L h [(D, oD), (P, oP), (c', oc)] := news_pick N [0, 7, 2]
theorem zeros_none {v : Value} {x : Int} (k : Nat) (h : x = k) (hk : k = 0) : (List.replicate x.toNat [v]).flatten = [] := by
  subst hk h
  rfl
theorem group_h {h₀ h : Heap} {L : Addr} {f c' D l c1 c2 c3 P : Addr} {of oc oD ol o1 o2 o3 oP : Obj} (N : News h₀ L h [(f, of), (D, oD), (l, ol), (c1, o1), (c2, o2), (c3, o3), (P, oP), (c', oc)]) :
    News h₀ L h ([(D, oD), (f, of), (c', oc), (c1, o1), (c2, o2), (c3, o3)] ++ [(l, ol), (P, oP)]) := news_pick N [1, 0, 7, 3, 4, 5, 2, 6]
theorem group_hc {h₀ h : Heap} {L : Addr} {f c' D l c1 c2 c3 P : Addr} {of oc oD ol o1 o2 o3 oP : Obj} (N : News h₀ L h [(f, of), (D, oD), (l, ol), (c1, o1), (c2, o2), (c3, o3), (P, oP), (c', oc)]) : News h₀ L h [(D, oD), (P, oP), (c', oc)] := news_pick N [1, 6, 7]
end Mine
end
section
open PySem PySem.W PySem.Spec PySem.Calls PyProof.Rows
namespace Mine
theorem updF_app {P : Addr} {o : Obj} : ∀ {pre : List (Addr × Obj)}, (∀ p ∈ pre, p.1 ≠ P) → UpdF P o (pre ++ [(P, o)]) (fun o' => pre ++ [(P, o')])
  | [], _ => .head (fun _ h => nomatch h)
  | q :: _, h => .tail (h q (.head _)) (updF_app (fun p hp => h p (.tail _ hp)))
/-- a def within a def: its code made now, or found in the table; told alike -/
theorem nest_E {M : Model} {A : Around} {E : Value → Shared → Prop} {s : Shared} {h₀ : Heap} {L a c P : Addr} {m mg mb : Str → Option Value} {cn : Str} {cs : Scope} {ccd : Value} {cl : List (Str × Addr)}
    {p : Program} {loose : List Str} {mean : ExcName → Option Value} {name qual : Str} {params : Arguments} {body : List Stmt} {scope : Scope} {pos : Pos} {firstLine : Nat} {clos : List (Str × Addr)}
    {Q : Value → Shared → Prop} {pre : List (Addr × Obj)} {ps : Array Value} {cc : Addr} {oc : Obj} {line col : Nat} (F : Fr h₀ L s.heap m) (N : News h₀ L s.heap (pre ++ [(P, tabObj ps), (cc, oc)])) (T : Top p loose mean mg mb h₀) (C : CodeHd h₀ c P) (hcd : ccd = .ref c)
    (hW : ps = #[] ∨ ps = #[rawInt line, rawInt col, .ref cc] ∧ @Ne Nat cc P ∧ ∃ (vs : Array Value) (t : Tok), oc.data = .fields vs ∧ vs[1]? = some (.str qual t)) (hP : ∀ p ∈ pre, @Ne Nat p.1 P) (hcc : ∀ p ∈ pre, @Ne Nat p.1 cc)
    (hpos : pos.line = line ∧ pos.col = col)
    (ht : ∀ c', TriplesOk (#[rawInt line, rawInt col, .ref c']).toList) (hf : ∀ c', codeAmong pos (#[rawInt line, rawInt col, .ref c']).toList = some (.ref c'))
    (hcl : closureFor scope (envX cn cs L a ccd cl) = pure clos)
    (h : ∀ f c' oc vs t ctv doc h' tk, Fr h₀ L h' m → News h₀ L h' ((f, fnMade name qual params body scope clos doc ((mg "__name__").getD .none) c' ctv) :: (pre ++ [(P, tabObj #[rawInt line, rawInt col, .ref c']), (c', oc)])) →
      oc.data = .fields vs → vs[1]? = some (.str qual t) → @Ne Nat c' P → (∀ q ∈ pre, @Ne Nat q.1 c') → (∀ q ∈ pre, @LT.lt Nat _ q.1 f) → @LT.lt Nat _ P f → @LT.lt Nat _ c' f → Q (.ref f) { s with heap := h', toks := tk }) :
    wpAny M A (makeFunction name qual params (.stmts body) scope (envX cn cs L a ccd cl) [] [] [] pos firstLine) Q E s := by
  obtain ⟨rfl, rfl⟩ := hpos
  rcases hW with rfl | ⟨rfl, hcP, vs, t, hd, hv⟩
  · have N1 : News h₀ L s.heap (pre ++ [(P, tabObj #[])]) := fun q hq => N q ((List.mem_append.mp hq).elim (fun h => List.mem_append_left _ h) (fun h => List.mem_append_right _ ((List.mem_singleton.mp h) ▸ .head _)))
    refine nest_K F N1 T C hcd (updF_app hP) True.intro rfl hcl fun f c' oc' vs t ctv doc h' tk F' N' hd hv hlt hcf => ?_
    have hPc : P < c' := hlt (P, tabObj #[]) (List.mem_append_right _ (.head _))
    refine h f c' oc' vs t ctv doc h' tk F' (fun q hq => ?_) hd hv (Nat.ne_of_gt hPc) (fun q hq => Nat.ne_of_lt (hlt q (List.mem_append_left _ hq))) (fun q hq => Nat.lt_trans (hlt q (List.mem_append_left _ hq)) hcf) (Nat.lt_trans hPc hcf) hcf
    rcases List.mem_cons.mp hq with rfl | hq
    · exact N' _ (.head _)
    · rcases List.mem_append.mp hq with hq | hq
      · exact N' _ (.tail _ (.tail _ (List.mem_append_left _ hq)))
      · rcases List.mem_cons.mp hq with rfl | hq
        · exact N' _ (.tail _ (.tail _ (List.mem_append_right _ (.head _))))
        · exact N' _ ((List.mem_singleton.mp hq) ▸ .tail _ (.head _))
  · refine nestHit_K F N T C hcd (List.mem_append_right _ (.head _)) (ht cc) (hf cc) hcl fun f ctv doc h' tk F' N' hlt => ?_
    exact h f cc oc vs t ctv doc h' tk F' N' hd hv hcP hcc (fun q hq => hlt q (List.mem_append_left _ hq)) (hlt (P, _) (List.mem_append_right _ (.head _))) (hlt (cc, oc) (List.mem_append_right _ (.tail _ (.head _))))
end Mine
end
section
open PySem PySem.W PySem.Spec PySem.Calls PyProof.Rows
namespace Mine

def RetInner (D : Addr) (nn : Nat) (others : List (Addr × Obj)) (B : Int) (ns : List Int) (lo hi x : Int) (v : Value) (own' : List (Addr × Obj)) : Prop :=
  v = .none ∧ ∃ vs' ds, own' = (D, W.listOf vs'.toArray nn) :: others ∧ IntsAre vs' (filled ns lo hi ds) ∧ Digs B (hi - lo).toNat x ds

set_option pp.maxSteps 600 in
set_option maxHeartbeats 3000000 in
theorem con_inner (w : World) (ps : Arguments) (body : List Stmt) (sc : Scope) (hin : innerText 7 1 = some (ps, body, sc)) (qual : Str) (doc pm ctv : Value) (c' f D c1 c2 c3 : Addr) (oc o1 o2 o3 : Obj) (vsc : Array Value) (tq tn : Tok) (n : Int) (nn : Nat)
    (hn : 1 ≤ n) (hn2 : n ≤ 10000) (hd : oc.data = .fields vsc) (hv : vsc[1]? = some (.str qual tq)) (h1 : o1.data = .cell (some (.ref f))) (h2 : o2.data = .cell (some (.ref D))) (h3 : o3.data = .cell (some (.int n tn)))
    (a1 : @Ne Nat f D) (a2 : @Ne Nat c' D) (a3 : @Ne Nat c1 D) (a4 : @Ne Nat c2 D) (a5 : @Ne Nat c3 D) :
    ∀ (j : Nat) (x lo hi : Int) (vs : List Value) (ns : List Int) (t u v : Tok), IntsAre vs ns → ns.length ≤ 4096 → 0 ≤ lo → lo < hi → hi ≤ ns.length → hi - lo ≤ 2 ^ j → 0 ≤ x → Builtin.Int.intBits x ≤ 1000000 → x < (2 ^ n.toNat) ^ (hi - lo).toNat →
    ConT w f [.int x t, .int lo u, .int hi v] (j + 1) (8 * (j + 1)) [(D, W.listOf vs.toArray nn), (f, fnMade (Str.ofString "inner") qual ps body sc [(Str.ofString "n", c3), (Str.ofString "inner", c1), (Str.ofString "a_digits", c2)] doc pm c' ctv), (c', oc), (c1, o1), (c2, o2), (c3, o3)]
      (RetInner D nn [(f, fnMade (Str.ofString "inner") qual ps body sc [(Str.ofString "n", c3), (Str.ofString "inner", c1), (Str.ofString "a_digits", c2)] doc pm c' ctv), (c', oc), (c1, o1), (c2, o2), (c3, o3)] (2 ^ n.toNat) ns lo hi x) := by
  k_with_none
  w_top off
  k_with "small" => first | with_reducible exact Mine.room2 (by assumption) (by decide) | with_reducible exact Mine.room1 (by assumption) (by decide) | with_reducible exact Mine.room0 (by assumption) | decide +kernel
  k_with "binaryOp LShift int int" => ((with_reducible refine lshift_int ?lsA ?lsB ?_); (case lsA => k_extra "my size"); (case lsB => k_extra "my size"))
  k_with "call ref" => k_extra "my call"
  obtain ⟨ps', b', sc', e⟩ := text_7_1
  have hin' := hin
  rw [show innerText 7 1 = some (_, _, _) from rfl] at hin'
  simp only [Option.some.injEq, Prod.mk.injEq] at hin'
  obtain ⟨rfl, rfl, rfl⟩ := hin'
  clear hin e ps' b' sc'
  intro j
  induction j with
  | zero =>
    intro x lo hi vs ns t u v hvs hlen h0 hlt hhi hj hx0 hxb hxB
    have hj' : lo + 1 = hi := by omega
    unfold ConT
    k_fill
    intro dp un gd cn cs ac ccd cl outer A₀ base h₀ L m s Q E p loose mean mg mb rest B F X N Dj T hk hd' hu ret
    have codeHd : CodeHd h₀ 42 38 := codeHd_of_K (c := 42) (P := 38) (by assumption) (by kernel_rfl)
    refine wpAny_call ?_
    k_dflt (refine' code_nestR (own := [(D, W.listOf vs.toArray nn), (f, fnMade _ _ _ _ _ _ _ _ _ _), (c', oc), (c1, o1), (c2, o2), (c3, o3)]) (binds := [(Str.ofString "x", Value.int x t), (Str.ofString "L", Value.int lo u), (Str.ofString "R", Value.int hi v)]) ?k1 ?k2 ?k3 ?k4 ?kdis ?k5 ?kA ?kF ?kK ?k6 ?k7 ?k8 ?k9 ?kB ?_ ?c2 ?c3 ?c4 ?c5; ((case kA => exact rfl); (case kF => exact rfl); (case kK => assumption); (case k1 => k_asm); (case k2 => k_asm); (case k3 => k_asm); (case k4 => k_asm); (case kdis => exact Apart.notin (by assumption)); (case k5 => k_asm); (case k6 => k_mem); (case k7 => exact codeRec_news (by k_asm) (List.mem_append_left _ (by k_mem)) (by assumption) (by assumption)); (case k8 => ktr_room); (case k9 => exact BindsTo.of_eq rfl); (case c5 => decide); (case kB => exact locs rfl); (case c2 => exact rfl); (case c3 => exact rfl); (case c4 => exact rfl); k_whole; intro g' L' h' FG' F' N' B' X' T' LT' GR'; replace GR' := Kept.mk GR'; (try dsimp only [List.reverse_cons, List.reverse_nil, List.nil_append, List.cons_append, List.length_cons, List.length_nil] at *); (try k_lift B'); (try k_fold)))
    k_steps
    · (rename Rest _ _ => gR); (rename IntsAre _ _ => I9)
      rw [filled_one h0 hj' hhi] at I9
      have e1 : (hi - lo).toNat = 1 := by omega
      rw [e1, Int.pow_one] at hxB
      exact ret _ _ _ _ ⟨rfl, _, _, rfl, I9, e1 ▸ Digs.one hx0 hxB⟩ (Dj.same rfl) (by k_asm) (newsR (own := [_, _, _, _, _, _]) N gR (by assumption))
    · exact absurd hj' (by assumption)
  | succ j ih =>
    intro x lo hi vs ns t u v hvs hlen h0 hlt hhi hj hx0 hxb hxB
    have HM := fun hne => half_mid hlt hne hj
    have PP := fun hm : 0 ≤ (lo + hi).fdiv (2 ^ Int.toNat 1) - lo => parts hx0 (by omega : 0 ≤ n) hm
    have HS := fun hne => shift_size (c := (lo + hi).fdiv (2 ^ Int.toNat 1) - lo) (n := n) (by have := HM hne; omega) (by have := HM hne; omega) hn hn2
    k_with "my size" => (k_dflt (
      have hm := HM (by assumption)
      have pp := PP (by omega)
      have hs := HS (by assumption)
      have hb := low_bits hxb hx0 pp.u0 pp.ux
      omega))
    k_with "my call" => (k_dflt (
      (rename Fr _ _ _ _ => F9); (rename News _ _ _ _ => N9); (rename IntsAre _ _ => I9)
      have hm := HM (by assumption)
      have pp := PP (by omega)
      refine' ConT.use (rest := []) (ih _ _ _ _ _ _ _ _ I9 ?q1 ?q2 ?q3 ?q4 ?q5 ?q6 ?q7 ?q8) ?k1 ?k2 ?k3 N9 Apart.nilR ?k5 rfl ?kd ?ku ?_
      case q1 => first | assumption | (rw [filled_len h0 (by omega) (by omega) (by assumption)]; assumption)
      case q2 => omega
      case q3 => omega
      case q4 => first | omega | (rw [filled_len h0 (by omega) (by omega) (by assumption)]; omega)
      case q5 => omega
      case q6 => first | exact pp.u0 | exact pp.l0
      case q7 => first | exact low_bits hxb hx0 pp.u0 pp.ux | exact low_bits hxb hx0 pp.l0 pp.lx
      case q8 => first | exact pp.lB | exact pp.uB (by omega) (by rw [show (lo + hi).fdiv (2 ^ Int.toNat 1) - lo + (hi - (lo + hi).fdiv (2 ^ Int.toNat 1)) = hi - lo by omega]; exact hxB)
      case k1 => k_asm
      case k2 => k_asm
      case k3 => k_asm
      case k5 => k_asm
      case kd => ktr_room
      case ku => ktr_units
      clear F9 N9
      intro v' own' h' tk' hv' Dj' F' N'
      obtain ⟨hv0, vs', ds', ho', I', G'⟩ := hv'
      subst hv0 ho'
      simp only [List.append_nil] at N'
      have g9 := G'.len))
    unfold ConT
    k_fill
    intro dp un gd cn cs ac ccd cl outer A₀ base h₀ L m s Q E p loose mean mg mb rest B F X N Dj T hk hd' hu ret
    have codeHd : CodeHd h₀ 42 38 := codeHd_of_K (c := 42) (P := 38) (by assumption) (by kernel_rfl)
    refine wpAny_call ?_
    k_dflt (refine' code_nestR (own := [(D, W.listOf vs.toArray nn), (f, fnMade _ _ _ _ _ _ _ _ _ _), (c', oc), (c1, o1), (c2, o2), (c3, o3)]) (binds := [(Str.ofString "x", Value.int x t), (Str.ofString "L", Value.int lo u), (Str.ofString "R", Value.int hi v)]) ?k1 ?k2 ?k3 ?k4 ?kdis ?k5 ?kA ?kF ?kK ?k6 ?k7 ?k8 ?k9 ?kB ?_ ?c2 ?c3 ?c4 ?c5; ((case kA => exact rfl); (case kF => exact rfl); (case kK => assumption); (case k1 => k_asm); (case k2 => k_asm); (case k3 => k_asm); (case k4 => k_asm); (case kdis => exact Apart.notin (by assumption)); (case k5 => k_asm); (case k6 => k_mem); (case k7 => exact codeRec_news (by k_asm) (List.mem_append_left _ (by k_mem)) (by assumption) (by assumption)); (case k8 => ktr_room); (case k9 => exact BindsTo.of_eq rfl); (case c5 => decide); (case kB => exact locs rfl); (case c2 => exact rfl); (case c3 => exact rfl); (case c4 => exact rfl); k_whole; intro g' L' h' FG' F' N' B' X' T' LT' GR'; replace GR' := Kept.mk GR'; (try dsimp only [List.reverse_cons, List.reverse_nil, List.nil_append, List.cons_append, List.length_cons, List.length_nil] at *); (try k_lift B'); (try k_fold)))
    k_steps
    · (rename Rest _ _ => gR); (rename IntsAre _ _ => I9); (rename lo + 1 = hi => hj')
      rw [filled_one h0 hj' hhi] at I9
      have e1 : (hi - lo).toNat = 1 := by omega
      rw [e1, Int.pow_one] at hxB
      exact ret _ _ _ _ ⟨rfl, _, _, rfl, I9, e1 ▸ Digs.one hx0 hxB⟩ (Dj.same rfl) (by k_asm) (newsR (own := [_, _, _, _, _, _]) N gR (by assumption))
    · (rename Rest _ _ => gR); (rename IntsAre _ _ => I9); 
      have hm := HM (by assumption)
      have pp := PP (by omega)
      rw [filled_two h0 (by omega) (by omega) hhi (by assumption)] at I9
      exact ret _ _ _ _ ⟨rfl, _, _, rfl, I9, digs_two pp (by omega) (by omega) (by assumption) (by assumption)⟩ (Dj.same rfl) (by k_asm) (newsR (own := [_, _, _, _, _, _]) N gR (by assumption))
end Mine
end
section
open PySem PySem.W PySem.Spec PySem.Calls PyProof.Rows
namespace Mine
theorem five {x a b c d e : Addr} {o1 o2 o3 o4 o5 : Obj} (h1 : @Ne Nat a x) (h2 : @Ne Nat b x) (h3 : @Ne Nat c x) (h4 : @Ne Nat d x) (h5 : @Ne Nat e x) : ∀ p ∈ [(a, o1), (b, o2), (c, o3), (d, o4), (e, o5)], @Ne Nat p.1 x :=
  List.forall_mem_cons.mpr ⟨h1, List.forall_mem_cons.mpr ⟨h2, List.forall_mem_cons.mpr ⟨h3, List.forall_mem_cons.mpr ⟨h4, List.forall_mem_cons.mpr ⟨h5, fun _ h => nomatch h⟩⟩⟩⟩⟩

def qI2d : Str := Str.ofString "_int2digits.<locals>.inner"
abbrev tabA := CodeTab 38 46 4 qI2d
abbrev hitA := CodeHit 38 46 4 qI2d
def RetDigs (n : Int) (k : Nat) (a : Int) (Tab : List (Addr × Obj) → Prop) (v : Value) (own' : List (Addr × Obj)) : Prop :=
  ∃ (D : Addr) (vs : List Value) (ds : List Int) (nn : Nat) (tab : List (Addr × Obj)), v = .ref D ∧ own' = (D, W.listOf vs.toArray nn) :: tab ∧ Tab tab ∧ IntsAre vs ds ∧ Digs (2 ^ n.toNat) k a ds
set_option pp.maxSteps 600 in
set_option maxHeartbeats 3000000 in
theorem con_i2dW (w : World) (yA : Array Value) (cc : Addr) (oc : Obj) (hW : yA = #[] ∨ yA = #[rawInt 46, rawInt 4, .ref cc] ∧ @Ne Nat cc 38 ∧ ∃ (vs : Array Value) (t : Tok), oc.data = .fields vs ∧ vs[1]? = some (.str qI2d t)) (a n : Int) (t u : Tok) (ha : 0 ≤ a) (hab : Builtin.Int.intBits a ≤ 1000000) (hn : 1 ≤ n) (hn2 : n ≤ 10000) (k : Nat) (hk0 : ((Builtin.Int.intBits a : Int) + n - 1).fdiv n = k) (hk1 : k ≤ 4096) : ConT w 43 [.int a t, .int n u] 20 160 [(38, tabObj yA), (cc, oc)] (RetDigs n k a hitA) := by
  k_with_none
  w_top off
  k_with "small" => first | with_reducible exact Mine.room2 (by assumption) (by decide) | with_reducible exact Mine.room1 (by assumption) (by decide) | with_reducible exact Mine.room0 (by assumption) | decide +kernel | lia
  k_with "call ref" => k_extra "my call"
  k_with "my call" => (k_dflt (
    (rename Fr _ _ _ _ => F9); (rename News _ _ _ _ => N9); (rename IntsAre _ _ => I9)
    (rename (List.length _ = _) => e1); (rename (0 ≤ _ → _) => e3)
    rw [hk0] at e3
    have hk2 := digits_some (by assumption) hn hk0
    replace e3 := e3 (by omega)
    refine' ConT.use (con_inner w _ _ _ rfl _ _ _ _ _ _ _ _ _ _ _ _ _ _ _ _ _ _ _ hn hn2 ?d1 ?d2 ?d3 ?d4 ?d5 ?a1 ?a2 ?a3 ?a4 ?a5 12 _ _ _ _ _ _ _ _ I9 ?q1 (by omega) ?q3 ?q4 ?q5 ha hab ?q8) ?k1 ?k2 ?k3 (group_h N9) (Apart.byA ?ap) ?k5 rfl ?kd ?ku ?_
    case d1 => assumption
    case d2 => assumption
    case d3 => assumption
    case d4 => assumption
    case d5 => assumption
    case a1 => omega
    case a2 => omega
    case a3 => omega
    case a4 => omega
    case a5 => omega
    case q1 => rw [e1]; omega
    case q3 => omega
    case q4 => rw [e1]; exact Int.le_refl _
    case q5 => rw [show (2 : Int) ^ 12 = 4096 from rfl]; omega
    case q8 => rw [digits_k e3]; exact digits_fit ha hn hk0
    case ap => simp only [List.map_cons, List.map_nil]; exact apartA_cons (ne_two (by omega) (by omega)) (apartA_cons (ne_two (by omega) (by omega)) (apartA_cons (ne_two (by omega) (by omega)) (apartA_cons (ne_two (by omega) (by omega)) (apartA_cons (ne_two (by omega) (by omega)) (apartA_cons (ne_two (by omega) (by omega)) apartA_nil)))))
    case k1 => k_asm
    case k2 => k_asm
    case k3 => k_asm
    case k5 => k_asm
    case kd => ktr_room
    case ku => ktr_units
    clear F9 N9
    intro v' own' h' tk' hv' Dj' F' N'
    obtain ⟨hv0, vs', ds', ho', I', G'⟩ := hv'
    subst hv0 ho'
    simp only [List.cons_append, List.nil_append] at N'
    rw [filled_all e1] at I'
    rw [digits_k e3] at G'))
  k_with "exec FunctionDef" => (k_here; kn_here; k_dflt (refine' nestDef_K ?d0 ?k0 ?a0 ?_; (case d0 => exact rfl); (case k0 => exact rfl); (case a0 => exact rfl)); (rename Fr _ _ _ _ => F9); (rename News _ _ _ _ => N9); k_dflt (refine' nest_E (pre := [_, _, _, _, _]) (line := 46) (col := 4) F9 N9 ?eT ?eC ?ecd hW ?eP ?ecc ?epos ?et ?ef ?ecl ?_; (case eT => k_asm); (case ecd => exact rfl); (case eC => kn_code); (case eP => refine five ?_ ?_ ?_ ?_ ?_ <;> omega); (case ecc => refine five ?_ ?_ ?_ ?_ ?_ <;> omega); (case epos => exact ⟨rfl, rfl⟩); (case et => (intro _; kn_triples)); (case ef => (intro _; kn_hit)); (case ecl => exact rfl); k_whole); clear F9 N9; intro f' c' oc' vs' t' ct' dc' h' tk' F' N' d1' d2' e1' e2' l1 l2 l3; (try simp only [List.cons_append, List.nil_append] at N'); (simp only [List.mem_cons, List.not_mem_nil, or_false, forall_eq_or_imp, forall_eq] at e2' l1))
  unfold ConT
  k_fill
  intro dp un gd cn cs ac ccd cl outer A₀ base h₀ L m s Q E p loose mean mg mb rest B F X N Dj T hk hd hu ret
  refine wpAny_call ?_
  k_dflt (refine' code_defCR (own := [(38, tabObj yA), (cc, oc)]) (binds := [(Str.ofString "a", Value.int a t), (Str.ofString "n", Value.int n u)]) ?k1 ?k2 ?k3 ?k4 ?kdis ?k5 ?kA ?kF ?kK ?k6 ?k7 ?k8 ?k9 ?kB ?kD ?_ ?c2 ?c3 ?c4; ((case kA => exact rfl); (case kF => exact rfl); (case kK => assumption); (case k1 => k_asm); (case k2 => k_asm); (case k3 => k_asm); (case k4 => k_asm); (case kdis => first | exact Apart.notin (by assumption) | exact fun _ _ h => nomatch h); (case k5 => k_asm); (case k6 => k_is); (case k7 => k_is); (case k8 => ktr_room); (case k9 => exact BindsTo.of_eq rfl); (case kB => exact rfl); (case kD => decide +kernel); (case c2 => exact rfl); (case c3 => exact rfl); (case c4 => exact rfl); k_whole; intro g' L' h' tk' cells' FG' F' N' Y' B' X' T' LT' GR'; (have lt0' := ltN (LT' _ (List.mem_append_left _ List.mem_cons_self))); dsimp only at lt0'; replace GR' := Kept.mk GR'; k_cells Y'; (try simp only [List.cons_append, List.nil_append] at N'); (try dsimp only); (try k_lift B'); (try k_fold)))
  (rename (∀ p : Addr × Obj, p ∈ _ → _ < _) => LT9)
  have lt1 := ltN (LT9 (cc, oc) (by simp))
  clear LT9
  dsimp only at lt1
  have codeHd : CodeHd _ 42 38 := codeHd_of_K (c := 42) (P := 38) (by assumption) (by kernel_rfl)
  k_steps
  · (rename (_ = Data.fields _) => d1); (rename (_[1]? = _) => d2); (rename Rest _ _ => gR)
    refine' ret _ _ _ _ ?r (Apart.of (by assumption) (group_b (by assumption))) (by k_asm) (newsR (own := [_, _]) N gR (group_b (by assumption)))
    refine ⟨_, _, _, _, _, rfl, rfl, ⟨_, _, _, _, rfl, d1, d2.trans (by with_unfolding_all rfl), by assumption⟩, by assumption, by assumption⟩
  · (rename (_ = Data.fields _) => d1); (rename (_[1]? = _) => d2); (rename Rest _ _ => gR)
    refine' ret _ _ _ _ ?r2 (Apart.of (by assumption) (group_hc (by assumption))) (by k_asm) (newsR (own := [_, _]) N gR (group_hc (by assumption)))
    have e9 := digits_none (by assumption) hn hk0
    refine ⟨_, _, [], _, _, rfl, rfl, ⟨_, _, _, _, rfl, d1, d2.trans (by with_unfolding_all rfl), by assumption⟩, ?_, ?_⟩
    · rw [zeros_none k hk0 e9]; exact .nil
    · rename a = 0 => ha0
      subst e9 ha0
      exact ⟨rfl, (fun _ h => nomatch h), rfl⟩
theorem con_i2d (w : World) (a n : Int) (t u : Tok) (own : List (Addr × Obj)) (ho : tabA own) (ha : 0 ≤ a) (hab : Builtin.Int.intBits a ≤ 1000000) (hn : 1 ≤ n) (hn2 : n ≤ 10000) (k : Nat) (hk0 : ((Builtin.Int.intBits a : Int) + n - 1).fdiv n = k) (hk1 : k ≤ 4096) :
    ConT w 43 [.int a t, .int n u] 20 160 own (RetDigs n k a hitA) := by
  rcases ho with rfl | ⟨cc, oc, vsc, tq, rfl, h1, h2, h3⟩
  · exact (con_i2dW w #[] (38 : Nat) (tabObj #[]) (Or.inl rfl) a n t u ha hab hn hn2 k hk0 hk1).sub (fun p hp => (List.mem_cons.mp hp).elim (fun e => e ▸ List.mem_cons_self) id)
  · exact con_i2dW w _ cc oc (Or.inr ⟨rfl, h3, vsc, tq, h1, h2⟩) a n t u ha hab hn hn2 k hk0 hk1
end Mine
end
section
open PySem PySem.W PySem.Spec PySem.Calls PyProof.Rows
namespace Mine
def slice (ns : List Int) (lo hi : Int) : List Int := (ns.drop lo.toNat).take (hi - lo).toNat
theorem slice_len {ns : List Int} {lo hi : Int} (h0 : 0 ≤ lo) (h1 : lo ≤ hi) (h2 : hi ≤ ns.length) : (slice ns lo hi).length = (hi - lo).toNat := by
  rw [slice, List.length_take, List.length_drop]
  refine Nat.min_eq_left (Nat.le_sub_of_add_le ?_)
  rw [Nat.add_comm, toNat_up h0 h1]
  exact Int.toNat_le.mpr h2
theorem slice_one {ns : List Int} {lo hi B : Int} (h0 : 0 ≤ lo) (h1 : lo + 1 = hi) (h2 : hi ≤ ns.length) : ns.getD lo.toNat 0 = dval B (slice ns lo hi) := by
  have e : (hi - lo).toNat = 1 := by omega
  have hl : lo.toNat < ns.length := by omega
  rw [slice, e, List.drop_eq_getElem_cons hl, List.take_succ_cons, List.take_zero, dval, dval, Int.mul_zero, Int.add_zero, List.getD_eq_getElem?_getD, List.getElem?_eq_getElem hl]
  rfl
theorem slice_app {ns : List Int} {lo mid hi : Int} (h0 : 0 ≤ lo) (h1 : lo ≤ mid) (h2 : mid ≤ hi) : slice ns lo mid ++ slice ns mid hi = slice ns lo hi := by
  rw [slice, slice, slice, toNat_cut h1 h2, List.take_add, List.drop_drop, toNat_up h0 h1]
theorem slice_two {ns : List Int} {lo mid hi n : Int} (h0 : 0 ≤ lo) (h1 : lo ≤ mid) (h2 : mid ≤ hi) (h3 : hi ≤ ns.length) (hn : 0 ≤ n) :
    dval (2 ^ n.toNat) (slice ns mid hi) * 2 ^ ((mid - lo) * n).toNat + dval (2 ^ n.toNat) (slice ns lo mid) = dval (2 ^ n.toNat) (slice ns lo hi) := by
  rw [← slice_app h0 h1 h2, dval_append, slice_len h0 h1 (by omega), shift_pow (by omega) hn, Int.mul_comm, Int.add_comm]
theorem slice_all (ns : List Int) : slice ns 0 ns.length = ns := by
  rw [slice]
  simp
theorem dval_low {B : Int} (hB : 1 ≤ B) : ∀ ds : List Int, (∀ d ∈ ds, 0 ≤ d ∧ d < B) → 0 ≤ dval B ds ∧ dval B ds < B ^ ds.length := by
  intro ds
  induction ds with
  | nil => intro _; simp [dval]
  | cons d r ih =>
    intro h
    have h1 := h d List.mem_cons_self
    have h2 := ih fun e he => h e (List.mem_cons_of_mem _ he)
    have h3 : 0 ≤ B * dval B r := Int.mul_nonneg (by omega) h2.1
    have h4 : B * (dval B r + 1) ≤ B * B ^ r.length := Int.mul_le_mul_of_nonneg_left (by omega) (by omega)
    rw [dval, List.length_cons, Int.pow_succ, Int.mul_comm (B ^ r.length)]
    rw [Int.mul_add, Int.mul_one] at h4
    omega
theorem slice_bits {ns : List Int} {lo hi n : Int} (h0 : 0 ≤ lo) (h1 : lo ≤ hi) (h2 : hi ≤ ns.length) (h3 : ns.length ≤ 4096) (hn : 1 ≤ n) (hn2 : n ≤ 10000) (hlow : ∀ d ∈ ns, 0 ≤ d ∧ d < 2 ^ n.toNat) : (Builtin.Int.intBits (dval (2 ^ n.toNat) (slice ns lo hi)) : Int) ≤ 40960000 := by
  have hp := kbt_pos n.toNat
  have hd := dval_low (B := 2 ^ n.toNat) (by omega) (slice ns lo hi) fun d hd => hlow d (List.mem_of_mem_drop (List.mem_of_mem_take hd))
  rw [slice_len h0 h1 h2, ← Int.pow_mul] at hd
  have hb : Builtin.Int.intBits (dval (2 ^ n.toNat) (slice ns lo hi)) ≤ n.toNat * (hi - lo).toNat := intBits_le (by
    have e := kbt_cast (n.toNat * (hi - lo).toNat)
    omega)
  have hm : n.toNat * (hi - lo).toNat ≤ 10000 * 4096 := Nat.mul_le_mul (by omega) (by omega)
  omega
theorem ne_one {a x : Nat} (h1 : a ≠ x) : ∀ y ∈ [a], y ≠ x := fun y hy => by
  rw [List.mem_singleton.mp hy]; exact h1
section
variable {h₀ h : Heap} {L : Addr} {f c' G c1 c2 c3 P : Addr} {of oc oG o1 o2 o3 oP : Obj}
theorem group_dh (N : News h₀ L h [(f, of), (c1, o1), (c3, o3), (c2, o2), (G, oG), (P, oP), (c', oc)]) : News h₀ L h ([(G, oG), (f, of), (c', oc), (c1, o1), (c2, o2), (c3, o3)] ++ [(P, oP)]) := news_pick N [4, 0, 6, 1, 3, 2, 5]
theorem group_e (N : News h₀ L h [(G, oG), (f, of), (c', oc), (c1, o1), (c2, o2), (c3, o3), (P, oP)]) : News h₀ L h [(G, oG), (P, oP), (c', oc)] := news_pick N [0, 6, 2]
theorem group_fh (N : News h₀ L h [(f, of), (c1, o1), (c3, o3), (c2, o2), (G, oG), (P, oP), (c', oc)]) : News h₀ L h [(G, oG), (P, oP), (c', oc)] := news_pick N [4, 5, 6]
end
theorem group_qh {h₀ h : Heap} {L : Addr} {l D P c' T e : Addr} {ol oD oP oc oT oe : Obj} (N : News h₀ L h [(l, ol), (D, oD), (P, oP), (c', oc), (T, oT), (e, oe)]) : News h₀ L h ([(l, ol), (T, oT), (e, oe)] ++ [(D, oD), (P, oP), (c', oc)]) := news_pick N [0, 4, 5, 1, 2, 3]
theorem group_z {h₀ h : Heap} {L : Addr} {T l P c D q e : Addr} {oT ol oP oc oD oq oe : Obj} (N : News h₀ L h [(T, oT), (l, ol), (P, oP), (c, oc), (D, oD), (q, oq), (e, oe)]) : News h₀ L h [(T, oT), (q, oq), (e, oe), (P, oP), (c, oc)] := news_pick N [0, 5, 6, 2, 3]
end Mine
end
section
open PySem PySem.W PySem.Spec PySem.Calls PyProof.Rows
namespace Mine

theorem text_8_0 : ∃ ps b sc, innerText 8 0 = some (ps, b, sc) := ⟨_, _, _, rfl⟩
def RetSame (x : Int) (own : List (Addr × Obj)) (v : Value) (own' : List (Addr × Obj)) : Prop := (∃ t, v = .int x t) ∧ own' = own

set_option pp.maxSteps 600 in
set_option maxHeartbeats 3000000 in
theorem con_outer (w : World) (ps : Arguments) (body : List Stmt) (sc : Scope) (hin : innerText 8 0 = some (ps, body, sc)) (qual : Str) (doc pm ctv : Value) (c' f D c1 c2 c3 : Addr) (oc o1 o2 o3 : Obj) (vsc : Array Value) (tq tn : Tok) (n : Int) (nn : Nat)
    (hn : 1 ≤ n) (hn2 : n ≤ 10000) (hd : oc.data = .fields vsc) (hv : vsc[1]? = some (.str qual tq)) (h1 : o1.data = .cell (some (.ref f))) (h2 : o2.data = .cell (some (.ref D))) (h3 : o3.data = .cell (some (.int n tn)))
    (vs : List Value) (ns : List Int) (hvs : IntsAre vs ns) (hlen : ns.length ≤ 4096) (hlow : ∀ d ∈ ns, 0 ≤ d ∧ d < 2 ^ n.toNat) :
    ∀ (j : Nat) (lo hi : Int) (u v : Tok), 0 ≤ lo → lo < hi → hi ≤ ns.length → hi - lo ≤ 2 ^ j → 
    ConT w f [.int lo u, .int hi v] (j + 1) (8 * (j + 1)) [(D, W.listOf vs.toArray nn), (f, fnMade (Str.ofString "inner") qual ps body sc [(Str.ofString "n", c3), (Str.ofString "inner", c1), (Str.ofString "digits", c2)] doc pm c' ctv), (c', oc), (c1, o1), (c2, o2), (c3, o3)]
      (RetSame (dval (2 ^ n.toNat) (slice ns lo hi)) [(D, W.listOf vs.toArray nn), (f, fnMade (Str.ofString "inner") qual ps body sc [(Str.ofString "n", c3), (Str.ofString "inner", c1), (Str.ofString "digits", c2)] doc pm c' ctv), (c', oc), (c1, o1), (c2, o2), (c3, o3)]) := by
  k_with_none
  w_top off
  k_with "small" => first | with_reducible exact Mine.room2 (by assumption) (by decide) | with_reducible exact Mine.room1 (by assumption) (by decide) | with_reducible exact Mine.room0 (by assumption) | decide +kernel
  k_with "binaryOp LShift int int" => ((with_reducible refine lshift_int ?lsA ?lsB ?_); (case lsA => k_extra "my size"); (case lsB => k_extra "my size"))
  k_with "call ref" => k_extra "my call"
  obtain ⟨ps', b', sc', e⟩ := text_8_0
  have hin' := hin
  rw [show innerText 8 0 = some (_, _, _) from rfl] at hin'
  simp only [Option.some.injEq, Prod.mk.injEq] at hin'
  obtain ⟨rfl, rfl, rfl⟩ := hin'
  clear hin e ps' b' sc'
  intro j
  induction j with
  | zero =>
    intro lo hi u v h0 hlt hhi hj
    have hj' : lo + 1 = hi := by omega
    unfold ConT
    k_fill
    intro dp un gd cn cs ac ccd cl outer A₀ base h₀ L m s Q E p loose mean mg mb rest B F X N Dj T hk hd' hu ret
    have codeHd : CodeHd h₀ 49 45 := codeHd_of_K (c := 49) (P := 45) (by assumption) (by kernel_rfl)
    refine wpAny_call ?_
    k_dflt (refine' code_nestR (own := [(D, W.listOf vs.toArray nn), (f, fnMade _ _ _ _ _ _ _ _ _ _), (c', oc), (c1, o1), (c2, o2), (c3, o3)]) (binds := [(Str.ofString "L", Value.int lo u), (Str.ofString "R", Value.int hi v)]) ?k1 ?k2 ?k3 ?k4 ?kdis ?k5 ?kA ?kF ?kK ?k6 ?k7 ?k8 ?k9 ?kB ?_ ?c2 ?c3 ?c4 ?c5; ((case kA => exact rfl); (case kF => exact rfl); (case kK => assumption); (case k1 => k_asm); (case k2 => k_asm); (case k3 => k_asm); (case k4 => k_asm); (case kdis => exact Apart.notin (by assumption)); (case k5 => k_asm); (case k6 => k_mem); (case k7 => exact codeRec_news (by k_asm) (List.mem_append_left _ (by k_mem)) (by assumption) (by assumption)); (case k8 => ktr_room); (case k9 => exact BindsTo.of_eq rfl); (case c5 => decide); (case kB => exact locs rfl); (case c2 => exact rfl); (case c3 => exact rfl); (case c4 => exact rfl); k_whole; intro g' L' h' FG' F' N' B' X' T' LT' GR'; replace GR' := Kept.mk GR'; (try dsimp only [List.reverse_cons, List.reverse_nil, List.nil_append, List.cons_append, List.length_cons, List.length_nil] at *); (try k_lift B'); (try k_fold)))
    k_steps
    · (rename Rest _ _ => gR); (rename lo + 1 = hi => hj'')
      exact ret _ _ _ _ ⟨retI (slice_one h0 hj' hhi), rfl⟩ Dj (by k_asm) (newsR (own := [_, _, _, _, _, _]) N gR (by assumption))
    · exact absurd hj' (by assumption)
  | succ j ih =>
    intro lo hi u v h0 hlt hhi hj
    have HM := fun hne => half_mid hlt hne hj
    have HS := fun hne => shift_size (c := (lo + hi).fdiv (2 ^ Int.toNat 1) - lo) (n := n) (by have := HM hne; omega) (by have := HM hne; omega) hn hn2
    k_with "my size" => (k_dflt (
      have hm := HM (by assumption)
      have hs := HS (by assumption)
      have hb := slice_bits (ns := ns) (lo := (lo + hi).fdiv (2 ^ Int.toNat 1)) (hi := hi) (by omega) (by omega) hhi hlen hn hn2 hlow
      omega))
    k_with "my call" => (k_dflt (
      (rename Fr _ _ _ _ => F9); (rename News _ _ _ _ => N9)
      have hm := HM (by assumption)
      refine' ConT.use (rest := []) (ih _ _ _ _ ?q1 ?q2 ?q3 ?q4) ?k1 ?k2 ?k3 N9 Apart.nilR ?k5 rfl ?kd ?ku ?_
      case q1 => omega
      case q2 => omega
      case q3 => omega
      case q4 => omega
      case k1 => k_asm
      case k2 => k_asm
      case k3 => k_asm
      case k5 => k_asm
      case kd => ktr_room
      case ku => ktr_units
      clear F9 N9
      intro v' own' h' tk' hv' Dj' F' N'
      obtain ⟨⟨t', hv0⟩, ho'⟩ := hv'
      subst hv0 ho'
      simp only [List.append_nil] at N'))
    unfold ConT
    k_fill
    intro dp un gd cn cs ac ccd cl outer A₀ base h₀ L m s Q E p loose mean mg mb rest B F X N Dj T hk hd' hu ret
    have codeHd : CodeHd h₀ 49 45 := codeHd_of_K (c := 49) (P := 45) (by assumption) (by kernel_rfl)
    refine wpAny_call ?_
    k_dflt (refine' code_nestR (own := [(D, W.listOf vs.toArray nn), (f, fnMade _ _ _ _ _ _ _ _ _ _), (c', oc), (c1, o1), (c2, o2), (c3, o3)]) (binds := [(Str.ofString "L", Value.int lo u), (Str.ofString "R", Value.int hi v)]) ?k1 ?k2 ?k3 ?k4 ?kdis ?k5 ?kA ?kF ?kK ?k6 ?k7 ?k8 ?k9 ?kB ?_ ?c2 ?c3 ?c4 ?c5; ((case kA => exact rfl); (case kF => exact rfl); (case kK => assumption); (case k1 => k_asm); (case k2 => k_asm); (case k3 => k_asm); (case k4 => k_asm); (case kdis => exact Apart.notin (by assumption)); (case k5 => k_asm); (case k6 => k_mem); (case k7 => exact codeRec_news (by k_asm) (List.mem_append_left _ (by k_mem)) (by assumption) (by assumption)); (case k8 => ktr_room); (case k9 => exact BindsTo.of_eq rfl); (case c5 => decide); (case kB => exact locs rfl); (case c2 => exact rfl); (case c3 => exact rfl); (case c4 => exact rfl); k_whole; intro g' L' h' FG' F' N' B' X' T' LT' GR'; replace GR' := Kept.mk GR'; (try dsimp only [List.reverse_cons, List.reverse_nil, List.nil_append, List.cons_append, List.length_cons, List.length_nil] at *); (try k_lift B'); (try k_fold)))
    k_steps
    · (rename Rest _ _ => gR); (rename lo + 1 = hi => hj')
      exact ret _ _ _ _ ⟨retI (slice_one h0 hj' hhi), rfl⟩ Dj (by k_asm) (newsR (own := [_, _, _, _, _, _]) N gR (by assumption))
    · (rename Rest _ _ => gR)
      have hm := HM (by assumption)
      exact ret _ _ _ _ ⟨retI (slice_two h0 (by omega) (by omega) hhi (by omega)), rfl⟩ Dj (by k_asm) (newsR (own := [_, _, _, _, _, _]) N gR (by assumption))
end Mine
end
section
open PySem PySem.W PySem.Spec PySem.Calls PyProof.Rows
namespace Mine
theorem four_off {x a b c d : Addr} {o1 o2 o3 o4 : Obj} (h1 : @Ne Nat a x) (h2 : @Ne Nat b x) (h3 : @Ne Nat c x) (h4 : @Ne Nat d x) : ∀ p ∈ [(a, o1), (b, o2), (c, o3), (d, o4)], @Ne Nat p.1 x :=
  List.forall_mem_cons.mpr ⟨h1, List.forall_mem_cons.mpr ⟨h2, List.forall_mem_cons.mpr ⟨h3, List.forall_mem_cons.mpr ⟨h4, fun _ h => nomatch h⟩⟩⟩⟩

def qD2i : Str := Str.ofString "_digits2int.<locals>.inner"
abbrev tabB := CodeTab 45 61 4 qD2i
abbrev hitB := CodeHit 45 61 4 qD2i
def RetNum (x : Int) (own : List (Addr × Obj)) (Tab : List (Addr × Obj) → Prop) (v : Value) (own' : List (Addr × Obj)) : Prop := (∃ t, v = .int x t) ∧ ∃ tab, own' = own ++ tab ∧ Tab tab
set_option pp.maxSteps 600 in
set_option maxHeartbeats 3000000 in
theorem con_d2iE (w : World) (G : Addr) (yB : Array Value) (cc : Addr) (oc : Obj) (hW : yB = #[] ∨ yB = #[rawInt 61, rawInt 4, .ref cc] ∧ @Ne Nat cc 45 ∧ ∃ (vs : Array Value) (t : Tok), oc.data = .fields vs ∧ vs[1]? = some (.str qD2i t)) (hGc : @Ne Nat G cc) (vs : List Value) (ds : List Int) (nn : Nat) (n : Int) (u : Tok) (hGP : @Ne Nat G 45) (hvs : IntsAre vs ds) (hlen : ds.length ≤ 4096) (hn : 1 ≤ n) (hn2 : n ≤ 10000) (hlow : ∀ d ∈ ds, 0 ≤ d ∧ d < 2 ^ n.toNat) :
    ConT w 50 [.ref G, .int n u] 20 160 [(G, W.listOf vs.toArray nn), (45, tabObj yB), (cc, oc)] (RetNum (dval (2 ^ n.toNat) ds) [(G, W.listOf vs.toArray nn)] hitB) := by
  k_with_none
  w_top off
  k_with "small" => first | with_reducible exact Mine.room2 (by assumption) (by decide) | with_reducible exact Mine.room1 (by assumption) (by decide) | with_reducible exact Mine.room0 (by assumption) | decide +kernel | lia
  k_with "call ref" => k_extra "my call"
  k_with "my call" => (k_dflt (
    (rename Fr _ _ _ _ => F9); (rename News _ _ _ _ => N9)
    refine' ConT.use (con_outer w _ _ _ rfl _ _ _ _ _ _ _ _ _ _ _ _ _ _ _ _ _ _ _ hn hn2 ?d1 ?d2 ?d3 ?d4 ?d5 vs ds hvs hlen hlow 12 _ _ _ _ ?q2 ?q3 ?q4 ?q5) ?k1 ?k2 ?k3 (group_dh N9) (Apart.byA ?ap) ?k5 ?kK ?kd ?ku ?_
    case d1 => assumption
    case d2 => assumption
    case d3 => assumption
    case d4 => assumption
    case d5 => assumption
    case q2 => exact Int.le_refl _
    case q3 => omega
    case q4 => exact Int.le_refl _
    case q5 => rw [show (2 : Int) ^ 12 = 4096 from rfl]; omega
    case ap => simp only [List.map_cons, List.map_nil]; exact apartA_cons (ne_one (by omega)) (apartA_cons (ne_one (by omega)) (apartA_cons (ne_one (by omega)) (apartA_cons (ne_one (by omega)) (apartA_cons (ne_one (by omega)) (apartA_cons (ne_one (by omega)) apartA_nil)))))
    case k1 => k_asm
    case k2 => k_asm
    case k3 => k_asm
    case k5 => k_asm
    case kK => exact rfl
    case kd => ktr_room
    case ku => ktr_units
    clear F9 N9
    intro v' own' h' tk' hv' Dj' F' N'
    obtain ⟨⟨t', hv0⟩, ho'⟩ := hv'
    subst hv0 ho'
    simp only [List.cons_append, List.nil_append] at N'
    rw [slice_all]))
  k_with "exec FunctionDef" => (k_here; kn_here; k_dflt (refine' nestDef_K ?d0 ?k0 ?a0 ?_; (case d0 => exact rfl); (case k0 => exact rfl); (case a0 => exact rfl)); (rename Fr _ _ _ _ => F9); (rename News _ _ _ _ => N9); k_dflt (refine' nest_E (pre := [_, _, _, _]) (line := 61) (col := 4) F9 N9 ?eT ?eC ?ecd hW ?eP ?ecc ?epos ?et ?ef ?ecl ?_; (case eT => k_asm); (case ecd => exact rfl); (case eC => kn_code); (case eP => refine four_off ?_ ?_ ?_ ?_ <;> omega); (case ecc => refine four_off ?_ ?_ ?_ ?_ <;> omega); (case epos => exact ⟨rfl, rfl⟩); (case et => (intro _; kn_triples)); (case ef => (intro _; kn_hit)); (case ecl => exact rfl); k_whole); clear F9 N9; intro f' c' oc' vs' t' ct' dc' h' tk' F' N' d1' d2' e1' e2' l1 l2 l3; (try simp only [List.cons_append, List.nil_append] at N'); (simp only [List.mem_cons, List.not_mem_nil, or_false, forall_eq_or_imp, forall_eq] at e2' l1))
  unfold ConT
  k_fill
  intro dp un gd cn cs ac ccd cl outer A₀ base h₀ L m s Q E p loose mean mg mb rest B F X N Dj T hk hd hu ret
  refine wpAny_call ?_
  k_dflt (refine' code_defCR (own := [(G, W.listOf vs.toArray nn), (45, tabObj yB), (cc, oc)]) (binds := [(Str.ofString "digits", Value.ref G), (Str.ofString "n", Value.int n u)]) ?k1 ?k2 ?k3 ?k4 ?kdis ?k5 ?kA ?kF ?kK ?k6 ?k7 ?k8 ?k9 ?kB ?kD ?_ ?c2 ?c3 ?c4; ((case kA => exact rfl); (case kF => exact rfl); (case kK => assumption); (case k1 => k_asm); (case k2 => k_asm); (case k3 => k_asm); (case k4 => k_asm); (case kdis => first | exact Apart.notin (by assumption) | exact fun _ _ h => nomatch h); (case k5 => k_asm); (case k6 => k_is); (case k7 => k_is); (case k8 => ktr_room); (case k9 => exact BindsTo.of_eq rfl); (case kB => exact rfl); (case kD => decide +kernel); (case c2 => exact rfl); (case c3 => exact rfl); (case c4 => exact rfl); k_whole; intro g' L' h' tk' cells' FG' F' N' Y' B' X' T' LT' GR'; (have lt0' := ltN (LT' _ (List.mem_append_left _ List.mem_cons_self))); dsimp only at lt0'; replace GR' := Kept.mk GR'; k_cells Y'; (try simp only [List.cons_append, List.nil_append] at N'); (try dsimp only); (try k_lift B'); (try k_fold)))
  (rename (∀ p : Addr × Obj, p ∈ _ → _ < _) => LT9)
  have lt1 := ltN (LT9 ((45 : Addr), tabObj yB) (by simp))
  have lt2 := ltN (LT9 (cc, oc) (by simp))
  clear LT9
  dsimp only at lt1 lt2
  have codeHd : CodeHd _ 49 45 := codeHd_of_K (c := 49) (P := 45) (by assumption) (by kernel_rfl)
  k_steps
  · (rename (_ = Data.fields _) => d1); (rename (_[1]? = _) => d2); (rename Rest _ _ => gR)
    refine' ret _ _ _ _ ?r (Apart.of (by assumption) (group_e (by assumption))) (by k_asm) (newsR (own := [_, _, _]) N gR (group_e (by assumption)))
    refine ⟨⟨_, rfl⟩, _, rfl, ⟨_, _, _, _, rfl, d1, d2.trans (by with_unfolding_all rfl), by assumption⟩⟩
  · (rename (_ = Data.fields _) => d1); (rename (_[1]? = _) => d2); (rename Rest _ _ => gR)
    refine' ret _ _ _ _ ?r2 (Apart.of (by assumption) (group_fh (by assumption))) (by k_asm) (newsR (own := [_, _, _]) N gR (group_fh (by assumption)))
    have e9 : ds = [] := List.eq_nil_of_length_eq_zero (by omega)
    refine ⟨retI (by subst e9; rfl), _, rfl, ⟨_, _, _, _, rfl, d1, d2.trans (by with_unfolding_all rfl), by assumption⟩⟩
theorem con_d2i (w : World) (G : Addr) (vs : List Value) (ds : List Int) (nn : Nat) (n : Int) (u : Tok) (own : List (Addr × Obj)) (ho : tabB own) (hG : ∀ p ∈ own, @Ne Nat G p.1) (hvs : IntsAre vs ds) (hlen : ds.length ≤ 4096) (hn : 1 ≤ n) (hn2 : n ≤ 10000) (hlow : ∀ d ∈ ds, 0 ≤ d ∧ d < 2 ^ n.toNat) :
    ConT w 50 [.ref G, .int n u] 20 160 ((G, W.listOf vs.toArray nn) :: own) (RetNum (dval (2 ^ n.toNat) ds) [(G, W.listOf vs.toArray nn)] hitB) := by
  rcases ho with rfl | ⟨cc, oc, vsc, tq, rfl, h1, h2, h3⟩
  · exact (con_d2iE w G #[] (45 : Nat) (tabObj #[]) (Or.inl rfl) (hG _ List.mem_cons_self) vs ds nn n u (hG _ List.mem_cons_self) hvs hlen hn hn2 hlow).sub
      (fun p hp => (List.mem_cons.mp hp).elim (fun e => e ▸ List.mem_cons_self) (fun h => List.mem_cons_of_mem _ ((List.mem_cons.mp h).elim (fun e => e ▸ List.mem_cons_self) id)))
  · exact con_d2iE w G _ cc oc (Or.inr ⟨rfl, h3, vsc, tq, h1, h2⟩) (hG _ (List.mem_cons_of_mem _ List.mem_cons_self)) vs ds nn n u (hG _ List.mem_cons_self) hvs hlen hn hn2 hlow
end Mine
end
section
open PySem PySem.W PySem.Spec PySem.Calls PyProof.Rows
namespace Mine
section
variable {prog : Program} {w : World} {A : Around} {E : Value → Shared → Prop} {s : Shared} {env : Env} {h₀ : Heap} {x : Str} {body : List Stmt} {Q : Flow → Shared → Prop}
theorem unrPost_mono {L I : Addr} {s₁ s₂ : Shared} {it : Obj} {R R' : (Str → Option Value) → List (Addr × Obj) → Prop} {f : Flow} (h : ∀ m n, R m n → R' m n) (p : UnrPost h₀ L s₁ I it R Q f s₂) : UnrPost h₀ L s₁ I it R' Q f s₂ := by
  cases f with
  | ret v => exact p
  | brk => exact p
  | next => obtain ⟨h', tk, m', n', e, F, N, o, r⟩ := p; exact ⟨h', tk, m', n', e, F, N, o, h _ _ r⟩
  | cont => obtain ⟨h', tk, m', n', e, F, N, o, r⟩ := p; exact ⟨h', tk, m', n', e, F, N, o, h _ _ r⟩
/-- a loop over a list from its end, whatever its length: what stands in the ledger may change as it likes -/
theorem rev_rest {σ : Type} {I : Addr} {lp : Addr × Obj} {m₀ : Str → Option Value} (Led : σ → List (Addr × Obj)) (ps : σ → List (Str × Value)) (Facts : σ → Prop) (stored : List Str) (P : List Int → σ → Prop) (rs : List Int)
    (turn : ∀ (c : σ) (pre : List Int) (d : Int) (rest : List Int) (t : Tok) (u : Str → Option Value) (it : Obj) h tk, rs = pre ++ d :: rest → Facts c → P pre c → it.cls = .type "list_reverseiterator" →
      Fr h₀ env.locals h (fun y => if y = x then some (.int d t) else kstB (fun z => if stored.contains z then u z else m₀ z) (ps c) y) → News h₀ env.locals h ((I, it) :: Led c) →
      wpAny (model prog w) A (execs body env) (UnrPost h₀ env.locals { s with heap := h, toks := tk } I it (fun m' n' => lp ∈ n' ∧ KstS Led ps Facts x stored m₀ P (pre ++ [d]) m' n') Q) E { s with heap := h, toks := tk })
    (done : ∀ (c : σ) (u : Str → Option Value) h tk, Facts c → P rs c → Fr h₀ env.locals h (fun y => if y = x then u y else kstB (fun z => if stored.contains z then u z else m₀ z) (ps c) y) → News h₀ env.locals h (Led c) → Q .next { s with heap := h, toks := tk }) :
    ∀ (vs : List Value) (xs pre : List Int) (m : Str → Option Value) (news : List (Addr × Obj)), IntsAre vs xs → rs = pre ++ xs → KstS Led ps Facts x stored m₀ P pre m news → RevRest prog w A E h₀ env x body Q s I lp vs m news := by
  intro vs
  induction vs with
  | nil =>
    intro xs pre m news hv hr hk
    cases hv
    obtain ⟨c, rfl, hf, h1, h2, hp⟩ := hk
    refine RevRest.zero fun h tk F N => ?_
    rw [List.append_nil] at hr
    subst hr
    exact done c m h tk hf hp (kst_frOut h1 h2 F) N
  | cons v r ih =>
    intro xs pre m news hv hr hk
    cases hv with
    | cons d t hv =>
      rename_i ns
      obtain ⟨c, rfl, hf, h1, h2, hp⟩ := hk
      refine RevRest.succ fun it h tk hc F N => ?_
      refine wpAny_mono (turn c pre d ns t m it h tk hr hf hp hc (kst_fr h1 h2 F) N) (fun f s' p => unrPost_mono (fun m' n' q => ⟨q.1, ?_⟩) p) fun _ _ e => e
      exact ih _ _ m' n' hv (by rw [hr]; simp) q.2
end
theorem ints_rev {vs : List Value} {ns : List Int} (h : IntsAre vs ns) : IntsAre vs.reverse ns.reverse := by
  induction h with
  | nil => exact .nil
  | cons n t r ih =>
    rw [List.reverse_cons, List.reverse_cons]
    exact IntsAre.append ih (.cons n t .nil)
end Mine
end
section
open PySem PySem.W PySem.Spec PySem.Calls PyProof.Rows
namespace Mine
def vBE (B : Int) (l : List Int) : Int := dval B l.reverse
theorem vBE_snoc (B d : Int) (l : List Int) : vBE B (l ++ [d]) = d + B * vBE B l := by
  rw [vBE, List.reverse_append]
  rfl
structure DivInv (B b : Int) (pre : List Int) (r : Int) (qs : List Int) : Prop where
  r0 : 0 ≤ r
  rb : r < b
  len : qs.length = pre.length
  low : ∀ q ∈ qs, 0 ≤ q ∧ q < B
  val : vBE B pre = vBE B qs * b + r
theorem DivInv.start {B b : Int} (hb : 0 < b) : DivInv B b [] 0 [] := ⟨Int.le_refl _, hb, rfl, (fun _ h => nomatch h), by simp [vBE, dval]⟩
theorem DivInv.turn {B b r d : Int} {pre qs : List Int} (I : DivInv B b pre r qs) (d0 : 0 ≤ d) (dB : d < B) (hb : 0 < b) : DivInv B b (pre ++ [d]) ((r * B + d).fmod b) (qs ++ [(r * B + d).fdiv b]) := by
  have hx0 : 0 ≤ r * B := Int.mul_nonneg I.r0 (by (first | lia | omega))
  have hx1 : r * B ≤ (b - 1) * B := Int.mul_le_mul_of_nonneg_right (by have := I.rb; (first | lia | omega)) (by (first | lia | omega))
  rw [Int.fmod_eq_emod_of_nonneg _ (Int.le_of_lt hb), Int.fdiv_eq_ediv_of_nonneg _ (Int.le_of_lt hb)]
  have hdm := Int.mul_ediv_add_emod (r * B + d) b
  refine ⟨Int.emod_nonneg _ (by (first | lia | omega)), Int.emod_lt_of_pos _ hb, by rw [List.length_append, List.length_append, I.len]; rfl, fun q hq => ?_, ?_⟩
  · rcases List.mem_append.mp hq with hq | hq
    · exact I.low q hq
    · rw [List.mem_singleton.mp hq]
      refine ⟨Int.ediv_nonneg (by (first | lia | omega)) (Int.le_of_lt hb), Int.ediv_lt_of_lt_mul hb ?_⟩
      rw [Int.sub_mul, Int.one_mul] at hx1
      rw [Int.mul_comm B b]
      (first | lia | omega)
  · rw [vBE_snoc, vBE_snoc, I.val]
    grind
theorem DivInv.done {B b r a : Int} {k : Nat} {ds qs : List Int} (I : DivInv B b ds.reverse r qs) (D : Digs B k a ds) : dval B qs.reverse = a.fdiv b ∧ r = a.fmod b := by
  have h := I.val
  rw [vBE, vBE, List.reverse_reverse, D.val] at h
  have hb : 0 < b := by have := I.r0; have := I.rb; (first | lia | omega)
  rw [Int.fmod_eq_emod_of_nonneg _ (Int.le_of_lt hb), Int.fdiv_eq_ediv_of_nonneg _ (Int.le_of_lt hb)]
  have := kbt_unique hb (show r + b * dval B qs.reverse = a by rw [h, Int.mul_comm]; (first | lia | omega)) I.r0 I.rb
  exact ⟨this.1.symm, this.2.symm⟩
theorem bits_pos {b : Int} (hb : 0 < b) : 0 < Builtin.Int.intBits b := by
  have := natAbs_lt_pow_bits b
  rcases Nat.eq_zero_or_pos (Builtin.Int.intBits b) with h | h
  · rw [h] at this; (first | lia | omega)
  · exact h
theorem div_size {b r d : Int} (hb : 0 < b) (r0 : 0 ≤ r) (rb : r < b) (d0 : 0 ≤ d) (dB : d < 2 ^ ((Builtin.Int.intBits b : Int)).toNat) (h4 : Builtin.Int.intBits b ≤ 4000) : (Builtin.Int.intBits (r * 2 ^ ((Builtin.Int.intBits b : Int)).toNat + d) : Int) - (Builtin.Int.intBits b : Int) ≤ 4000 := by
  rw [Int.toNat_natCast] at dB ⊢
  have h1 := natAbs_lt_pow_bits b
  have e := kbt_cast (Builtin.Int.intBits b)
  have hp := kbt_pos (Builtin.Int.intBits b)
  have hx0 : 0 ≤ r * 2 ^ Builtin.Int.intBits b := Int.mul_nonneg r0 (by (first | lia | omega))
  have hx1 : r * 2 ^ Builtin.Int.intBits b ≤ (2 ^ Builtin.Int.intBits b - 1) * 2 ^ Builtin.Int.intBits b := Int.mul_le_mul_of_nonneg_right (by (first | lia | omega)) (by (first | lia | omega))
  have e2 := kbt_cast (Builtin.Int.intBits b + Builtin.Int.intBits b)
  have e3 : (2 : Int) ^ (Builtin.Int.intBits b + Builtin.Int.intBits b) = 2 ^ Builtin.Int.intBits b * 2 ^ Builtin.Int.intBits b := Int.pow_add ..
  rw [Int.sub_mul, Int.one_mul, ← e3] at hx1
  have := intBits_le (a := r * 2 ^ Builtin.Int.intBits b + d) (k := Builtin.Int.intBits b + Builtin.Int.intBits b) (by (first | lia | omega))
  (first | lia | omega)
theorem digits_few {a b : Int} (ha : Builtin.Int.intBits a ≤ 4000) (hb : 0 < b) : ∃ k : Nat, ((Builtin.Int.intBits a : Int) + (Builtin.Int.intBits b : Int) - 1).fdiv (Builtin.Int.intBits b : Int) = k ∧ k ≤ 4096 := by
  have hp := bits_pos hb
  have h0 : 0 ≤ ((Builtin.Int.intBits a : Int) + (Builtin.Int.intBits b : Int) - 1) / (Builtin.Int.intBits b : Int) := Int.ediv_nonneg (by (first | lia | omega)) (by (first | lia | omega))
  refine ⟨(((Builtin.Int.intBits a : Int) + (Builtin.Int.intBits b : Int) - 1) / (Builtin.Int.intBits b : Int)).toNat, ?_, ?_⟩
  · rw [Int.fdiv_eq_ediv_of_nonneg _ (by (first | lia | omega)), Int.toNat_of_nonneg h0]
  · have hm : (Builtin.Int.intBits a : Int) * 1 ≤ (Builtin.Int.intBits a : Int) * (Builtin.Int.intBits b : Int) := Int.mul_le_mul_of_nonneg_left (by (first | lia | omega)) (by (first | lia | omega))
    have : ((Builtin.Int.intBits a : Int) + (Builtin.Int.intBits b : Int) - 1) / (Builtin.Int.intBits b : Int) < (Builtin.Int.intBits a : Int) + 1 := Int.ediv_lt_of_lt_mul (by (first | lia | omega)) (by rw [Int.add_mul]; (first | lia | omega))
    (first | lia | omega)
theorem log2_small {b : Int} (hb : 0 < b) (h4 : Builtin.Int.intBits b ≤ 4000) : b.natAbs.log2 < 9000 := by
  have h1 := natAbs_lt_pow_bits b
  have : b.natAbs.log2 < Builtin.Int.intBits b := (Nat.log2_lt (by (first | lia | omega))).mpr h1
  (first | lia | omega)
theorem below_bits {r b : Int} (h0 : 0 ≤ r) (h : r < b) (h4 : Builtin.Int.intBits b ≤ 4000) : (Builtin.Int.intBits r : Int) + (Builtin.Int.intBits b : Int) ≤ 2 ^ 27 := by
  have := low_bits h4 (by (first | lia | omega)) h0 (Int.le_of_lt h)
  (first | lia | omega)
theorem rev_room {B b r : Int} {pre qs ds : List Int} {qvs : List Value} {k : Nat} {a : Int} (hq : IntsAre qvs qs) (I : DivInv B b pre r qs) (hp : pre = ds.reverse) (D : Digs B k a ds) (hk : k ≤ 4096) : qvs.toArray.toList.length ≤ sizeLine := by
  have h1 := IntsAre.length hq
  have h2 := I.len
  have h3 := D.len
  rw [hp, List.length_reverse] at h2
  have : (4096 : Nat) ≤ sizeLine := by decide
  show qvs.length ≤ sizeLine
  (first | lia | omega)
theorem turn_room {B b r d : Int} {pre qs ds rest : List Int} {qvs : List Value} {k : Nat} {a : Int} (hq : IntsAre qvs qs) (I : DivInv B b pre r qs) (hp : ds.reverse = pre ++ d :: rest) (D : Digs B k a ds) (hk : k ≤ 4096) : qvs.length ≤ 4096 := by
  have h1 := IntsAre.length hq
  have h2 := I.len
  have h3 := D.len
  have h4 := congrArg List.length hp
  rw [List.length_reverse, List.length_append] at h4
  (first | lia | omega)
theorem dm_not {a b : Int} (hb : 0 < b) : Builtin.bitNot ((Builtin.bitNot a).fdiv b) = a.fdiv b ∧ b + Builtin.bitNot ((Builtin.bitNot a).fmod b) = a.fmod b := by
  have e : ∀ a, Builtin.bitNot a = -a - 1 := fun _ => rfl
  rw [e a, e, e, Int.fmod_eq_emod_of_nonneg _ (Int.le_of_lt hb), Int.fmod_eq_emod_of_nonneg _ (Int.le_of_lt hb), Int.fdiv_eq_ediv_of_nonneg _ (Int.le_of_lt hb), Int.fdiv_eq_ediv_of_nonneg _ (Int.le_of_lt hb)]
  obtain ⟨h1, h2⟩ := kbt_below a hb
  rw [h1, h2]
  generalize (-a - 1) % b = y
  clear h1 h2
  refine ⟨rfl, ?_⟩
  (first | lia | omega)
theorem dm_neg {a b : Int} : (-a).fdiv (-b) = a.fdiv b ∧ -((-a).fmod (-b)) = a.fmod b := by
  refine ⟨Int.neg_fdiv_neg .., ?_⟩
  rw [Int.neg_fmod_neg, Int.neg_neg]
theorem bits_not {a : Int} (h : a < 0) {k : Nat} (hk : Builtin.Int.intBits a ≤ k) : Builtin.Int.intBits (Builtin.bitNot a) ≤ k := by
  have e : Builtin.bitNot a = -a - 1 := by unfold Builtin.bitNot; (first | lia | omega)
  have := natAbs_lt_pow_bits a
  refine intBits_le (Nat.lt_of_le_of_lt ?_ (Nat.lt_of_lt_of_le this (Nat.pow_le_pow_right (by decide) hk)))
  rw [e]
  (first | lia | omega)
theorem bits_neg {a : Int} {k : Nat} (hk : Builtin.Int.intBits a ≤ k) : Builtin.Int.intBits (-a) ≤ k := by
  refine intBits_le ?_
  rw [Int.natAbs_neg]
  exact Nat.lt_of_lt_of_le (natAbs_lt_pow_bits a) (Nat.pow_le_pow_right (by decide) hk)
end Mine
end
section
open PySem PySem.W PySem.Spec PySem.Calls PyProof.Rows
namespace Mine
def RetDiv (q r : Int) (v : Value) (own' : List (Addr × Obj)) : Prop :=
  ∃ (T : Addr) (t u : Tok) (ta tb : List (Addr × Obj)), v = .ref T ∧ own' = (T, pairObj q r t u) :: (ta ++ tb) ∧ hitA ta ∧ hitB tb ∧ Apart ta tb
theorem con_d2iW (w : World) (G : Addr) (vs : List Value) (ds : List Int) (nn : Nat) (n : Int) (u : Tok) (own : List (Addr × Obj)) (ho : Holding tabB own) (hG : ∀ p ∈ own, @Ne Nat G p.1) (hvs : IntsAre vs ds) (hlen : ds.length ≤ 4096) (hn : 1 ≤ n) (hn2 : n ≤ 10000) (hlow : ∀ d ∈ ds, 0 ≤ d ∧ d < 2 ^ n.toNat) :
    ConT w 50 [.ref G, .int n u] 20 160 ((G, W.listOf vs.toArray nn) :: own) (RetNum (dval (2 ^ n.toNat) ds) [(G, W.listOf vs.toArray nn)] hitB) := by
  obtain ⟨o, t, s⟩ := ho
  exact (con_d2i w G vs ds nn n u o t (fun p hp => hG p (s p hp)) hvs hlen hn hn2 hlow).sub (fun p hp => (List.mem_cons.mp hp).elim (fun e => e ▸ List.mem_cons_self) (fun h => List.mem_cons_of_mem _ (s p h)))
set_option pp.maxSteps 600 in
set_option maxHeartbeats 3000000 in
theorem con_divposW (w : World) (yB : Array Value) (cc : Addr) (occ : Obj) (hW : Holding tabB [(45, tabObj yB), (cc, occ)]) (a b : Int) (t u : Tok) (ha : 0 ≤ a) (hb : 0 < b) (hab : Builtin.Int.intBits a ≤ 4000) (hbb : Builtin.Int.intBits b ≤ 4000) (oa : List (Addr × Obj)) (hoa : tabA oa) (hap : Apart oa [(45, tabObj yB), (cc, occ)]) :
    ConT w 57 [.int a t, .int b u] 24 240 (oa ++ [(45, tabObj yB), (cc, occ)]) (RetDiv (a.fdiv b) (a.fmod b)) := by
  k_with_none
  w_top off
  k_with "small" => first | with_reducible exact Mine.room2 (by assumption) (by decide) | with_reducible exact Mine.room1 (by assumption) (by decide) | with_reducible exact Mine.room0 (by assumption) | decide +kernel | lia
  k_with "call ref" => first | k_extra "my 43" | k_extra "my 29" | k_extra "my 50"
  k_with "pyIter ref" => k_extra "my iter"
  k_with "UnrEnd" => k_extra "my end"
  k_with "binaryOp LShift int int" => ((with_reducible refine lshift_int ?lsA ?lsB ?_); (case lsA => k_extra "my size"); (case lsB => k_extra "my size"))
  k_with "call builtin:list.reverse" => (k_here; k_dflt (refine' kl_reverse ?F ?N rfl ?U ?z ?_; (case F => k_asm); (case N => k_asm); (case U => k_upd); (case z => k_extra "my room"); k_whole); intro h' F' N'; (try dsimp only at N'))
  obtain ⟨k, hk0, hk1⟩ := digits_few hab hb
  have hbp := bits_pos hb
  k_with "my 43" => (k_dflt (
    (rename Fr _ _ _ _ => F9); (rename News _ _ _ _ => N9)
    refine' ConT.use (con_i2d w a (Builtin.Int.intBits b) _ _ oa hoa ha (by omega) (by omega) (by omega) k hk0 hk1) ?k1 ?k2 ?k3 N9 hap ?k5 ?kK ?kd ?ku ?_
    case k1 => k_asm
    case k2 => k_asm
    case k3 => k_asm
    case k5 => k_asm
    case kK => exact rfl
    case kd => ktr_room
    case ku => ktr_units
    clear F9 N9
    intro v' own' h' tk' hv' Dj' F' N'
    obtain ⟨D, vs, ds, nn, tab, hv0, ho', ⟨cA, ocA, vsA, tA, htab, hA1, hA2, hA3⟩, hI, hD⟩ := hv'
    subst hv0 ho' htab
    simp only [List.cons_append, List.nil_append] at N'
    simp only [Apart, List.cons_append, List.nil_append, List.mem_cons, List.not_mem_nil, or_false, forall_eq_or_imp, forall_eq] at Dj'))
  k_with "my 50" => (k_dflt (
    (rename Fr _ _ _ _ => F9); (rename News _ _ _ _ => N9); (rename DivInv _ _ _ _ _ => I9); (rename IntsAre _ _ => Q9)
    have hR := rev_room (by assumption) I9 rfl hD hk1
    refine' ConT.use (con_d2iW w _ _ _ _ (Builtin.Int.intBits b) _ _ hW ?z0 (ints_rev Q9) ?z1 (by omega) (by omega) ?z2) ?k1 ?k2 ?k3 (group_qh N9) (Apart.byA ?ap) ?k5 ?kK ?kd ?ku ?_
    case z0 => exact List.forall_mem_cons.mpr ⟨by dsimp only; omega, List.forall_mem_cons.mpr ⟨by dsimp only; omega, List.forall_mem_nil _⟩⟩
    case z1 => rw [List.length_reverse, I9.len, List.length_reverse, hD.len]; exact hk1
    case z2 => intro d hd; exact I9.low d (List.mem_reverse.mp hd)
    case ap => simp only [List.map_cons, List.map_nil]; exact apartA_cons (ne_three (by omega) (by omega) (by omega)) (apartA_cons (ne_three (by omega) (by omega) (by omega)) (apartA_cons (ne_three (by omega) (by omega) (by omega)) apartA_nil))
    case k1 => k_asm
    case k2 => k_asm
    case k3 => k_asm
    case k5 => k_asm
    case kK => exact rfl
    case kd => ktr_room
    case ku => ktr_units
    clear F9 N9
    intro v' own' h' tk' hv' Dj' F' N'
    obtain ⟨⟨t9, hv0⟩, tab, ho', ⟨cB, ocB, vsB, tB, htab, hB1, hB2, hB3⟩⟩ := hv'
    subst hv0 ho' htab
    simp only [List.cons_append, List.nil_append] at N'
    simp only [Apart, List.cons_append, List.nil_append, List.mem_cons, List.not_mem_nil, or_false, forall_eq_or_imp, forall_eq] at Dj'))
  k_with "my 29" => (k_dflt (
    (rename Fr _ _ _ _ => F9); (rename News _ _ _ _ => N9); (rename DivInv _ _ _ _ _ => I9)
    refine' ConT.use (own := []) (con_2n1n w _ b _ _ _ _ (by omega) (div_size hb I9.r0 I9.rb kD0 kDB hbb) (log2_small hb hbb)) ?k1 ?k2 ?k3 N9 Apart.nil ?k5 ?kK ?kd ?ku ?_
    case k1 => k_asm
    case k2 => k_asm
    case k3 => k_asm
    case k5 => k_asm
    case kK => exact rfl
    case kd => ktr_room
    case ku => ktr_units
    clear F9 N9
    intro v' own' h' tk' hv' Dj' F' N'
    obtain ⟨T9, t9, u9, hv0, ho'⟩ := hv'
    subst hv0 ho'
    simp only [List.cons_append, List.nil_append] at N'
    simp only [Apart, List.cons_append, List.nil_append, List.mem_cons, List.not_mem_nil, or_false, forall_eq_or_imp, forall_eq] at Dj'))
  k_with "my end" => (k_dflt (
    (rename Fr _ _ _ _ => F9); (rename News _ _ _ _ => N9)
    simp only [List.push_toArray] at N9
    refine' UnrEnd.intro F9 N9 _ (fun p hp => List.mem_cons_of_mem _ hp) ?off ⟨?mem, ((r * 2 ^ ((Builtin.Int.intBits b : Int)).toNat + d).fmod b, u9, qvs ++ [.int ((r * 2 ^ ((Builtin.Int.intBits b : Int)).toNat + d).fdiv b) t9], qs ++ [(r * 2 ^ ((Builtin.Int.intBits b : Int)).toNat + d).fdiv b], nq + 1), rfl, IntsAre.append kFacts (.cons _ _ .nil), ?hk, ?hs, DivInv.turn (by assumption) kD0 kDB hb⟩
    case off => k_all
    case mem => k_mem
    case hk => intro p hp; rw [List.mem_singleton.mp hp]; exact if_pos rfl
    case hs => kst_same))
  k_with "my room" => exact rev_room (by assumption) (by assumption) rfl hD hk1
  k_with "my size" => first | omega | exact below_bits (DivInv.r0 (by assumption)) (DivInv.rb (by assumption)) hbb
  k_with "my iter" => (k_dflt (
    (rename Fr _ _ _ _ => F9); (rename News _ _ _ _ => N9)
    refine' iter_revUnr (lo := W.listOf vs.toArray nn) (vs := vs) (by rfl) F9 N9 (by k_offL) (by k_mem) (by rfl) (by rfl) ?_
    refine' rev_rest (σ := Int × Tok × List Value × List Int × Nat) (fun c => (_, W.listOf c.2.2.1.toArray c.2.2.2.2) :: _) (fun c => [(Str.ofString "r", .int c.1 c.2.1)]) (fun c => IntsAre c.2.2.1 c.2.2.2.1) [Str.ofString "q_digit"]
      (fun pre c => DivInv (2 ^ ((Builtin.Int.intBits b : Int)).toNat) b pre c.1 c.2.2.2.1) ds.reverse ?mTurn ?mDone vs.reverse ds.reverse [] _ _ (ints_rev hI) rfl ⟨(0, _, [], [], 0), rfl, .nil, ?mK, ?mS, DivInv.start hb⟩
    case mK => intro p hp; rw [List.mem_singleton.mp hp]; rfl
    case mS => intros; rfl
    case' mTurn =>
      clear F9 N9
      rintro ⟨r, tr, qvs, qs, nq⟩ pre d rest' td kU it kH kTk kEq kFacts kInv kCls kFr kNews
      ((try dsimp only [kstB] at kFr); (try dsimp only at kNews); (try dsimp only at kFacts); (try dsimp only at kInv); (try simp only [List.nil_append, List.cons_append, List.append_nil] at kNews); (try k_fold))
      have kMem : d ∈ ds := List.mem_reverse.mp (kEq ▸ List.mem_append_right _ List.mem_cons_self)
      obtain ⟨kD0, kDB⟩ := hD.low d kMem
      have hL := turn_room kFacts kInv kEq hD hk1
    case' mDone =>
      clear F9 N9
      rintro ⟨r, tr, qvs, qs, nq⟩ kU kH kTk kFacts kInv kFr kNews
      ((try dsimp only [kstB] at kFr); (try dsimp only at kNews); (try dsimp only at kFacts); (try dsimp only at kInv); (try simp only [List.nil_append, List.cons_append, List.append_nil] at kNews); (try k_fold))))
  unfold ConT
  k_fill
  intro dp un gd cn cs ac ccd cl outer A₀ base h₀ L m s Q E p loose mean mg mb rest B F X N Dj T hk hd hu ret
  refine wpAny_call ?_
  k_dflt (refine' code_defR (own := oa ++ [(45, tabObj yB), (cc, occ)]) (binds := [(Str.ofString "a", Value.int a t), (Str.ofString "b", Value.int b u)]) ?k1 ?k2 ?k3 ?k4 ?kdis ?k5 ?kA ?kF ?kK ?k6 ?k7 ?k8 ?k9 ?kB ?_ ?c2 ?c3 ?c4 ?c5; ((case kA => exact rfl); (case kF => exact rfl); (case kK => assumption); (case k1 => k_asm); (case k2 => k_asm); (case k3 => k_asm); (case k4 => k_asm); (case kdis => first | exact Apart.notin (by assumption) | exact fun _ _ h => nomatch h); (case k5 => k_asm); (case k6 => k_is); (case k7 => k_is); (case k8 => ktr_room); (case k9 => exact BindsTo.of_eq rfl); (case c5 => decide); (case kB => exact locs rfl); (case c2 => exact rfl); (case c3 => exact rfl); (case c4 => exact rfl); k_whole; intro g' L' h' FG' F' N' B' X' T' LT' GR'; replace GR' := Kept.mk GR'; (try dsimp only [List.reverse_cons, List.reverse_nil, List.nil_append, List.cons_append, List.length_cons, List.length_nil] at *); (try k_lift B'); (try k_fold)))
  k_steps
  · (rename Rest _ _ => gR); (rename DivInv _ _ _ _ _ => I9)
    obtain ⟨e1, e2⟩ := I9.done hD
    rw [← e1, ← e2] at ret
    refine' ret _ _ _ _ ?r (Apart.of (by assumption) (group_z (by assumption))) (by k_asm) (newsR N gR (group_z (by assumption)))
    refine ⟨_, _, _, [_, _], [_, _], rfl, rfl, ⟨_, _, _, _, rfl, hA1, hA2, hA3⟩, ⟨_, _, _, _, rfl, hB1, hB2, hB3⟩, Apart.byA ?_⟩
    simp only [List.map_cons, List.map_nil]
    exact apartA_cons (ne_two (by omega) (by omega)) (apartA_cons (ne_two (by omega) (by omega)) apartA_nil)
  -- HERE
theorem con_divpos (w : World) (a b : Int) (t u : Tok) (ha : 0 ≤ a) (hb : 0 < b) (hab : Builtin.Int.intBits a ≤ 4000) (hbb : Builtin.Int.intBits b ≤ 4000) (oa ob : List (Addr × Obj)) (hoa : tabA oa) (hob : tabB ob) (hap : Apart oa ob) :
    ConT w 57 [.int a t, .int b u] 24 240 (oa ++ ob) (RetDiv (a.fdiv b) (a.fmod b)) := by
  have tw : ∀ p ∈ [((45 : Addr), tabObj #[]), ((45 : Addr), tabObj #[])], p ∈ [((45 : Addr), tabObj #[])] := fun p hp => (List.mem_cons.mp hp).elim (fun e => e ▸ List.mem_cons_self) id
  rcases hob with rfl | ⟨cc, occ, vsc, tq, rfl, h1, h2, h3⟩
  · exact (con_divposW w #[] (45 : Nat) (tabObj #[]) ⟨_, Or.inl rfl, fun p hp => List.mem_cons_of_mem _ hp⟩ a b t u ha hb hab hbb oa hoa (fun p hp q hq => hap p hp q (tw q hq))).sub
      (fun p hp => (List.mem_append.mp hp).elim (fun h => List.mem_append_left _ h) (fun h => List.mem_append_right _ (tw p h)))
  · exact con_divposW w _ cc occ ⟨_, Or.inr ⟨cc, occ, vsc, tq, rfl, h1, h2, h3⟩, fun _ hp => hp⟩ a b t u ha hb hab hbb oa hoa hap
end Mine
end
section
open PySem PySem.W PySem.Spec PySem.Calls PyProof.Rows
namespace Mine
theorem news_drop2 {h₀ h : Heap} {L : Addr} {p q : Addr × Obj} {l : List (Addr × Obj)} (N : News h₀ L h (p :: q :: l)) : News h₀ L h (p :: l) := fun r hr => by
  rcases List.mem_cons.mp hr with rfl | hr
  · exact N _ List.mem_cons_self
  · exact N _ (List.mem_cons_of_mem _ (List.mem_cons_of_mem _ hr))
set_option pp.maxSteps 600 in
set_option maxHeartbeats 3000000 in
/-- int_divmod of 0 and up by a number above nought -/
theorem con_dm0 (w : World) (a b : Int) (t u : Tok) (ha : 0 ≤ a) (hb : 0 < b) (hab : Builtin.Int.intBits a ≤ 4000) (hbb : Builtin.Int.intBits b ≤ 4000) (oa ob : List (Addr × Obj)) (hoa : tabA oa) (hob : tabB ob) (hap : Apart oa ob) :
    ConT w 64 [.int a t, .int b u] 26 260 (oa ++ ob) (RetDiv (a.fdiv b) (a.fmod b)) := by
  k_with_none
  w_top off
  k_with "small" => first | with_reducible exact Mine.room2 (by assumption) (by decide) | with_reducible exact Mine.room1 (by assumption) (by decide) | with_reducible exact Mine.room0 (by assumption) | decide +kernel
  k_with "call ref" => k_extra "my call"
  k_with "my call" => (k_dflt (
    (rename Fr _ _ _ _ => F9); (rename News _ _ _ _ => N9)
    refine' ConT.use (rest := []) (con_divpos w a b _ _ ha hb hab hbb oa ob hoa hob hap) ?k1 ?k2 ?k3 ?kN Apart.nilR ?k5 ?kK ?kd ?ku ?_
    case kN => rw [List.append_nil]; exact N9
    case k1 => k_asm
    case k2 => k_asm
    case k3 => k_asm
    case k5 => k_asm
    case kK => exact rfl
    case kd => ktr_room
    case ku => ktr_units
    clear F9 N9
    intro v' own' h' tk' hv' Dj' F' N'
    obtain ⟨T9, t9, u9, ta, tb, hv0, ho', hta, htb, hab9⟩ := hv'
    subst hv0 ho'
    rw [List.append_nil] at N'))
  unfold ConT
  k_fill
  intro dp un gd cn cs ac ccd cl outer A₀ base h₀ L m s Q E p loose mean mg mb rest B F X N Dj T hk hd hu ret
  refine wpAny_call ?_
  k_dflt (refine' code_defR (own := oa ++ ob) (binds := [(Str.ofString "a", Value.int a t), (Str.ofString "b", Value.int b u)]) ?k1 ?k2 ?k3 ?k4 ?kdis ?k5 ?kA ?kF ?kK ?k6 ?k7 ?k8 ?k9 ?kB ?_ ?c2 ?c3 ?c4 ?c5; ((case kA => exact rfl); (case kF => exact rfl); (case kK => assumption); (case k1 => k_asm); (case k2 => k_asm); (case k3 => k_asm); (case k4 => k_asm); (case kdis => first | exact Apart.notin (by assumption) | exact fun _ _ h => nomatch h); (case k5 => k_asm); (case k6 => k_is); (case k7 => k_is); (case k8 => ktr_room); (case k9 => exact BindsTo.of_eq rfl); (case c5 => decide); (case kB => exact locs rfl); (case c2 => exact rfl); (case c3 => exact rfl); (case c4 => exact rfl); k_whole; intro g' L' h' FG' F' N' B' X' T' LT' GR'; replace GR' := Kept.mk GR'; (try dsimp only [List.reverse_cons, List.reverse_nil, List.nil_append, List.cons_append, List.length_cons, List.length_nil] at *); (try k_lift B'); (try k_fold)))
  k_steps
  · exact absurd (by assumption) (by omega)
  · (rename Rest _ _ => gR)
    exact ret _ _ _ _ ⟨_, _, _, _, _, rfl, rfl, by assumption, by assumption, by assumption⟩ (Apart.of (by assumption) (by assumption)) (by k_asm) (newsR N gR (by assumption))
set_option pp.maxSteps 600 in
set_option maxHeartbeats 3000000 in

theorem con_dm1 (w : World) (a b : Int) (t u : Tok) (ha : a < 0) (hb : 0 < b) (hab : Builtin.Int.intBits a ≤ 4000) (hbb : Builtin.Int.intBits b ≤ 4000) (oa ob : List (Addr × Obj)) (hoa : tabA oa) (hob : tabB ob) (hap : Apart oa ob) :
    ConT w 64 [.int a t, .int b u] 28 280 (oa ++ ob) (RetDiv (a.fdiv b) (a.fmod b)) := by
  k_with_none
  w_top off
  k_with "small" => first | with_reducible exact Mine.room2 (by assumption) (by decide) | with_reducible exact Mine.room1 (by assumption) (by decide) | with_reducible exact Mine.room0 (by assumption) | decide +kernel
  k_with "call ref" => k_extra "my call"
  k_with "my call" => (k_dflt (
    (rename Fr _ _ _ _ => F9); (rename News _ _ _ _ => N9)
    refine' ConT.use (rest := []) (con_dm0 w (Builtin.bitNot a) b _ _ (by unfold Builtin.bitNot; omega) hb (bits_not ha hab) hbb oa ob hoa hob hap) ?k1 ?k2 ?k3 ?kN Apart.nilR ?k5 ?kK ?kd ?ku ?_
    case kN => rw [List.append_nil]; exact N9
    case k1 => k_asm
    case k2 => k_asm
    case k3 => k_asm
    case k5 => k_asm
    case kK => exact rfl
    case kd => ktr_room
    case ku => ktr_units
    clear F9 N9
    intro v' own' h' tk' hv' Dj' F' N'
    obtain ⟨T9, t9, u9, ta, tb, hv0, ho', hta, htb, hab9⟩ := hv'
    subst hv0 ho'
    rw [List.append_nil] at N'))
  unfold ConT
  k_fill
  intro dp un gd cn cs ac ccd cl outer A₀ base h₀ L m s Q E p loose mean mg mb rest B F X N Dj T hk hd hu ret
  refine wpAny_call ?_
  k_dflt (refine' code_defR (own := oa ++ ob) (binds := [(Str.ofString "a", Value.int a t), (Str.ofString "b", Value.int b u)]) ?k1 ?k2 ?k3 ?k4 ?kdis ?k5 ?kA ?kF ?kK ?k6 ?k7 ?k8 ?k9 ?kB ?_ ?c2 ?c3 ?c4 ?c5; ((case kA => exact rfl); (case kF => exact rfl); (case kK => assumption); (case k1 => k_asm); (case k2 => k_asm); (case k3 => k_asm); (case k4 => k_asm); (case kdis => first | exact Apart.notin (by assumption) | exact fun _ _ h => nomatch h); (case k5 => k_asm); (case k6 => k_is); (case k7 => k_is); (case k8 => ktr_room); (case k9 => exact BindsTo.of_eq rfl); (case c5 => decide); (case kB => exact locs rfl); (case c2 => exact rfl); (case c3 => exact rfl); (case c4 => exact rfl); k_whole; intro g' L' h' FG' F' N' B' X' T' LT' GR'; replace GR' := Kept.mk GR'; (try dsimp only [List.reverse_cons, List.reverse_nil, List.nil_append, List.cons_append, List.length_cons, List.length_nil] at *); (try k_lift B'); (try k_fold)))
  k_steps
  · exact absurd (by assumption) (by omega)
  · (rename Rest _ _ => gR)
    obtain ⟨e1, e2⟩ := dm_not (a := a) hb
    rw [← e1, ← e2] at ret
    exact ret _ _ _ _ ⟨_, _, _, _, _, rfl, rfl, by assumption, by assumption, by assumption⟩ (Apart.of (by assumption) (news_drop2 (by assumption))) (by k_asm) (newsR N gR (news_drop2 (by assumption)))
theorem ConT.more {w : World} {f : Addr} {vs : List Value} {d d' u u' : Nat} {own : List (Addr × Obj)} {Ret : Value → List (Addr × Obj) → Prop} (C : ConT w f vs d u own Ret) (hd : d ≤ d') (hu : u ≤ u') : ConT w f vs d' u' own Ret :=
  fun _ _ _ _ _ _ _ _ _ _ _ _ _ _ _ _ _ _ _ _ _ _ _ B F X N D T hk h1 h2 ret => C _ _ _ _ _ _ _ _ _ _ _ _ _ _ _ _ _ _ _ _ _ _ _ B F X N D T hk (by omega) (by omega) ret
theorem con_dmp (w : World) (a b : Int) (t u : Tok) (hb : 0 < b) (hab : Builtin.Int.intBits a ≤ 4000) (hbb : Builtin.Int.intBits b ≤ 4000) (oa ob : List (Addr × Obj)) (hoa : tabA oa) (hob : tabB ob) (hap : Apart oa ob) :
    ConT w 64 [.int a t, .int b u] 28 280 (oa ++ ob) (RetDiv (a.fdiv b) (a.fmod b)) := by
  by_cases ha : 0 ≤ a
  · exact (con_dm0 w a b t u ha hb hab hbb oa ob hoa hob hap).more (by omega) (by omega)
  · exact con_dm1 w a b t u (by omega) hb hab hbb oa ob hoa hob hap
set_option pp.maxSteps 600 in
set_option maxHeartbeats 3000000 in

theorem con_dm2 (w : World) (a b : Int) (t u : Tok) (hb : b < 0) (hab : Builtin.Int.intBits a ≤ 4000) (hbb : Builtin.Int.intBits b ≤ 4000) (oa ob : List (Addr × Obj)) (hoa : tabA oa) (hob : tabB ob) (hap : Apart oa ob) :
    ConT w 64 [.int a t, .int b u] 30 300 (oa ++ ob) (RetDiv (a.fdiv b) (a.fmod b)) := by
  k_with_none
  w_top off
  k_with "small" => first | with_reducible exact Mine.room2 (by assumption) (by decide) | with_reducible exact Mine.room1 (by assumption) (by decide) | with_reducible exact Mine.room0 (by assumption) | decide +kernel
  k_with "call ref" => k_extra "my call"
  k_with "my call" => (k_dflt (
    (rename Fr _ _ _ _ => F9); (rename News _ _ _ _ => N9)
    refine' ConT.use (rest := []) (con_dmp w (-a) (-b) _ _ (by omega) (bits_neg hab) (bits_neg hbb) oa ob hoa hob hap) ?k1 ?k2 ?k3 ?kN Apart.nilR ?k5 ?kK ?kd ?ku ?_
    case kN => rw [List.append_nil]; exact N9
    case k1 => k_asm
    case k2 => k_asm
    case k3 => k_asm
    case k5 => k_asm
    case kK => exact rfl
    case kd => ktr_room
    case ku => ktr_units
    clear F9 N9
    intro v' own' h' tk' hv' Dj' F' N'
    obtain ⟨T9, t9, u9, ta, tb, hv0, ho', hta, htb, hab9⟩ := hv'
    subst hv0 ho'
    rw [List.append_nil] at N'))
  unfold ConT
  k_fill
  intro dp un gd cn cs ac ccd cl outer A₀ base h₀ L m s Q E p loose mean mg mb rest B F X N Dj T hk hd hu ret
  refine wpAny_call ?_
  k_dflt (refine' code_defR (own := oa ++ ob) (binds := [(Str.ofString "a", Value.int a t), (Str.ofString "b", Value.int b u)]) ?k1 ?k2 ?k3 ?k4 ?kdis ?k5 ?kA ?kF ?kK ?k6 ?k7 ?k8 ?k9 ?kB ?_ ?c2 ?c3 ?c4 ?c5; ((case kA => exact rfl); (case kF => exact rfl); (case kK => assumption); (case k1 => k_asm); (case k2 => k_asm); (case k3 => k_asm); (case k4 => k_asm); (case kdis => first | exact Apart.notin (by assumption) | exact fun _ _ h => nomatch h); (case k5 => k_asm); (case k6 => k_is); (case k7 => k_is); (case k8 => ktr_room); (case k9 => exact BindsTo.of_eq rfl); (case c5 => decide); (case kB => exact locs rfl); (case c2 => exact rfl); (case c3 => exact rfl); (case c4 => exact rfl); k_whole; intro g' L' h' FG' F' N' B' X' T' LT' GR'; replace GR' := Kept.mk GR'; (try dsimp only [List.reverse_cons, List.reverse_nil, List.nil_append, List.cons_append, List.length_cons, List.length_nil] at *); (try k_lift B'); (try k_fold)))
  k_steps
  · exact absurd (by assumption) (by omega)
  · (rename Rest _ _ => gR)
    obtain ⟨e1, e2⟩ := dm_neg (a := a) (b := b)
    rw [← e1, ← e2] at ret
    exact ret _ _ _ _ ⟨_, _, _, _, _, rfl, rfl, by assumption, by assumption, by assumption⟩ (Apart.of (by assumption) (news_drop2 (by assumption))) (by k_asm) (newsR N gR (news_drop2 (by assumption)))
theorem con_divmod (w : World) (a b : Int) (t u : Tok) (hb : b ≠ 0) (hab : Builtin.Int.intBits a ≤ 4000) (hbb : Builtin.Int.intBits b ≤ 4000) (oa ob : List (Addr × Obj)) (hoa : tabA oa) (hob : tabB ob) (hap : Apart oa ob) :
    ConT w 64 [.int a t, .int b u] 30 300 (oa ++ ob) (RetDiv (a.fdiv b) (a.fmod b)) := by
  by_cases h : 0 < b
  · exact (con_dmp w a b t u h hab hbb oa ob hoa hob hap).more (by omega) (by omega)
  · exact con_dm2 w a b t u (by omega) hab hbb oa ob hoa hob hap
end Mine
end
section
namespace Mine
/-- a row: each number is p times the one ahead of it less q times the one ahead of that -/
def luc (p q a b : Int) : Nat → Int
  | 0 => a
  | 1 => b
  | n + 2 => p * luc p q a b (n + 1) - q * luc p q a b n
section
variable {p q : Int}
theorem luc_two (a b : Int) (n : Nat) : luc p q a b (n + 2) = p * luc p q a b (n + 1) - q * luc p q a b n := rfl
theorem luc_V (n : Nat) : luc p q 2 p n = 2 * luc p q 0 1 (n + 1) - p * luc p q 0 1 n := by
  induction n using Nat.strongRecOn with
  | ind n ih =>
    match n with
    | 0 => simp [luc]
    | 1 => simp only [luc]; grind
    | n + 2 =>
      have h1 := ih n (by (first | lia | omega))
      have h2 := ih (n + 1) (by (first | lia | omega))
      rw [luc_two, h1, h2, luc_two 0 1 (n + 1), luc_two 0 1 n]
      grind
theorem luc_add (m n : Nat) : luc p q 0 1 (m + n + 1) = luc p q 0 1 (m + 1) * luc p q 0 1 (n + 1) - q * (luc p q 0 1 m * luc p q 0 1 n) := by
  induction n using Nat.strongRecOn with
  | ind n ih =>
    match n with
    | 0 => simp [luc]
    | 1 =>
      show luc p q 0 1 (m + 2) = _
      rw [luc_two]
      simp only [luc]
      grind
    | n + 2 =>
      have h1 := ih n (by (first | lia | omega))
      have h2 := ih (n + 1) (by (first | lia | omega))
      have e : m + (n + 2) + 1 = (m + n + 1) + 2 := by (first | lia | omega)
      have e2 : m + (n + 1) + 1 = m + n + 1 + 1 := by (first | lia | omega)
      rw [e, luc_two, ← e2, h1, h2, luc_two 0 1 (n + 1), luc_two 0 1 n]
      grind
theorem luc_sq (n : Nat) : luc p q 0 1 (n + 1) * luc p q 0 1 (n + 1) - p * (luc p q 0 1 n * luc p q 0 1 (n + 1)) + q * (luc p q 0 1 n * luc p q 0 1 n) = q ^ n := by
  induction n with
  | zero => simp [luc]
  | succ n ih =>
    rw [luc_two, Int.pow_succ, ← ih]
    grind
/-- the law of repetition, for all places -/
theorem luc_rep (b d : Nat) : luc p q 0 1 (b + d + b) + q ^ b * luc p q 0 1 d = luc p q 0 1 (b + d) * luc p q 2 p b := by
  induction d using Nat.strongRecOn with
  | ind d ih =>
    match d with
    | 0 =>
      cases b with
      | zero => simp [luc]
      | succ b =>
        have h := luc_add (p := p) (q := q) (b + 1) b
        rw [show b + 1 + 0 + (b + 1) = b + 1 + b + 1 by (first | lia | omega), h, luc_V, luc_two]
        simp only [luc, Nat.add_zero]
        grind
    | 1 =>
      have h := luc_add (p := p) (q := q) b b
      have h2 := luc_sq (p := p) (q := q) b
      rw [show b + 1 + b = b + b + 1 by (first | lia | omega), h, luc_V, ← h2]
      simp only [luc]
      grind
    | d + 2 =>
      have h1 := ih d (by (first | lia | omega))
      have h2 := ih (d + 1) (by (first | lia | omega))
      have e1 : b + (d + 2) + b = (b + d + b) + 2 := by (first | lia | omega)
      have e2 : b + (d + 1) + b = (b + d + b) + 1 := by (first | lia | omega)
      have e3 : b + (d + 2) = (b + d) + 2 := by (first | lia | omega)
      have e4 : b + (d + 1) = (b + d) + 1 := by (first | lia | omega)
      rw [e2, e4] at h2
      rw [e1, e3, luc_two, luc_two, luc_two]
      have h3 : p * (luc p q 0 1 (b + d + b + 1) + q ^ b * luc p q 0 1 (d + 1)) - q * (luc p q 0 1 (b + d + b) + q ^ b * luc p q 0 1 d) = p * (luc p q 0 1 (b + d + 1) * luc p q 2 p b) - q * (luc p q 0 1 (b + d) * luc p q 2 p b) := by rw [h1, h2]
      grind
theorem luc_repV (b d : Nat) : luc p q 2 p (b + d + b) + q ^ b * luc p q 2 p d = luc p q 2 p (b + d) * luc p q 2 p b := by
  have h1 := luc_rep (p := p) (q := q) b (d + 1)
  have h2 := luc_rep (p := p) (q := q) b d
  rw [show b + (d + 1) + b = b + d + b + 1 by (first | lia | omega), show b + (d + 1) = b + d + 1 by (first | lia | omega)] at h1
  rw [luc_V (b + d + b), luc_V d, luc_V (b + d)]
  have h3 : 2 * (luc p q 0 1 (b + d + b + 1) + q ^ b * luc p q 0 1 (d + 1)) - p * (luc p q 0 1 (b + d + b) + q ^ b * luc p q 0 1 d) = 2 * (luc p q 0 1 (b + d + 1) * luc p q 2 p b) - p * (luc p q 0 1 (b + d) * luc p q 2 p b) := by rw [h1, h2]
  grind
end
end Mine
end
section
open PySem PySem.W PySem.Spec PySem.Calls PyProof.Rows
namespace Mine
section
variable {M : Model} {A : Around} {E : Value → Shared → Prop} {s : Shared} {env : Env} {h₀ : Heap} {L : Addr} {m : Str → Option Value} {news : List (Addr × Obj)}
/-- one of two written ints, as a test says: the two ways joined -/
theorem ifx_join {test : Expr} {x y : Int} {px py pos : Pos} {k1 k2 : Nat} {c : Bool} {Q : Value → Shared → Prop} (_F : Fr h₀ L s.heap m) (_N : News h₀ L s.heap news)
    (hc : wpAny M A (isTrue test env (eval test env)) (fun k s₂ => KJoinC c h₀ L m news s k s₂) E s)
    (hk : ∀ (r : Int) (h' : Heap) (t tk : Tok), (c = true ∧ r = x) ∨ (c = false ∧ r = y) → Fr h₀ L h' m → News h₀ L h' news → Q (.int r t) { s with heap := h', toks := tk }) :
    wpAny M A (eval (.IfExp test (.Constant (.int x) k1 px) (.Constant (.int y) k2 py) pos) env) Q E s := by
  refine IfExp_ (wpAny_mono hc (fun k s₂ hkc => ?_) fun _ _ h => h)
  obtain ⟨hkc, h', tk, rfl, F, N⟩ := hkc
  subst hkc
  cases k with
  | true => exact wpAny_Constant_int (hk _ _ _ _ (Or.inl ⟨rfl, rfl⟩) F N)
  | false => exact wpAny_Constant_int (hk _ _ _ _ (Or.inr ⟨rfl, rfl⟩) F N)
end
end Mine
end
section
open PySem PySem.W PySem.Spec PySem.Calls PyProof.Rows
namespace Mine
/-- what the law draws from its cells -/
structure Start (p q : Int) (S C c : Nat) : Prop where
  qodd : q % 2 = 1
  qB : q.natAbs ≤ 2000000
  big : q.natAbs + 2 ≤ p.natAbs
  pB : p.natAbs ≤ 3000000
  c1 : 1 ≤ C
  c24 : C ≤ 24
  str : p % 2 = 0 ∧ S = 1 ∨ p % 2 = 1 ∧ S = 3
  sgn : 192 ≤ c
theorem Start.s1 {p q : Int} {S C c : Nat} (h : Start p q S C c) : 1 ≤ S ∧ S ≤ 3 := by
  have := h.str
  omega
theorem Start.sc {p q : Int} {S C c : Nat} (h : Start p q S C c) : 1 ≤ S * C ∧ S * C ≤ 72 := by
  have h1 := h.s1
  have h2 := h.c1
  have h3 := h.c24
  exact ⟨Nat.mul_pos h1.1 h2, Nat.mul_le_mul h1.2 h3⟩
theorem sc_int {st ct : Int} {S C : Nat} (h1 : st = S) (h2 : ct = C) : st * ct = ((S * C : Nat) : Int) := by
  rw [h1, h2]; simp
theorem abs_le {x : Int} {n : Nat} (h : x.natAbs ≤ n) : -(n : Int) ≤ x ∧ x ≤ n := by lia
theorem start_facts {p q st ct : Int} {S C c : Nat} (h : Start p q S C c) (h1 : st = S) (h2 : ct = C) : -3000000 ≤ p ∧ p ≤ 3000000 ∧ -2000000 ≤ q ∧ q ≤ 2000000 ∧ 1 ≤ st ∧ st ≤ 3 ∧ 1 ≤ ct ∧ ct ≤ 24 ∧ 1 ≤ st * ct ∧ st * ct ≤ 72 := by
  subst h1 h2
  exact ⟨(abs_le h.pB).1, (abs_le h.pB).2, (abs_le h.qB).1, (abs_le h.qB).2, Int.ofNat_le.mpr h.s1.1, Int.ofNat_le.mpr h.s1.2, Int.ofNat_le.mpr h.c1, Int.ofNat_le.mpr h.c24, Int.ofNat_le.mpr h.sc.1, Int.ofNat_le.mpr h.sc.2⟩
def absI (z : Int) : Int := if z < 0 then -z else z
theorem absI_nat (z : Int) : absI z = (z.natAbs : Int) := by
  unfold absI
  split <;> omega
theorem abs_sum {r : Int} {Q Z : Nat} {c : Prop} (hr : c ∧ r = -((Q : Int) + 2 + Z) ∨ ¬ c ∧ r = Q + 2 + Z) : r.natAbs = Q + 2 + Z := by
  rcases hr with ⟨_, rfl⟩ | ⟨_, rfl⟩
  · rw [Int.natAbs_neg]; rfl
  · rfl
theorem abs_mod (z : Int) (k : Nat) : (absI z).fmod k = ((z.natAbs % k : Nat) : Int) := by
  rw [absI_nat, Int.fmod_eq_emod_of_nonneg _ (Int.natCast_nonneg k)]
  rfl
theorem odd_one {z : Int} : (2 * z + 1) % 2 = 1 := by lia
theorem law_start {r st z0 z1 z2 z3 : Int} (a1 : -1000000 < z0) (a2 : z0 < 1000000) (b1 : -1000000 < z1) (b2 : z1 < 1000000)
    (hr : z0 < 0 ∧ r = -(absI (2 * z1 + 1) + 2 + absI z0) ∨ ¬ z0 < 0 ∧ r = absI (2 * z1 + 1) + 2 + absI z0)
    (ha : (r.fmod 2 == 0) = true ∧ st = 1 ∨ (r.fmod 2 == 0) = false ∧ st = 3) :
    Start r (2 * z1 + 1) st.toNat (1 + (absI z2).fmod 24).toNat (192 + (absI z3).fmod 50000).toNat ∧ st = (st.toNat : Int) ∧ 1 + (absI z2).fmod 24 = ((1 + (absI z2).fmod 24).toNat : Int) := by
  rw [absI_nat, absI_nat] at hr
  have hn := abs_sum hr
  have hq : (2 * z1 + 1).natAbs ≤ 1999999 := by clear a1 a2 ha hn hr; lia
  have hz : z0.natAbs ≤ 999999 := by clear b1 b2 ha hn hq hr; lia
  have hp : r.natAbs ≤ 3000000 := by rw [hn]; exact Nat.add_le_add (Nat.add_le_add_right hq 2) hz
  have hb : (2 * z1 + 1).natAbs + 2 ≤ r.natAbs := by rw [hn]; exact Nat.le_add_right ..
  have e24 : 1 + (absI z2).fmod 24 = ((1 + z2.natAbs % 24 : Nat) : Int) := by rw [show (24 : Int) = ((24 : Nat) : Int) from rfl, abs_mod]; rfl
  have e50 : 192 + (absI z3).fmod 50000 = ((192 + z3.natAbs % 50000 : Nat) : Int) := by rw [show (50000 : Int) = ((50000 : Nat) : Int) from rfl, abs_mod]; rfl
  have hs : (r % 2 = 0 ∧ st.toNat = 1 ∨ r % 2 = 1 ∧ st.toNat = 3) ∧ st = (st.toNat : Int) := by
    rw [fmod2] at ha
    rcases ha with ⟨h, rfl⟩ | ⟨h, rfl⟩
    · exact ⟨.inl ⟨eq_of_beq h, rfl⟩, rfl⟩
    · exact ⟨.inr ⟨(Int.emod_two_eq r).resolve_left (ne_of_beq_false h), rfl⟩, rfl⟩
  rw [e24, e50, Int.toNat_natCast, Int.toNat_natCast]
  exact ⟨⟨odd_one, Nat.le_trans hq (by decide), hb, hp, Nat.le_add_right .., Nat.add_le_add_left (Nat.le_of_lt_succ (Nat.mod_lt _ (by decide))) 1, hs.1, Nat.le_add_right ..⟩, hs.2, rfl⟩
theorem law_gen {g h : Heap} {L M T : Addr} {u1 u2 u3 u4 : Tok} {mm : Str → Option Value} {r st z0 z1 z2 z3 : Int} {t3 t4 t5 t6 t7 : Tok} {v0 : Option Value}
    (F : Fr g L h (fun y => if y = Str.ofString "mates" then some (.ref M) else if y = Str.ofString "terms" then some (.ref T) else if y = Str.ofString "stride" then some (.int st t3) else if y = Str.ofString "sign" then some (.str ⟨#[(192 + (if z3 < 0 then -z3 else z3).fmod 50000).toNat]⟩ t4)
      else if y = Str.ofString "count" then some (.int (1 + (if z2 < 0 then -z2 else z2).fmod 24) t5) else if y = Str.ofString "p" then some (.int r t6) else if y = Str.ofString "p" then v0 else if y = Str.ofString "q" then some (.int (2 * z1 + 1) t7) else mm y))
    (N : News g L h [(M, W.listOf #[.int 2 u1, .int r u2] 0), (T, W.listOf #[.int 0 u3, .int 1 u4] 0), (45, tabObj #[]), (38, tabObj #[])])
    (hr : z0 < 0 ∧ r = -((if 2 * z1 + 1 < 0 then -(2 * z1 + 1) else 2 * z1 + 1) + 2 + if z0 < 0 then -z0 else z0) ∨ ¬ z0 < 0 ∧ r = (if 2 * z1 + 1 < 0 then -(2 * z1 + 1) else 2 * z1 + 1) + 2 + if z0 < 0 then -z0 else z0)
    (a1 : -1000000 < z0) (a2 : z0 < 1000000) (b1 : -1000000 < z1) (b2 : z1 < 1000000)
    (ha : (r.fmod 2 == 0) = true ∧ st = 1 ∨ (r.fmod 2 == 0) = false ∧ st = 3) :
    ∃ (p q st ct : Int) (S C c : Nat) (t3 t4 t5 t6 t7 u1 u2 u3 u4 : Tok), Start p q S C c ∧ st = (S : Nat) ∧ ct = (C : Nat) ∧ News g L h [(M, W.listOf #[.int 2 u1, .int p u2] 0), (T, W.listOf #[.int 0 u3, .int 1 u4] 0), (45, tabObj #[]), (38, tabObj #[])] ∧ Fr g L h (fun y => if y = Str.ofString "mates" then some (.ref M) else if y = Str.ofString "terms" then some (.ref T) else if y = Str.ofString "stride" then some (.int st t3) else if y = Str.ofString "sign" then some (.str (signS c) t4)
      else if y = Str.ofString "count" then some (.int ct t5) else if y = Str.ofString "p" then some (.int p t6) else if y = Str.ofString "q" then some (.int q t7) else mm y) := by
  obtain ⟨h1, h2, h3⟩ := law_start (z2 := z2) (z3 := z3) a1 a2 b1 b2 hr ha
  refine ⟨r, _, st, _, _, _, _, t3, t4, t5, t6, t7, u1, u2, u3, u4, h1, h2, h3, N, ?_⟩
  have e : (fun y => if y = Str.ofString "mates" then some (Value.ref M) else if y = Str.ofString "terms" then some (.ref T) else if y = Str.ofString "stride" then some (.int st t3) else if y = Str.ofString "sign" then some (.str (signS (192 + (absI z3).fmod 50000).toNat) t4)
      else if y = Str.ofString "count" then some (.int (1 + (absI z2).fmod 24) t5) else if y = Str.ofString "p" then some (.int r t6) else if y = Str.ofString "q" then some (.int (2 * z1 + 1) t7) else mm y) =
     (fun y => if y = Str.ofString "mates" then some (.ref M) else if y = Str.ofString "terms" then some (.ref T) else if y = Str.ofString "stride" then some (.int st t3) else if y = Str.ofString "sign" then some (.str ⟨#[(192 + (if z3 < 0 then -z3 else z3).fmod 50000).toNat]⟩ t4)
      else if y = Str.ofString "count" then some (.int (1 + (if z2 < 0 then -z2 else z2).fmod 24) t5) else if y = Str.ofString "p" then some (.int r t6) else if y = Str.ofString "p" then v0 else if y = Str.ofString "q" then some (.int (2 * z1 + 1) t7) else mm y) := by
    funext y
    by_cases hy : y = Str.ofString "p"
    · simp only [hy, if_true]; rfl
    · simp only [hy, if_false]; rfl
  rw [e]
  exact F
theorem exTok2 {g h : Heap} {L M T : Addr} {v1 v2 : List Value} {a b : Int} {t u : Tok} {n1 n2 : Nat} {own : List (Addr × Obj)} (N : News g L h ((M, W.listOf (v1 ++ [Value.int a t]).toArray n1) :: (T, W.listOf (v2 ++ [Value.int b u]).toArray n2) :: own)) :
    ∃ t u, News g L h ((M, W.listOf (v1 ++ [Value.int a t]).toArray n1) :: (T, W.listOf (v2 ++ [Value.int b u]).toArray n2) :: own) := ⟨t, u, N⟩
def rowL (p q a b : Int) (n : Nat) : List Int := (List.range n).map (luc p q a b)
theorem rowL_len (p q a b : Int) (n : Nat) : (rowL p q a b n).length = n := by simp [rowL]
theorem rowL_get {p q a b : Int} {n i : Nat} (h : i < n) : (rowL p q a b n).getD i 0 = luc p q a b i := by
  simp [rowL, List.getD_eq_getElem?_getD, List.getElem?_map, List.getElem?_range h]
theorem rowL_succ (p q a b : Int) (n : Nat) : rowL p q a b (n + 2) ++ [p * luc p q a b (n + 1) - q * luc p q a b n] = rowL p q a b (n + 3) := by
  unfold rowL
  rw [List.range_succ (n := n + 2), List.map_append]
  rfl
theorem row_on {p q a b k : Int} {pre : List Int} {ns : List Int} (hk : k = 0 + (pre.length : Int)) (e : ns = rowL p q a b (pre.length + 2)) : ns ++ [p * ns.getD (k + 1).toNat 0 - q * ns.getD k.toNat 0] = rowL p q a b ((pre ++ [k]).length + 2) := by
  have e1 : (k + 1).toNat = pre.length + 1 := by omega
  have e2 : k.toNat = pre.length := by omega
  rw [e, e1, e2, rowL_get (by omega), rowL_get (by omega), rowL_succ, List.length_append]
  rfl
/-- the two rows, as they stand behind their loop -/
structure Rows (p q st : Int) (S C c : Nat) (nsM nsT : List Int) : Prop where
  start : Start p q S C c
  stS : st = S
  lM : nsM.length = S * C + 1
  lT : nsT.length = S * C + 1
  atM : ∀ i, i ≤ S * C → nsM.getD i 0 = luc p q 2 p i
  atT : ∀ i, i ≤ S * C → nsT.getD i 0 = luc p q 0 1 i
theorem Rows.of {p q st : Int} {S C c : Nat} {nsM nsT : List Int} (h : Start p q S C c) (hst : st = S) (eM : nsM = rowL p q 2 p ((rangeKs 0 (S * C - 1)).length + 2)) (eT : nsT = rowL p q 0 1 ((rangeKs 0 (S * C - 1)).length + 2)) : Rows p q st S C c nsM nsT := by
  have h1 := h.sc
  rw [rangeKs_length, show S * C - 1 + 2 = S * C + 1 by omega] at eM eT
  refine ⟨h, hst, by rw [eM, rowL_len], by rw [eT, rowL_len], fun i hi => ?_, fun i hi => ?_⟩
  · rw [eM, rowL_get (by omega)]
  · rw [eT, rowL_get (by omega)]
end Mine
end
section
open PySem PySem.W PySem.Spec PySem.Calls PyProof.Rows
namespace Mine
section
variable {p q : Int}
structure Big (p q : Int) : Prop where
  big : q.natAbs + 2 ≤ p.natAbs
  sum : p.natAbs + q.natAbs ≤ 2 ^ 23
theorem Start.toBig {S C c : Nat} (h : Start p q S C c) : Big p q := by
  exact ⟨h.big, Nat.le_trans (Nat.add_le_add h.pB h.qB) (by decide)⟩
/-- a step of a row: it grows, and not by more than so much -/
theorem abs_sub (a b : Int) : (a - b).natAbs ≤ a.natAbs + b.natAbs ∧ a.natAbs ≤ (a - b).natAbs + b.natAbs := by
  constructor
  · rw [← Int.natAbs_neg b, Int.sub_eq_add_neg]; exact Int.natAbs_add_le ..
  · have := Int.natAbs_add_le (a - b) b
    rwa [Int.sub_add_cancel] at this
theorem step_up {p q : Int} (h : Big p q) {x y : Int} (hxy : x.natAbs ≤ y.natAbs) : 2 * y.natAbs ≤ (p * y - q * x).natAbs ∧ (p * y - q * x).natAbs ≤ 2 ^ 23 * y.natAbs := by
  obtain ⟨h1, h2⟩ := abs_sub (p * y) (q * x)
  rw [Int.natAbs_mul, Int.natAbs_mul] at h1 h2
  have h3 : q.natAbs * x.natAbs ≤ q.natAbs * y.natAbs := Nat.mul_le_mul_left _ hxy
  have h4 : (q.natAbs + 2) * y.natAbs ≤ p.natAbs * y.natAbs := Nat.mul_le_mul_right _ h.big
  have h5 : (p.natAbs + q.natAbs) * y.natAbs ≤ 2 ^ 23 * y.natAbs := Nat.mul_le_mul_right _ h.sum
  rw [Nat.add_mul] at h4 h5
  exact ⟨Nat.le_of_add_le_add_left (Nat.le_trans h4 (Nat.le_trans h2 (Nat.add_comm .. ▸ Nat.add_le_add_right h3 _))), Nat.le_trans h1 (Nat.le_trans (Nat.add_le_add_left h3 _) h5)⟩
theorem luc_up (h : Big p q) {a b : Int} (h0 : a.natAbs ≤ b.natAbs) (n : Nat) : (luc p q a b n).natAbs ≤ (luc p q a b (n + 1)).natAbs := by
  induction n with
  | zero => exact h0
  | succ n ih =>
    have := (step_up h ih).1
    rw [← luc_two] at this
    show (luc p q a b (n + 1)).natAbs ≤ (luc p q a b (n + 2)).natAbs
    omega
theorem luc_grow (h : Big p q) {a b : Int} (h0 : a.natAbs ≤ b.natAbs) (n : Nat) : 2 ^ n * b.natAbs ≤ (luc p q a b (n + 1)).natAbs ∧ (luc p q a b (n + 1)).natAbs ≤ 2 ^ (23 * n) * b.natAbs := by
  induction n with
  | zero => simp [luc]
  | succ n ih =>
    have h1 := step_up h (luc_up h h0 n)
    rw [← luc_two] at h1
    have e1 : 2 ^ (n + 1) * b.natAbs = 2 * (2 ^ n * b.natAbs) := by rw [Nat.pow_succ]; grind
    have e2 : 2 ^ (23 * (n + 1)) * b.natAbs = 2 ^ 23 * (2 ^ (23 * n) * b.natAbs) := by rw [Nat.mul_succ, Nat.pow_add]; grind
    rw [e1, e2, show n + 1 + 1 = n + 2 from rfl]
    have h2 : 2 ^ 23 * (luc p q a b (n + 1)).natAbs ≤ 2 ^ 23 * (2 ^ (23 * n) * b.natAbs) := Nat.mul_le_mul_left _ ih.2
    omega
theorem pow_ge_one (n : Nat) : 1 ≤ 2 ^ n := Nat.pos_of_ne_zero (by simp)
theorem U_ge (h : Big p q) (n : Nat) : 2 ^ n ≤ (luc p q 0 1 (n + 1)).natAbs := by
  have := (luc_grow h (a := 0) (b := 1) (by decide) n).1
  simpa using this
theorem U_ne (h : Big p q) {n : Nat} (hn : 1 ≤ n) : luc p q 0 1 n ≠ 0 := by
  obtain ⟨n, rfl⟩ : ∃ k, n = k + 1 := ⟨n - 1, by omega⟩
  have h1 := U_ge h n
  have h2 := pow_ge_one n
  intro e
  rw [e] at h1
  simp at h1
theorem U_no (h : Big p q) {n : Nat} (hn : 1 ≤ n) : luc p q 0 1 n ≠ -1 := by
  obtain ⟨n, rfl⟩ : ∃ k, n = k + 1 := ⟨n - 1, by omega⟩
  cases n with
  | zero => simp [luc]
  | succ n =>
    have h1 := U_ge h (n + 1)
    have h2 := pow_ge_one n
    rw [Nat.pow_succ] at h1
    intro e
    rw [e] at h1
    simp at h1
    omega
theorem V_ne (h : Big p q) (n : Nat) : luc p q 2 p n ≠ 0 := by
  have hb := h.big
  cases n with
  | zero => simp [luc]
  | succ n =>
    have h1 := (luc_grow h (a := 2) (b := p) (by omega) n).1
    have h2 := pow_ge_one n
    have h3 : 1 * p.natAbs ≤ 2 ^ n * p.natAbs := Nat.mul_le_mul_right _ h2
    intro e
    rw [e] at h1
    simp only [Int.natAbs_zero] at h1
    omega
theorem luc_top (h : Big p q) {a b : Int} (h0 : a.natAbs ≤ b.natAbs) (hb : b.natAbs ≤ 2 ^ 23) {n k : Nat} (hn : n ≤ k) : (luc p q a b n).natAbs ≤ 2 ^ (23 * k + 23) := by
  have hp : ∀ j, j ≤ k → 2 ^ (23 * j) * b.natAbs ≤ 2 ^ (23 * k + 23) := fun j hj => by
    rw [Nat.pow_add]
    exact Nat.mul_le_mul (Nat.pow_le_pow_right (by decide) (by omega)) hb
  cases n with
  | zero =>
    have := hp 0 (by omega)
    simp only [luc, Nat.mul_zero, Nat.pow_zero, Nat.one_mul] at this ⊢
    omega
  | succ n =>
    have h1 := (luc_grow h h0 n).2
    have h2 := hp n (by omega)
    omega
end
theorem Rows.at_st {p q st : Int} {S C c : Nat} {nsM nsT : List Int} (h : Rows p q st S C c nsM nsT) : st.toNat = S ∧ S ≤ S * C := by
  have h1 := h.stS
  have h2 := h.start.c1
  exact ⟨by omega, Nat.le_mul_of_pos_right _ h2⟩
theorem Rows.facts {p q st : Int} {S C c : Nat} {nsM nsT : List Int} (h : Rows p q st S C c nsM nsT) : nsM.length = S * C + 1 ∧ nsT.length = S * C + 1 ∧ nsM.getD st.toNat 0 ≠ 0 ∧ nsT.getD st.toNat 0 ≠ 0 ∧ 0 ≤ st ∧ st < (nsM.length : Int) ∧ st < (nsT.length : Int) := by
  obtain ⟨e, h1⟩ := h.at_st
  have h2 := h.start.s1
  have h3 := h.stS
  have h4 := h.lM
  have h5 := h.lT
  rw [e]
  refine ⟨h4, h5, ?_, ?_, by omega, by omega, by omega⟩
  · rw [h.atM _ h1]; exact V_ne h.start.toBig _
  · rw [h.atT _ h1]; exact U_ne h.start.toBig h2.1
end Mine
end
section
open PySem PySem.W PySem.Spec PySem.Calls PyProof.Rows
namespace Mine
/-- x is 2 to the k times an odd number -/
def Tw (k : Nat) (x : Int) : Prop := ∃ m : Int, m % 2 = 1 ∧ x = 2 ^ k * m
theorem Tw.ne {k : Nat} {x : Int} (h : Tw k x) : x ≠ 0 := by
  obtain ⟨m, hm, rfl⟩ := h
  have h2 : (2 : Int) ^ k ≠ 0 := Int.ne_of_gt (Int.pow_pos (by decide))
  exact Int.mul_ne_zero h2 (by (first | lia | omega))
theorem Tw.v2 {k : Nat} {x : Int} (h : Tw k x) : v2 x = k := by
  obtain ⟨m, hm, rfl⟩ := h
  induction k with
  | zero => rw [Int.pow_zero, Int.one_mul]; exact v2_odd (by (first | lia | omega)) (by (first | lia | omega))
  | succ k ih =>
    have h1 : (2 : Int) ^ (k + 1) * m = 2 * (2 ^ k * m) := by rw [Int.pow_succ]; grind
    have h2 : (2 : Int) ^ k * m ≠ 0 := Tw.ne ⟨m, hm, rfl⟩
    rw [h1, v2_even (by (first | lia | omega)) (by (first | lia | omega)), Int.mul_ediv_cancel_left _ (by decide), ih]
theorem tw_of : ∀ (n : Nat) (x : Int), x.natAbs ≤ n → x ≠ 0 → Tw (v2 x) x := by
  intro n
  induction n with
  | zero => exact fun x h h0 => absurd (Int.natAbs_eq_zero.mp (Nat.le_zero.mp h)) h0
  | succ n ih =>
    intro x h h0
    by_cases e : x % 2 = 0
    · obtain ⟨y, rfl⟩ := Int.dvd_of_emod_eq_zero e
      rw [Int.natAbs_mul] at h
      have hy : 2 * y.natAbs ≤ n + 1 := h
      obtain ⟨m, hm, hx⟩ := ih y (by clear ih h e h0; (first | lia | omega)) (fun h => h0 (by rw [h]; rfl))
      rw [v2_even h0 e, Int.mul_ediv_cancel_left _ (by decide)]
      refine ⟨m, hm, ?_⟩
      have h1 : (2 : Int) ^ (v2 y + 1) * m = 2 * (2 ^ v2 y * m) := by rw [Int.pow_succ]; grind
      rw [h1, ← hx]
    · rw [v2_odd h0 e]
      exact ⟨x, (Int.emod_two_eq x).resolve_left e, by simp⟩
theorem Tw.of {x : Int} (h : x ≠ 0) : Tw (Mine.v2 x) x := tw_of _ x (Nat.le_refl _) h
theorem Tw.mul {j k : Nat} {x y : Int} (h1 : Tw j x) (h2 : Tw k y) : Tw (j + k) (x * y) := by
  obtain ⟨m, hm, rfl⟩ := h1
  obtain ⟨n, hn, rfl⟩ := h2
  refine ⟨m * n, ?_, by rw [Int.pow_add]; grind⟩
  rw [Int.mul_emod, hm, hn]
  rfl
theorem Tw.odd {q : Int} (h : q % 2 = 1) : Tw 0 q := ⟨q, h, by simp⟩
theorem odd_pow {q : Int} (h : q % 2 = 1) (n : Nat) : q ^ n % 2 = 1 := by
  induction n with
  | zero => rw [Int.pow_zero]; rfl
  | succ n ih => rw [Int.pow_succ, Int.mul_emod, ih, h]; rfl
theorem Tw.neg {k : Nat} {x : Int} (h : Tw k x) : Tw k (-x) := by
  obtain ⟨m, hm, rfl⟩ := h
  exact ⟨-m, by (first | lia | omega), by rw [Int.mul_neg]⟩
theorem v2_abs {x : Int} (h : x ≠ 0) : v2 (absI x) = v2 x := by
  unfold absI
  split
  · exact (Tw.neg (Tw.of h)).v2
  · rfl
theorem sub_odd {x y : Int} (hx : x % 2 = 0) (hy : y % 2 = 1) : (x - y) % 2 = 1 := by lia
theorem sub_even {x y : Int} (hx : x % 2 = 0) (hy : y % 2 = 0) : (x - y) % 2 = 0 := by lia
theorem mul_odd {x y : Int} (hx : x % 2 = 1) (hy : y % 2 = 1) : x * y % 2 = 1 := by rw [Int.mul_emod, hx, hy]; rfl
theorem mul_even {x y : Int} (hx : x % 2 = 0) : x * y % 2 = 0 := by rw [Int.mul_emod, hx, Int.zero_mul]; rfl
theorem even_two (x : Int) : 2 * x % 2 = 0 := Int.mul_emod_right ..
section
variable {p q : Int} {s : Nat}
/-- over strides: the rows' own law -/
theorem V_stride (k : Nat) : luc p q 2 p (s * (k + 2)) = luc p q 2 p s * luc p q 2 p (s * (k + 1)) - q ^ s * luc p q 2 p (s * k) := by
  have h := luc_repV (p := p) (q := q) s (s * k)
  rw [show s + s * k + s = s * (k + 2) by grind, show s + s * k = s * (k + 1) by grind] at h
  rw [Int.mul_comm (luc p q 2 p s), ← h]
  (first | lia | omega)
theorem U_stride (k : Nat) : luc p q 0 1 (s * (k + 2)) = luc p q 2 p s * luc p q 0 1 (s * (k + 1)) - q ^ s * luc p q 0 1 (s * k) := by
  have h := luc_rep (p := p) (q := q) s (s * k)
  rw [show s + s * k + s = s * (k + 2) by grind, show s + s * k = s * (k + 1) by grind] at h
  rw [Int.mul_comm (luc p q 2 p s), ← h]
  (first | lia | omega)
/-- V at k strides: 2 times an odd number where k is even, V at one stride times an odd number where k is odd -/
theorem V_forms (hq : q % 2 = 1) (hV : luc p q 2 p s % 2 = 0) (k : Nat) :
    (∃ m, m % 2 = 1 ∧ luc p q 2 p (s * (2 * k)) = 2 * m) ∧ (∃ m, m % 2 = 1 ∧ luc p q 2 p (s * (2 * k + 1)) = luc p q 2 p s * m) := by
  have hQ := odd_pow hq s
  induction k with
  | zero => exact ⟨⟨1, rfl, by simp [luc]⟩, ⟨1, rfl, by simp⟩⟩
  | succ k ih =>
    obtain ⟨⟨m, hm, e1⟩, ⟨n, hn, e2⟩⟩ := ih
    obtain ⟨v, hv⟩ : ∃ v, luc p q 2 p s = 2 * v := ⟨luc p q 2 p s / 2, by (first | lia | omega)⟩
    have f1 : luc p q 2 p (s * (2 * (k + 1))) = 2 * (2 * (v * (v * n)) - q ^ s * m) := by
      have := V_stride (p := p) (q := q) (s := s) (2 * k)
      rw [show 2 * (k + 1) = 2 * k + 2 by (first | lia | omega), this, e1, e2, hv]
      grind
    have o1 : (2 * (v * (v * n)) - q ^ s * m) % 2 = 1 := sub_odd (even_two _) (mul_odd hQ hm)
    refine ⟨⟨_, o1, f1⟩, ⟨luc p q 2 p (s * (2 * (k + 1))) - q ^ s * n, ?_, ?_⟩⟩
    · rw [f1]
      exact sub_odd (even_two _) (mul_odd hQ hn)
    · have := V_stride (p := p) (q := q) (s := s) (2 * k + 1)
      rw [show 2 * (k + 1) + 1 = 2 * k + 1 + 2 by (first | lia | omega), this, e2, show 2 * k + 1 + 1 = 2 * (k + 1) by (first | lia | omega)]
      grind
/-- U at an odd number of strides: U at one stride times an odd number -/
theorem U_forms (hq : q % 2 = 1) (hV : luc p q 2 p s % 2 = 0) (k : Nat) :
    (∃ m, m % 2 = 0 ∧ luc p q 0 1 (s * (2 * k)) = luc p q 0 1 s * m) ∧ (∃ m, m % 2 = 1 ∧ luc p q 0 1 (s * (2 * k + 1)) = luc p q 0 1 s * m) := by
  have hQ := odd_pow hq s
  induction k with
  | zero => exact ⟨⟨0, rfl, by simp [luc]⟩, ⟨1, rfl, by simp⟩⟩
  | succ k ih =>
    obtain ⟨⟨m, hm, e1⟩, ⟨n, hn, e2⟩⟩ := ih
    have f1 : luc p q 0 1 (s * (2 * (k + 1))) = luc p q 0 1 s * (luc p q 2 p s * n - q ^ s * m) := by
      have := U_stride (p := p) (q := q) (s := s) (2 * k)
      rw [show 2 * (k + 1) = 2 * k + 2 by (first | lia | omega), this, e1, e2]
      grind
    have o1 : (luc p q 2 p s * n - q ^ s * m) % 2 = 0 := sub_even (mul_even hV) (by rw [Int.mul_comm]; exact mul_even hm)
    refine ⟨⟨_, o1, f1⟩, ⟨luc p q 2 p s * (luc p q 2 p s * n - q ^ s * m) - q ^ s * n, ?_, ?_⟩⟩
    · exact sub_odd (mul_even hV) (mul_odd hQ hn)
    · have := U_stride (p := p) (q := q) (s := s) (2 * k + 1)
      rw [show 2 * (k + 1) + 1 = 2 * k + 1 + 2 by (first | lia | omega), this, e2, show 2 * k + 1 + 1 = 2 * (k + 1) by (first | lia | omega), f1]
      grind
end
end Mine
end
section
open PySem PySem.W PySem.Spec PySem.Calls PyProof.Rows
namespace Mine
abbrev lowE (nsT : List Int) (st a : Int) : Int := nsT.getD (st * (a - a.fdiv 2)).toNat 0
abbrev upE (nsT : List Int) (q st a : Int) : Int := nsT.getD (st * a).toNat 0 + a.fmod 2 * q ^ (st * a.fdiv 2).toNat * nsT.getD st.toNat 0
abbrev quoE (nsM : List Int) (st a : Int) : Int := nsM.getD (st * a.fdiv 2).toNat 0
section
variable {p q st a : Int} {S C c m : Nat} {nsM nsT : List Int}
theorem half_nat (ha : a = (m : Nat)) : a.fdiv 2 = ((m / 2 : Nat) : Int) ∧ a.fmod 2 = ((m % 2 : Nat) : Int) := by
  rw [fdiv2, fmod2]
  (first | lia | omega)
theorem idx_nat (hs : st = (S : Nat)) (ha : a = (m : Nat)) : st * a = ((S * m : Nat) : Int) ∧ st * a.fdiv 2 = ((S * (m / 2) : Nat) : Int) ∧ st * (a - a.fdiv 2) = ((S * (m - m / 2) : Nat) : Int) := by
  obtain ⟨e1, e2⟩ := half_nat ha
  have e3 : (m : Int) - ((m / 2 : Nat) : Int) = ((m - m / 2 : Nat) : Int) := by (first | lia | omega)
  rw [e1, hs, ha, e3]
  simp
theorem core_rep (m : Nat) : luc p q 0 1 (S * m) + ((m % 2 : Nat) : Int) * q ^ (S * (m / 2)) * luc p q 0 1 S = luc p q 0 1 (S * (m - m / 2)) * luc p q 2 p (S * (m / 2)) := by
  have h := luc_rep (p := p) (q := q) (S * (m / 2)) (S * (m % 2))
  have e1 : S * (m / 2) + S * (m % 2) = S * (m - m / 2) := by rw [← Nat.mul_add]; congr 1; (first | lia | omega)
  have e2 : S * (m / 2) + S * (m % 2) + S * (m / 2) = S * m := by rw [← Nat.mul_add, ← Nat.mul_add]; congr 1; (first | lia | omega)
  rw [e2, e1] at h
  rw [← h]
  rcases Nat.mod_two_eq_zero_or_one m with h2 | h2
  · rw [h2]; simp [luc]
  · rw [h2]; simp
theorem low_rest {b : Int} (h0 : b ≠ 0) (h1 : b ≠ -1) (v : Int) : (b * v + b.fdiv 2).fdiv b = v ∧ (b * v + b.fdiv 2).fmod b = b.fdiv 2 := by
  rw [fdiv2]
  rcases Int.lt_or_gt_of_ne h0 with h | h
  · exact (Int.fdiv_fmod_unique' h).mpr ⟨by (first | lia | omega), by (first | lia | omega), by (first | lia | omega)⟩
  · exact (Int.fdiv_fmod_unique h).mpr ⟨by (first | lia | omega), by (first | lia | omega), by (first | lia | omega)⟩
theorem low_none {b : Int} (h0 : b ≠ 0) (v : Int) : (b * v + 0).fdiv b = v ∧ (b * v + 0).fmod b = 0 := by
  rcases Int.lt_or_gt_of_ne h0 with h | h
  · exact (Int.fdiv_fmod_unique' h).mpr ⟨by (first | lia | omega), by (first | lia | omega), by (first | lia | omega)⟩
  · exact (Int.fdiv_fmod_unique h).mpr ⟨by (first | lia | omega), by (first | lia | omega), by (first | lia | omega)⟩
theorem up_eq (R : Rows p q st S C c nsM nsT) (ha : a = (m : Nat)) (hm : m ≤ C) : upE nsT q st a = lowE nsT st a * quoE nsM st a ∧ lowE nsT st a = luc p q 0 1 (S * (m - m / 2)) ∧ quoE nsM st a = luc p q 2 p (S * (m / 2)) := by
  obtain ⟨e1, e2, e3⟩ := idx_nat R.stS ha
  obtain ⟨e4, e5⟩ := half_nat ha
  obtain ⟨e6, e7⟩ := R.at_st
  unfold upE lowE quoE
  rw [e1, e2, e3, e5, e6, Int.toNat_natCast, Int.toNat_natCast, Int.toNat_natCast, R.atT _ (Nat.mul_le_mul_left _ hm), R.atT _ e7, R.atT _ (Nat.mul_le_mul_left _ (by (first | lia | omega))), R.atM _ (Nat.mul_le_mul_left _ (by (first | lia | omega))), core_rep]
  exact ⟨rfl, rfl, rfl⟩
theorem bits_under {x : Int} {j k : Nat} (h : x.natAbs ≤ 2 ^ j) (hk : j < k) : Builtin.Int.intBits x ≤ k :=
  intBits_le (Nat.lt_of_le_of_lt h (Nat.pow_lt_pow_right (by decide) hk))
theorem sum_abs {X : Nat} {u b : Int} (h1 : u.natAbs ≤ X) (h2 : b.natAbs ≤ X) : (u + b.fdiv 2).natAbs ≤ 2 * X := by
  rw [Nat.two_mul, fdiv2]
  exact Nat.le_trans (Int.natAbs_add_le ..) (Nat.add_le_add h1 (Nat.le_trans (Int.natAbs_ediv_le_natAbs ..) h2))
/-- the numbers of one turn and what is asked of them: one lemma -/
theorem turn_of (R : Rows p q st S C c nsM nsT) (ha : a = (m : Nat)) (h1 : 1 ≤ m) (hm : m ≤ C) :
    lowE nsT st a ≠ 0 ∧ Builtin.Int.intBits (lowE nsT st a) ≤ 4000 ∧ Builtin.Int.intBits (upE nsT q st a + 0) ≤ 4000 ∧ Builtin.Int.intBits (upE nsT q st a + (lowE nsT st a).fdiv 2) ≤ 4000 ∧ (upE nsT q st a + 0).fdiv (lowE nsT st a) = quoE nsM st a ∧ (upE nsT q st a + 0).fmod (lowE nsT st a) = 0 ∧ (upE nsT q st a + (lowE nsT st a).fdiv 2).fdiv (lowE nsT st a) = quoE nsM st a ∧ (upE nsT q st a + (lowE nsT st a).fdiv 2).fmod (lowE nsT st a) = (lowE nsT st a).fdiv 2 ∧ quoE nsM st a ≠ 0 ∧ (quoE nsM st a).natAbs < 16 ^ 2000 := by
  obtain ⟨eu, el, eq⟩ := up_eq R ha hm
  have hB := R.start.toBig
  have hs := R.start.s1
  have hsc := R.start.sc
  have hbig := hB.big
  have hsum := hB.sum
  have hi : 1 ≤ S * (m - m / 2) := Nat.mul_pos hs.1 (by (first | lia | omega))
  have hi2 : S * (m - m / 2) ≤ 72 := Nat.le_trans (Nat.mul_le_mul_left _ (show m - m / 2 ≤ C by (first | lia | omega))) hsc.2
  have hi3 : S * (m / 2) ≤ 72 := Nat.le_trans (Nat.mul_le_mul_left _ (show m / 2 ≤ C by (first | lia | omega))) hsc.2
  have hn0 : lowE nsT st a ≠ 0 := by rw [el]; exact U_ne hB hi
  have hn1 : lowE nsT st a ≠ -1 := by rw [el]; exact U_no hB hi
  have hl : (lowE nsT st a).natAbs ≤ 2 ^ 1679 := by rw [el]; exact luc_top hB (k := 72) (by decide) (Nat.pos_of_ne_zero (by simp)) hi2
  have hv : (quoE nsM st a).natAbs ≤ 2 ^ 1679 := by rw [eq]; exact luc_top hB (k := 72) (by (first | lia | omega)) (by (first | lia | omega)) hi3
  have hq0 : quoE nsM st a ≠ 0 := by rw [eq]; exact V_ne hB _
  have hmul : (lowE nsT st a * quoE nsM st a).natAbs ≤ 2 ^ 3358 := by
    rw [Int.natAbs_mul, show 3358 = 1679 + 1679 from rfl, Nat.pow_add]
    exact Nat.mul_le_mul hl hv
  rw [← eu] at hmul
  have hp : (2 : Nat) ^ 1679 ≤ 2 ^ 3358 := Nat.pow_le_pow_right (by decide) (by decide)
  have hp2 : (2 : Nat) ^ 3359 = 2 * 2 ^ 3358 := by rw [Nat.pow_succ, Nat.mul_comm]
  have f0 : (upE nsT q st a + 0).natAbs ≤ 2 ^ 3359 := by
    rw [hp2, Int.add_zero]
    exact Nat.le_trans hmul (Nat.le_mul_of_pos_left _ (by decide))
  have f1 : (upE nsT q st a + (lowE nsT st a).fdiv 2).natAbs ≤ 2 ^ 3359 := by
    rw [hp2]
    exact sum_abs hmul (Nat.le_trans hl hp)
  refine ⟨hn0, bits_under hl (by decide), bits_under f0 (by decide), bits_under f1 (by decide), ?_, ?_, ?_, ?_, hq0, ?_⟩
  · rw [eu]; exact (low_none hn0 _).1
  · rw [eu]; exact (low_none hn0 _).2
  · rw [eu]; exact (low_rest hn0 hn1 _).1
  · rw [eu]; exact (low_rest hn0 hn1 _).2
  · refine Nat.lt_of_le_of_lt hv ?_
    rw [show 16 = 2 ^ 4 from rfl, ← Nat.pow_mul]
    exact Nat.pow_lt_pow_right (by decide) (by decide)
end
end Mine
end
section
open PySem PySem.W PySem.Spec PySem.Calls PyProof.Rows
namespace Mine
theorem quoteL : Str.ofString "\"" = ⟨#[34]⟩ := by decide +kernel
theorem fold_quotes : ∀ (n : Nat) (acc : Array Nat), (List.replicate n (#[34] : Array Nat)).foldl (· ++ ·) acc = acc ++ (List.replicate n 34).toArray
  | 0, acc => by simp
  | n + 1, acc => by
    rw [List.replicate_succ, List.foldl_cons, fold_quotes n, List.replicate_succ]
    apply Array.ext'
    simp
theorem mul_quote (n : Int) : Txt.mul (Str.ofString "\"") n = quotes n.toNat := by
  rw [quoteL]
  unfold Txt.mul
  by_cases h : n < 1
  · rw [if_pos h, show n.toNat = 0 by (first | lia | omega)]
    rfl
  · rw [if_neg h]
    by_cases h1 : n = 1
    · subst h1; rfl
    · have e : (n == 1 || (⟨#[34]⟩ : Str).length == 0) = false := by
        rw [Bool.or_eq_false_iff]
        exact ⟨by simpa using h1, rfl⟩
      rw [e]
      simp only [Bool.false_eq_true, if_false]
      unfold quotes
      apply Str.ext'
      show (List.replicate n.toNat #[34]).foldl (· ++ ·) #[] = _
      rw [fold_quotes]
      simp
theorem mul_one (x : Str) : Txt.mul x 1 = x := by
  unfold Txt.mul
  rw [if_neg (by decide), if_pos (by simp)]
theorem mul_zero (x : Str) : Txt.mul x 0 = ⟨#[]⟩ := by
  unfold Txt.mul
  rw [if_pos (by decide)]
  rfl
theorem app_empty (x : Str) : x ++ (⟨#[]⟩ : Str) = x := by
  apply Str.ext'
  show x.cps ++ #[] = x.cps
  simp
theorem app_cps (x y : Str) : (x ++ y).cps = x.cps ++ y.cps := rfl
theorem read_eq {a : Int} {m c : Nat} (ha : a = (m : Nat)) : Txt.mul (Str.ofString "\"") (a.fdiv 2) ++ Txt.mul (signS c) (1 - a.fmod 2) = readS m c := by
  obtain ⟨e1, e2⟩ := half_nat ha
  rw [e1, e2, mul_quote, Int.toNat_natCast]
  unfold readS
  rcases Nat.mod_two_eq_zero_or_one m with h | h
  · rw [h, if_neg (by decide), show (1 - ((0 : Nat) : Int)) = 1 from rfl, mul_one]
  · rw [h, if_pos rfl, show (1 - ((1 : Nat) : Int)) = 0 from rfl, mul_zero, app_empty]
theorem reply_of (m c : Nat) : Str.ofString "257 \"" ++ (quotes m ++ signS c) ++ Str.ofString "\"" ++ signS c = reply m c := by
  have e : Str.ofString "257 \"" = ⟨#[50, 53, 55, 32, 34]⟩ := by decide +kernel
  rw [e, quoteL]
  apply Str.ext'
  simp only [app_cps]
  show #[50, 53, 55, 32, 34] ++ ((List.replicate m 34).toArray ++ #[c]) ++ #[34] ++ #[c] = (replyL m c).toArray
  apply Array.ext'
  simp [replyL]
theorem sign_len (c : Nat) : (signS c).length = 1 := rfl
theorem told_len (m c : Nat) : (quotes m ++ signS c).length = m + 1 := by
  rw [Str.length_append, quotes_len, sign_len]
theorem last_sign (m c : Nat) : Txt.slice (quotes m ++ signS c) (some (-1)) none = signS c := by
  have h := slice_closes_from_neg (x := quotes m ++ signS c) (i := -1) (a := m) (b := m + 1) (by decide) (by rw [told_len]; (first | lia | omega)) (by rw [told_len]; (first | lia | omega)) (by rw [told_len]; (first | lia | omega))
  rw [eq_of_beq h]
  apply Str.ext'
  rw [app_cps]
  show (((((List.replicate m 34).toArray ++ #[c]).toList.drop (m : Int).toNat)).take _).toArray = #[c]
  have e1 : ((m : Int) + 1 - m).toNat = 1 := by (first | lia | omega)
  rw [e1, Int.toNat_natCast]
  apply Array.ext'
  simp
theorem last_quote {k c : Nat} (hc : c ≠ 34) : Txt.slice (quotes k) (some (-1)) none ≠ signS c := by
  intro hE
  cases k with
  | zero =>
    have e : Txt.slice (quotes 0) (some (-1)) none = ⟨#[]⟩ := by decide +kernel
    rw [e] at hE
    have := congrArg (fun s : Str => s.cps.size) hE
    simp [signS] at this
  | succ k =>
    have hl := quotes_len (k + 1)
    have h := slice_closes_from_neg (x := quotes (k + 1)) (i := -1) (a := k) (b := k + 1) (by decide) (by rw [hl]; (first | lia | omega)) (by rw [hl]; (first | lia | omega)) (by rw [hl]; (first | lia | omega))
    rw [eq_of_beq h] at hE
    have h2 := congrArg (fun s : Str => s.cps.toList) hE
    have e1 : ((k : Int) + 1 - k).toNat = 1 := by (first | lia | omega)
    simp only [e1, Int.toNat_natCast, quotes, signS] at h2
    simp [List.drop_replicate] at h2
    exact hc h2.symm
theorem last_yes (m c : Nat) : (Txt.slice (quotes m ++ signS c) (some (-1)) none == signS c) = true := by rw [last_sign]; simp
theorem last_no {k c : Nat} (hc : c ≠ 34) : (Txt.slice (quotes k) (some (-1)) none == signS c) = false := by
  have := last_quote (k := k) hc
  simpa using this
theorem read_no {a : Int} {m c : Nat} (ha : a = (m : Nat)) : (readS m c != (Txt.mul (Str.ofString "\"") (a.fdiv 2) ++ Txt.mul (signS c) (1 - a.fmod 2))) = false := by
  rw [read_eq ha]; simp
theorem int_same (x : Int) : (x != x) = false := by simp
theorem str_same (x : Str) : (x != x) = false := by simp
theorem read_fits {a : Int} {m c : Nat} (ha : a = (m : Nat)) (h : m ≤ 100) : (Txt.mul (Str.ofString "\"") (a.fdiv 2)).length + (Txt.mul (signS c) (1 - a.fmod 2)).length ≤ sizeLine := by
  rw [← Str.length_append, read_eq ha, sizeLine_eq]
  unfold readS
  split
  · rw [quotes_len]; (first | lia | omega)
  · rw [Str.length_append, quotes_len, sign_len]; (first | lia | omega)
end Mine
end
section
open PySem PySem.W PySem.Spec PySem.Calls PyProof.Rows
namespace Mine
theorem turn_idx {p q st a : Int} {S C c m : Nat} {nsM nsT : List Int} (R : Rows p q st S C c nsM nsT) (ha : a = (m : Nat)) (h1 : 1 ≤ m) (hm : m ≤ C) :
    0 ≤ st * a ∧ st * a < (nsT.length : Int) ∧ 0 ≤ st * a.fdiv 2 ∧ st * a.fdiv 2 < (nsM.length : Int) ∧ st * a.fdiv 2 ≤ 72 ∧ 0 ≤ st * (a - a.fdiv 2) ∧ st * (a - a.fdiv 2) < (nsT.length : Int) ∧ 0 ≤ a.fmod 2 ∧ a.fmod 2 ≤ 1 ∧ 0 ≤ a.fdiv 2 ∧ a.fdiv 2 ≤ 12 ∧ 1 ≤ a ∧ a ≤ 24 ∧
      -100000000000000 ≤ nsT.getD st.toNat 0 ∧ nsT.getD st.toNat 0 ≤ 100000000000000 := by
  obtain ⟨e1, e2, e3⟩ := idx_nat R.stS ha
  obtain ⟨e4, e5⟩ := half_nat ha
  obtain ⟨e6, e7⟩ := R.at_st
  have hsc := R.start.sc
  have hc := R.start.c24
  have m1 : S * m ≤ S * C := Nat.mul_le_mul_left _ hm
  have m2 : S * (m / 2) ≤ S * C := Nat.mul_le_mul_left _ (Nat.le_trans (Nat.div_le_self ..) hm)
  have m3 : S * (m - m / 2) ≤ S * C := Nat.mul_le_mul_left _ (Nat.le_trans (Nat.sub_le ..) hm)
  have hU : -100000000000000 ≤ nsT.getD st.toNat 0 ∧ nsT.getD st.toNat 0 ≤ 100000000000000 := by
    rw [e6, R.atT _ e7]
    rcases R.start.str with ⟨_, h⟩ | ⟨_, h⟩
    · rw [h]; simp [luc]
    · rw [h]
      obtain ⟨q1, q2⟩ := abs_le R.start.qB
      have e : luc p q 0 1 3 = p * p - q := by simp [luc]
      have b2 : p.natAbs * p.natAbs ≤ 3000000 * 3000000 := Nat.mul_le_mul R.start.pB R.start.pB
      rw [e, ← Int.natAbs_mul_self]
      clear R ha hc hsc m1 m2 m3 e1 e2 e3 e4 e5 e6 e7 h1 hm e
      (first | lia | omega)
  rw [e1, e2, e3, e4, e5, R.lM, R.lT]
  subst ha
  exact ⟨Int.natCast_nonneg _, Int.ofNat_lt.mpr (Nat.lt_succ_of_le m1), Int.natCast_nonneg _, Int.ofNat_lt.mpr (Nat.lt_succ_of_le m2), Int.ofNat_le.mpr (Nat.le_trans m2 hsc.2), Int.natCast_nonneg _, Int.ofNat_lt.mpr (Nat.lt_succ_of_le m3), Int.natCast_nonneg _,
    Int.ofNat_le.mpr (Nat.le_of_lt_succ (Nat.mod_lt _ (by decide))), Int.natCast_nonneg _, Int.ofNat_le.mpr (Nat.div_le_div_right (c := 2) (Nat.le_trans hm hc)), Int.ofNat_le.mpr h1, Int.ofNat_le.mpr (Nat.le_trans hm hc), hU.1, hU.2⟩
def HitT (M T : Addr) (tabs : List (Addr × Obj)) : Prop := ∃ (cA cB : Addr) (oA oB : Obj) (vA vB : Array Value) (tA tB : Tok), tabs = [((38 : Addr), tabObj #[rawInt 46, rawInt 4, .ref cA]), (cA, oA), ((45 : Addr), tabObj #[rawInt 61, rawInt 4, .ref cB]), (cB, oB)] ∧ oB.data = .fields vB ∧ vB[1]? = some (.str qD2i tB) ∧ oA.data = .fields vA ∧ vA[1]? = some (.str qI2d tA) ∧ @Ne Nat cA 38 ∧ @Ne Nat cA 45 ∧ @Ne Nat cB 45 ∧ @Ne Nat cB 38 ∧ @Ne Nat cA cB ∧ @Ne Nat M cA ∧ @Ne Nat M cB ∧ @Ne Nat T cA ∧ @Ne Nat T cB
def TabT (M T : Addr) (tabs : List (Addr × Obj)) : Prop := ∃ (cA cB : Addr) (xA : Array Value) (oA : Obj) (yB : Array Value) (oB : Obj), tabs = [((38 : Addr), tabObj xA), (cA, oA), ((45 : Addr), tabObj yB), (cB, oB)] ∧ Holding tabA [((38 : Addr), tabObj xA), (cA, oA)] ∧ Holding tabB [((45 : Addr), tabObj yB), (cB, oB)] ∧ @Ne Nat cA 45 ∧ @Ne Nat cB 38 ∧ @Ne Nat cA cB ∧ @Ne Nat M cA ∧ @Ne Nat M cB ∧ @Ne Nat T cA ∧ @Ne Nat T cB
theorem HitT.tab {M T : Addr} {tabs : List (Addr × Obj)} (h : HitT M T tabs) : TabT M T tabs := by
  obtain ⟨cA, cB, oA, oB, vA, vB, tA, tB, e, dB, qB, dA, qA, a38, a45, b45, b38, ab, ma, mb, ta, tb⟩ := h
  exact ⟨cA, cB, _, oA, _, oB, e, ⟨_, Or.inr ⟨cA, oA, vA, tA, rfl, dA, qA, a38⟩, fun _ hp => hp⟩, ⟨_, Or.inr ⟨cB, oB, vB, tB, rfl, dB, qB, b45⟩, fun _ hp => hp⟩, a45, b38, ab, ma, mb, ta, tb⟩
abbrev tabs0 : List (Addr × Obj) := [((38 : Addr), tabObj #[]), ((38 : Addr), tabObj #[]), ((45 : Addr), tabObj #[]), ((45 : Addr), tabObj #[])]
theorem tabT0 {M T : Addr} (h : @Ne Nat M 38 ∧ @Ne Nat M 45 ∧ @Ne Nat T 38 ∧ @Ne Nat T 45) : TabT M T tabs0 :=
  ⟨(38 : Nat), (45 : Nat), _, _, _, _, rfl, ⟨_, Or.inl rfl, fun _ hp => List.mem_cons_of_mem _ hp⟩, ⟨_, Or.inl rfl, fun _ hp => List.mem_cons_of_mem _ hp⟩, show (38 : Nat) ≠ 45 by decide, show (45 : Nat) ≠ 38 by decide, show (38 : Nat) ≠ 45 by decide, h.1, h.2.1, h.2.2.1, h.2.2.2⟩
abbrev LawSt : Type := (Int × Tok) × (Str × Tok) × (Int × Tok) × List (Addr × Obj)
def Alive (C c : Nat) (M T : Addr) (s : LawSt) : Prop :=
  ∃ m r : Nat, s.1.1 = m ∧ s.2.2.1.1 = r ∧ s.2.1.1 = quotes m ++ signS c ∧ 1 ≤ m ∧ C = 2 ^ r * m ∧ TabT M T s.2.2.2
def Dead (C : Nat) (M T : Addr) (s : LawSt) : Prop :=
  ∃ r j k : Nat, s.2.2.1.1 = r ∧ s.2.1.1 = quotes k ∧ k ≤ 100 ∧ j % 2 = 1 ∧ C = 2 ^ r * j ∧ TabT M T s.2.2.2
def LawInv (C c : Nat) (M T : Addr) (s : LawSt) : Prop := Alive C c M T s ∨ Dead C M T s
theorem len257 : (Str.ofString "257 \"").length = 5 := by decide +kernel
theorem lenQ : (Str.ofString "\"").length = 1 := by decide +kernel
theorem pow_mul_le {C r m : Nat} (h : C = 2 ^ r * m) : m ≤ C := by
  rw [h]
  exact Nat.le_mul_of_pos_left _ (Nat.pos_of_ne_zero (by simp))
theorem inv_start {ct : Int} {C c : Nat} {M T : Addr} {t u v : Tok} (hct : ct = (C : Nat)) (h1 : 1 ≤ C) (hM : @Ne Nat M 38 ∧ @Ne Nat M 45 ∧ @Ne Nat T 38 ∧ @Ne Nat T 45) :
    LawInv C c M T ((ct, t), (Txt.mul (Str.ofString "\"") ct ++ signS c, u), (0, v), tabs0) := by
  refine .inl ⟨C, 0, hct, rfl, ?_, h1, by simp, tabT0 hM⟩
  show Txt.mul _ ct ++ _ = _
  rw [mul_quote, hct, Int.toNat_natCast]
abbrev lawPs (c : LawSt) : List (Str × Value) := [(Str.ofString "ahead", .int c.1.1 c.1.2), (Str.ofString "told", .str c.2.1.1 c.2.1.2), (Str.ofString "readings", .int c.2.2.1.1 c.2.2.1.2)]
abbrev lawSt : List Str := [Str.ofString "left", Str.ofString "odd", Str.ofString "upper", Str.ofString "lower", Str.ofString "more", Str.ofString "quotient", Str.ofString "rest", Str.ofString "size"]
theorem law_while {prog : Program} {w : World} {A : Around} {E : Value → Shared → Prop} {Q : Flow → Shared → Prop} {s : Shared} {env : Env} {h₀ : Heap} {L M T : Addr} {oM oT : Obj} {test : Expr} {body : List Stmt} {pos : Pos} {m₀ : Str → Option Value} {C c : Nat} {ct : Int} {t1 t2 t3 : Tok}
    (F : Fr h₀ L s.heap m₀) (N : News h₀ L s.heap [(M, oM), (T, oT), ((45 : Addr), tabObj #[]), ((38 : Addr), tabObj #[])])
    (hk : ∀ p ∈ [(Str.ofString "ahead", Value.int ct t1), (Str.ofString "told", .str (Txt.mul (Str.ofString "\"") ct ++ signS c) t2), (Str.ofString "readings", .int 0 t3)], m₀ p.1 = some p.2) (hct : ct = (C : Nat)) (h1 : 1 ≤ C)
    (hM : @Ne Nat M 38 ∧ @Ne Nat M 45 ∧ @Ne Nat T 38 ∧ @Ne Nat T 45)
    (alive : ∀ (Q' : Flow → Shared → Prop) (E' : Value → Shared → Prop) (s' : Shared) (x : LawSt) (u : Str → Option Value) h tk, PassesOwn (model prog w) A env E' → Alive C c M T x → Fr h₀ L h (kstB (fun z => if lawSt.contains z then u z else m₀ z) (lawPs x)) → News h₀ L h ((M, oM) :: (T, oT) :: x.2.2.2) →
      wpAny (model prog w) A (isTrue test env (eval test env)) (fun b s₂ =>
        if b = true then wpAny (model prog w) A (execs body env) (KswPost h₀ L s' (fun c : LawSt => (M, oM) :: (T, oT) :: c.2.2.2) lawPs (fun _ => True) lawSt m₀ (LawInv C c M T) (fun c => c.1.1.toNat) Q' x) E' s₂ else Q' .next s₂) E' { s' with heap := h, toks := tk })
    (dead : ∀ (x : LawSt) (u : Str → Option Value) h tk, Dead C M T x → Fr h₀ L h (kstB (fun z => if lawSt.contains z then u z else m₀ z) (lawPs x)) → News h₀ L h ((M, oM) :: (T, oT) :: x.2.2.2) →
      wpAny (model prog w) A (isTrue test env (eval test env)) (fun b s₂ =>
        if b = true then wpAny (model prog w) A (execs body env) (KswPost h₀ L s (fun c : LawSt => (M, oM) :: (T, oT) :: c.2.2.2) lawPs (fun _ => True) lawSt m₀ (LawInv C c M T) (fun c => c.1.1.toNat) Q x) E s₂ else Q .next s₂) E { s with heap := h, toks := tk })
    (hE : PassesOwn (model prog w) A env E) :
    wpAny (model prog w) A (exec (.While test body [] pos) env) Q E s :=
  ksw_while (fun c : LawSt => (M, oM) :: (T, oT) :: c.2.2.2) lawPs (fun _ => True) lawSt (LawInv C c M T) (fun c => c.1.1.toNat) ((ct, t1), (Txt.mul (Str.ofString "\"") ct ++ signS c, t2), (0, t3), tabs0)
    F (News.perm N (by simp)) trivial hk (inv_start hct h1 hM) (fun x u h tk _ hi hf hn => hi.elim (fun hi => alive Q E s x u h tk hE hi hf hn) (fun hi => dead x u h tk hi hf hn)) hE
end Mine
end
section
open PySem PySem.W PySem.Spec PySem.Calls PyProof.Rows
namespace Mine
theorem low_bits0 {n : Int} {i j : Nat} (h : Tw i n) (hj : j < i) : ¬ (n.fdiv (2 ^ j)).fmod 2 = 1 := by
  obtain ⟨m, hm, rfl⟩ := h
  rw [fdiv_pow, fmod_two]
  obtain ⟨d, rfl⟩ : ∃ d, i = j + (d + 1) := ⟨i - j - 1, by (first | lia | omega)⟩
  rw [Int.pow_add, Int.mul_assoc, Int.mul_ediv_cancel_left _ (Int.ne_of_gt (pow2_pos j)), Int.pow_succ]
  have : (2 : Int) ^ d * 2 * m = 2 * (2 ^ d * m) := by grind
  rw [this]
  (first | lia | omega)
theorem low_bit1 {n : Int} {i : Nat} (h : Tw i n) : (n.fdiv (2 ^ i)).fmod 2 = 1 := by
  obtain ⟨m, hm, rfl⟩ := h
  rw [fdiv_pow, fmod_two, Int.mul_ediv_cancel_left _ (Int.ne_of_gt (pow2_pos i))]
  exact hm
theorem flags_none {n : Int} {i : Nat} (h : Tw i n) : ∀ j, j ≤ i → flagWords n j = []
  | 0, _ => rfl
  | j + 1, hj => by rw [flagWords_succ, flags_none h j (by (first | lia | omega)), if_neg (low_bits0 h (by (first | lia | omega)))]; rfl
theorem flags_mid {n : Int} {i : Nat} (h : Tw i n) (k : Nat) (hk : i + 1 + k ≤ 32) : flagWords n (i + 1 + k) = wordS i n :: midWords n ((i : Int) + 1) k := by
  induction k with
  | zero =>
    rw [Nat.add_zero, flagWords_succ, flags_none h i (Nat.le_refl _), if_pos (low_bit1 h), wordS_32 (by (first | lia | omega))]
    rfl
  | succ k ih =>
    rw [← Nat.add_assoc, flagWords_succ, ih (by (first | lia | omega)), midWords_succ]
    have e : ((i : Int) + 1 + (k : Nat)).toNat = i + 1 + k := by (first | lia | omega)
    have e2 : ((i : Int) + 1 + (k : Nat)) = ((i + 1 + k : Nat) : Int) := by (first | lia | omega)
    rw [e, e2, wordS_32 (m := i + 1 + k) (by (first | lia | omega))]
    rfl
theorem top_word {n : Int} {i : Int} (h : 32 ≤ i) : wordS i n = baseText "0x" 16 (n.fdiv (2 ^ 32) * 2 ^ 32) := by
  unfold wordS
  rw [if_neg (by (first | lia | omega)), if_neg (by (first | lia | omega)), show Int.toNat 32 = 32 from rfl]
theorem all_words {n : Int} {i : Nat} (hn : 0 < n) (h : Tw i n) : lawWords i n = allWords n := by
  unfold lawWords endWords allWords
  have hp : (0 : Int) < 2 ^ 32 := by decide
  have hz : n.fdiv (2 ^ 32) = n / 2 ^ 32 := fdiv_pow n 32
  by_cases hi : i < 32
  · obtain ⟨k, hk⟩ : ∃ k, i + 1 + k = 32 := ⟨31 - i, by (first | lia | omega)⟩
    have e1 : (32 - ((i : Int) + 1)).toNat = k := by (first | lia | omega)
    have e2 := flags_mid h k (by (first | lia | omega))
    rw [hk] at e2
    rw [e1, e2]
    by_cases hb : n ≥ 2 ^ 32
    · rw [if_pos ⟨by (first | lia | omega), hb⟩, if_neg (by rw [hz]; (first | lia | omega)), top_word (i := 32) (by decide)]
    · rw [if_neg (fun x => hb x.2), if_pos (by rw [hz]; (first | lia | omega))]
  · have e1 : (32 - ((i : Int) + 1)).toNat = 0 := by (first | lia | omega)
    have hge : ¬ n.fdiv (2 ^ 32) = 0 := by
      intro h0
      rw [hz] at h0
      obtain ⟨m, hm, hx⟩ := h
      obtain ⟨d, rfl⟩ : ∃ d, i = 32 + d := ⟨i - 32, by (first | lia | omega)⟩
      rw [hx, Int.pow_add, Int.mul_assoc, Int.mul_ediv_cancel_left _ (by decide)] at h0
      have : (2 : Int) ^ d * m ≠ 0 := Tw.ne ⟨m, hm, rfl⟩
      exact this h0
    rw [e1, flags_none h 32 (by (first | lia | omega)), if_neg (fun x => absurd x.1 (by (first | lia | omega))), if_neg hge, top_word (by (first | lia | omega))]
    rfl
/-- the two tellings of a number agree -/
theorem law_eq {i n : Int} (h0 : 0 < n) (hi : i = (v2 n : Nat)) : lawS i n = flagsS n := by
  unfold lawS flagsS
  rw [hi, all_words h0 (Tw.of (by (first | lia | omega)))]
theorem odd_mul {x y : Int} (h1 : x % 2 = 1) (h2 : y % 2 = 1) : x * y % 2 = 1 := by rw [Int.mul_emod, h1, h2]; rfl
theorem stride_even {p q : Int} {S C c : Nat} (h : Start p q S C c) : luc p q 2 p S % 2 = 0 := by
  have hq := h.qodd
  rcases h.str with ⟨h1, h2⟩ | ⟨h1, h2⟩
  · rw [h2]; exact h1
  · rw [h2]
    have e : luc p q 2 p 3 = p * (p * p - 3 * q) := by simp only [luc]; grind
    have o1 := odd_mul h1 h1
    have o2 : (p * p - 3 * q) % 2 = 0 := by (first | lia | omega)
    rw [e, Int.mul_emod, o2, Int.mul_zero]
    rfl
section
variable {p q : Int} {S C c : Nat}
theorem V_even (h : Start p q S C c) {k : Nat} (hk : k % 2 = 0) : Tw 1 (luc p q 2 p (S * k)) := by
  obtain ⟨j, rfl⟩ : ∃ j, k = 2 * j := ⟨k / 2, by (first | lia | omega)⟩
  obtain ⟨m, hm, e⟩ := (V_forms h.qodd (stride_even h) j).1
  exact ⟨m, hm, by rw [e, Int.pow_one]⟩
theorem V_odd (h : Start p q S C c) {k : Nat} (hk : k % 2 = 1) : Tw (v2 (luc p q 2 p S)) (luc p q 2 p (S * k)) := by
  obtain ⟨j, rfl⟩ : ∃ j, k = 2 * j + 1 := ⟨k / 2, by (first | lia | omega)⟩
  obtain ⟨m, hm, e⟩ := (V_forms h.qodd (stride_even h) j).2
  rw [e]
  exact Tw.mul (Tw.of (V_ne h.toBig _)) (Tw.odd hm)
theorem U_odd (h : Start p q S C c) {k : Nat} (hk : k % 2 = 1) : Tw (v2 (luc p q 0 1 S)) (luc p q 0 1 (S * k)) := by
  obtain ⟨j, rfl⟩ : ∃ j, k = 2 * j + 1 := ⟨k / 2, by (first | lia | omega)⟩
  obtain ⟨m, hm, e⟩ := (U_forms h.qodd (stride_even h) j).2
  rw [e]
  exact Tw.mul (Tw.of (U_ne h.toBig h.s1.1)) (Tw.odd hm)
theorem U_all (h : Start p q S C c) {j : Nat} (hj : j % 2 = 1) (r : Nat) : Tw (v2 (luc p q 0 1 S) + (if r = 0 then 0 else v2 (luc p q 2 p S) + (r - 1))) (luc p q 0 1 (S * (2 ^ r * j))) := by
  induction r with
  | zero => rw [Nat.pow_zero, Nat.one_mul, if_pos rfl]; exact U_odd h hj
  | succ r ih =>
    have e := luc_rep (p := p) (q := q) (S * (2 ^ r * j)) 0
    have e2 : S * (2 ^ r * j) + 0 + S * (2 ^ r * j) = S * (2 ^ (r + 1) * j) := by rw [Nat.pow_succ]; grind
    rw [e2, Nat.add_zero, show luc p q 0 1 0 = 0 from rfl, Int.mul_zero, Int.add_zero] at e
    rw [e, if_neg (by (first | lia | omega))]
    cases r with
    | zero =>
      rw [Nat.pow_zero, Nat.one_mul] at ih ⊢
      have := Tw.mul ih (V_odd h hj)
      simpa using this
    | succ r =>
      have hv : 2 ^ (r + 1) * j % 2 = 0 := by rw [Nat.pow_succ, Nat.mul_right_comm]; (first | lia | omega)
      have := Tw.mul ih (V_even h hv)
      rw [if_neg (by (first | lia | omega))] at this
      rw [show v2 (luc p q 0 1 S) + (v2 (luc p q 2 p S) + (r + 1 + 1 - 1)) = v2 (luc p q 0 1 S) + (v2 (luc p q 2 p S) + (r + 1 - 1)) + 1 by (first | lia | omega)]
      exact this
end
theorem size_pos {x : Int} (h : x ≠ 0) : 0 < (if x < 0 then -x else x) := by split <;> (first | lia | omega)
theorem size_fit {x : Int} (h : x.natAbs < 16 ^ 2000) : Fit (if x < 0 then -x else x) := by
  unfold Fit
  have e : (if x < 0 then -x else x).natAbs = x.natAbs := by split <;> (first | lia | omega)
  exact ⟨by split <;> (first | lia | omega), by rw [e]; exact h⟩
theorem v2_size {x : Int} (h : x ≠ 0) : v2 (if x < 0 then -x else x) = v2 x := v2_abs h
section
variable {p q st a : Int} {S C c m : Nat} {nsM nsT : List Int}
theorem word_even (R : Rows p q st S C c nsM nsT) (ha : a = (m : Nat)) (hm : m ≤ C) (h : ((a.fdiv 2).fmod 2 == 0) = true) : (1 : Int) = (v2 (if quoE nsM st a < 0 then -quoE nsM st a else quoE nsM st a) : Nat) := by
  obtain ⟨_, _, eq⟩ := up_eq R ha hm
  have hq0 : quoE nsM st a ≠ 0 := by rw [eq]; exact V_ne R.start.toBig _
  rw [v2_size hq0, eq, (half_nat ha).1, fmod2] at *
  simp only [beq_iff_eq] at h
  rw [(V_even R.start (by (first | lia | omega))).v2]
  rfl
theorem word_odd (R : Rows p q st S C c nsM nsT) (ha : a = (m : Nat)) (hm : m ≤ C) (h : ((a.fdiv 2).fmod 2 == 0) = false) : ((v2 (nsM.getD st.toNat 0) : Nat) : Int) = (v2 (if quoE nsM st a < 0 then -quoE nsM st a else quoE nsM st a) : Nat) := by
  obtain ⟨_, _, eq⟩ := up_eq R ha hm
  obtain ⟨e6, e7⟩ := R.at_st
  have hq0 : quoE nsM st a ≠ 0 := by rw [eq]; exact V_ne R.start.toBig _
  rw [v2_size hq0, eq, e6, R.atM _ e7]
  rw [(half_nat ha).1, fmod2] at h
  simp only [beq_eq_false_iff_ne] at h
  rw [(V_odd R.start (k := m / 2) (by (first | lia | omega))).v2]
theorem word_last (R : Rows p q st S C c nsM nsT) {ct rd r' : Int} {r j : Nat} (hct : ct = (C : Nat)) (hrd : rd = (r : Nat)) (hj : j % 2 = 1) (hC : C = 2 ^ r * j)
    (hr : rd > 0 ∧ r' = ((v2 (nsT.getD st.toNat 0) : Nat) : Int) + (((v2 (nsM.getD st.toNat 0) : Nat) : Int) + rd - 1) ∨ ¬ rd > 0 ∧ r' = ((v2 (nsT.getD st.toNat 0) : Nat) : Int)) :
    r' = (v2 (if nsT.getD (st * ct).toNat 0 < 0 then -nsT.getD (st * ct).toNat 0 else nsT.getD (st * ct).toNat 0) : Nat) := by
  obtain ⟨e6, e7⟩ := R.at_st
  have hsc := R.start.sc
  have e1 : (st * ct).toNat = S * C := by rw [sc_int R.stS hct, Int.toNat_natCast]
  have hU := U_ne R.start.toBig hsc.1
  rw [e1, R.atT _ (Nat.le_refl _), v2_size hU]
  rw [e6, R.atT _ e7, R.atM _ e7] at hr
  have h := (U_all R.start hj r).v2
  rw [← hC] at h
  rw [h]
  by_cases h0 : r = 0
  · rw [if_pos h0]; (first | lia | omega)
  · rw [if_neg h0]; (first | lia | omega)
theorem last_facts (R : Rows p q st S C c nsM nsT) {ct : Int} (hct : ct = (C : Nat)) : nsT.getD (st * ct).toNat 0 ≠ 0 ∧ (nsT.getD (st * ct).toNat 0).natAbs < 16 ^ 2000 ∧ st * ct < (nsT.length : Int) := by
  have hsc := R.start.sc
  have e1 : (st * ct).toNat = S * C := by rw [sc_int R.stS hct, Int.toNat_natCast]
  have l2 := R.lT
  have e2 := sc_int R.stS hct
  rw [e1, R.atT _ (Nat.le_refl _)]
  refine ⟨U_ne R.start.toBig hsc.1, ?_, by (first | lia | omega)⟩
  have hl := luc_top R.start.toBig (a := 0) (b := 1) (k := 72) (by decide) (Nat.pos_of_ne_zero (by simp)) hsc.2
  refine Nat.lt_of_le_of_lt hl ?_
  rw [show 16 = 2 ^ 4 from rfl, ← Nat.pow_mul]
  exact Nat.pow_lt_pow_right (by decide) (by decide)
end
theorem word_even2 {p q st a : Int} {S C c m : Nat} {nsM nsT : List Int} (R : Rows p q st S C c nsM nsT) (ha : a = (m : Nat)) (hm : m ≤ C) (h : (a.fdiv 2).fmod 2 = 0) : (1 : Int) = (v2 (if quoE nsM st a < 0 then -quoE nsM st a else quoE nsM st a) : Nat) := word_even R ha hm (by rw [h]; rfl)
theorem word_odd2 {p q st a : Int} {S C c m : Nat} {nsM nsT : List Int} (R : Rows p q st S C c nsM nsT) (ha : a = (m : Nat)) (hm : m ≤ C) (h : ¬ (a.fdiv 2).fmod 2 = 0) : ((v2 (nsM.getD st.toNat 0) : Nat) : Int) = (v2 (if quoE nsM st a < 0 then -quoE nsM st a else quoE nsM st a) : Nat) := word_odd R ha hm (by simpa using h)
end Mine
end
section
open PySem PySem.W PySem.Spec PySem.Calls PyProof.Rows
namespace Mine
/-- the frame's map under a name of its own: the types behind it stay small -/
theorem fold_map {h₀ h : Heap} {L : Addr} {m : Str → Option Value} {P : Prop} (F : Fr h₀ L h m) (k : let mk := m; Fr h₀ L h mk → P) : P := k F
theorem con_dmE (w : World) (a b : Int) (t u : Tok) {q r : Int} (hb : b ≠ 0) (hab : Builtin.Int.intBits a ≤ 4000) (hbb : Builtin.Int.intBits b ≤ 4000) (oa ob : List (Addr × Obj)) (hoa : tabA oa) (hob : tabB ob) (hap : Apart oa ob) (e1 : a.fdiv b = q) (e2 : a.fmod b = r) :
    ConT w 64 [.int a t, .int b u] 30 300 (oa ++ ob) (RetDiv q r) := by
  subst e1 e2
  exact con_divmod w a b t u hb hab hbb oa ob hoa hob hap
theorem con_dmW (w : World) (a b : Int) (t u : Tok) {q r : Int} (hb : b ≠ 0) (hab : Builtin.Int.intBits a ≤ 4000) (hbb : Builtin.Int.intBits b ≤ 4000) (oa ob : List (Addr × Obj)) (hoa : Holding tabA oa) (hob : Holding tabB ob) (hap : Apart oa ob) (e1 : a.fdiv b = q) (e2 : a.fmod b = r) :
    ConT w 64 [.int a t, .int b u] 30 300 (oa ++ ob) (RetDiv q r) := by
  obtain ⟨o1, t1, s1⟩ := hoa
  obtain ⟨o2, t2, s2⟩ := hob
  exact (con_dmE w a b t u hb hab hbb o1 o2 t1 t2 (fun p hp q hq => hap p (s1 p hp) q (s2 q hq)) e1 e2).sub (fun p hp => (List.mem_append.mp hp).elim (fun h => List.mem_append_left _ (s1 p h)) (fun h => List.mem_append_right _ (s2 p h)))
theorem ap_hit {cA cB : Addr} {x y z v : Obj} (h1 : @Ne Nat cA 45) (h2 : @Ne Nat cB 38) (h3 : @Ne Nat cA cB) : Apart [((38 : Addr), x), (cA, y)] [((45 : Addr), z), (cB, v)] :=
  Apart.byA (apartA_cons (ne_two (show (45 : Nat) ≠ 38 by decide) h2) (apartA_cons (ne_two h1.symm h3.symm) apartA_nil))
theorem ne_four {a b c d x : Nat} (h1 : a ≠ x) (h2 : b ≠ x) (h3 : c ≠ x) (h4 : d ≠ x) : ∀ y ∈ [a, b, c, d], y ≠ x := fun y hy => by
  rcases List.mem_cons.mp hy with rfl | hy
  · exact h1
  · exact ne_three h2 h3 h4 y hy
theorem Apart.addr {a b a' b' : List (Addr × Obj)} (h : Apart a b) (e1 : a'.map (·.1) = a.map (·.1)) (e2 : b'.map (·.1) = b.map (·.1)) : Apart a' b' := Apart.byA (by
  rw [e1, e2]
  intro x hx y hy
  obtain ⟨p, hp, rfl⟩ := List.mem_map.mp hx
  obtain ⟨q, hq, rfl⟩ := List.mem_map.mp hy
  exact h p hp q hq)
theorem Apart.tail {p : Addr × Obj} {own rest : List (Addr × Obj)} (h : Apart (p :: own) rest) : Apart own rest := fun a ha => h a (List.mem_cons_of_mem _ ha)
section
variable {h₀ h : Heap} {L : Addr} {a b c d e f g x y : Addr × Obj}
theorem group9 (N : News h₀ L h [a, b, c, d, e, f, g, x, y]) : News h₀ L h (([c, d] ++ [e, f]) ++ [a, g, x, y]) := news_pick N [2, 3, 4, 5, 0, 6, 7, 8]
theorem group8h (N : News h₀ L h [a, b, c, d, e, f, g, x]) : News h₀ L h (([e, f] ++ [g, x]) ++ [a, b, c, d]) := news_pick N [4, 5, 6, 7, 0, 1, 2, 3]
end
theorem ap_h4 {cA cB i D M T : Nat} {x y z v o1 o2 o3 o4 : Obj} (hT : 45 < T ∧ 38 < T) (hM : T < M ∧ 45 < M ∧ 38 < M) (hD : M < D ∧ T < D ∧ 38 < D ∧ cA < D ∧ 45 < D ∧ cB < D)
    (hi : D < i ∧ M < i ∧ T < i ∧ 38 < i ∧ cA < i ∧ 45 < i ∧ cB < i) (m1 : M ≠ cA) (m2 : M ≠ cB) (t1 : T ≠ cA) (t2 : T ≠ cB) :
    Apart ([((38 : Addr), x), ((cA : Addr), y)] ++ [((45 : Addr), z), ((cB : Addr), v)]) [((i : Addr), o1), ((D : Addr), o2), ((M : Addr), o3), ((T : Addr), o4)] := by
  obtain ⟨a1, a2⟩ := hT
  obtain ⟨-, b1, b2⟩ := hM
  obtain ⟨-, -, c1, c2, c3, c4⟩ := hD
  obtain ⟨-, -, -, d1, d2, d3, d4⟩ := hi
  exact Apart.byA (apartA_cons (ne_four (Nat.ne_of_gt d1) (Nat.ne_of_gt c1) (Nat.ne_of_gt b2) (Nat.ne_of_gt a2)) (apartA_cons (ne_four (Nat.ne_of_gt d2) (Nat.ne_of_gt c2) m1 t1)
    (apartA_cons (ne_four (Nat.ne_of_gt d3) (Nat.ne_of_gt c3) (Nat.ne_of_gt b1) (Nat.ne_of_gt a1)) (apartA_cons (ne_four (Nat.ne_of_gt d4) (Nat.ne_of_gt c4) m2 t2) apartA_nil))))
/-- what an Apart says of each two places -/
theorem ap_four {own : List (Addr × Obj)} {a b c d : Addr} {o1 o2 o3 o4 : Obj} (h : Apart own [(a, o1), (b, o2), (c, o3), (d, o4)]) {x : Addr} {o : Obj} (hp : (x, o) ∈ own) : @Ne Nat a x ∧ @Ne Nat b x ∧ @Ne Nat c x ∧ @Ne Nat d x :=
  ⟨h _ hp _ (.head _), h _ hp _ (.tail _ (.head _)), h _ hp _ (.tail _ (.tail _ (.head _))), h _ hp _ (.tail _ (.tail _ (.tail _ (.head _))))⟩
theorem ap_54 {T9 a b c d i D M T : Addr} {o0 o1 o2 o3 o4 q1 q2 q3 q4 : Obj} (h : Apart ((T9, o0) :: ([(a, o1), (b, o2)] ++ [(c, o3), (d, o4)])) [(i, q1), (D, q2), (M, q3), (T, q4)]) :
    (@Ne Nat i T9 ∧ @Ne Nat D T9 ∧ @Ne Nat M T9 ∧ @Ne Nat T T9) ∧ (@Ne Nat i a ∧ @Ne Nat D a ∧ @Ne Nat M a ∧ @Ne Nat T a) ∧ (@Ne Nat i b ∧ @Ne Nat D b ∧ @Ne Nat M b ∧ @Ne Nat T b) ∧
      (@Ne Nat i c ∧ @Ne Nat D c ∧ @Ne Nat M c ∧ @Ne Nat T c) ∧ (@Ne Nat i d ∧ @Ne Nat D d ∧ @Ne Nat M d ∧ @Ne Nat T d) :=
  ⟨ap_four h (.head _), ap_four h (.tail _ (.head _)), ap_four h (.tail _ (.tail _ (.head _))), ap_four h (.tail _ (.tail _ (.tail _ (.head _)))), ap_four h (.tail _ (.tail _ (.tail _ (.tail _ (.head _)))))⟩
theorem ap_22 {a b c d : Addr} {o1 o2 o3 o4 : Obj} (h : Apart [(a, o1), (b, o2)] [(c, o3), (d, o4)]) : @Ne Nat c a ∧ @Ne Nat d a ∧ @Ne Nat c b ∧ @Ne Nat d b :=
  ⟨h _ (.head _) _ (.head _), h _ (.head _) _ (.tail _ (.head _)), h _ (.tail _ (.head _)) _ (.head _), h _ (.tail _ (.head _)) _ (.tail _ (.head _))⟩
theorem v2_few {n : Int} (h0 : 0 < n) (hb : Fit n) : v2 n ≤ 8000 := by
  obtain ⟨m, hm, hx⟩ := Tw.of (show n ≠ 0 by (first | lia | omega))
  have h1 := hb.2
  rw [show 16 = 2 ^ 4 from rfl, ← Nat.pow_mul] at h1
  have h2 : (2 ^ v2 n : Nat) ≤ n.natAbs := by
    have : n.natAbs = 2 ^ v2 n * m.natAbs := by
      have := congrArg Int.natAbs hx
      rw [Int.natAbs_mul, Int.natAbs_pow] at this
      exact this
    rw [this]
    exact Nat.le_mul_of_pos_right _ (by (first | lia | omega))
  have h3 : 2 ^ v2 n < 2 ^ (4 * 2000) := Nat.lt_of_le_of_lt h2 h1
  exact Nat.le_of_lt ((Nat.pow_lt_pow_iff_right (by decide)).mp h3)
theorem con_wordsE (w : World) (i n : Int) (t u : Tok) (hi : i = (v2 n : Nat)) (h0 : 0 < n) (hb : Fit n) : Con0 w 122 [.int i t, .int n u] 2 16 (fun _ => True) (fun v => ∃ t', v = .str (flagsS n) t') := by
  have h1 := v2_few h0 hb
  have h := con_words w i n t u (by (first | lia | omega)) (by (first | lia | omega)) hb
  rw [law_eq h0 hi] at h
  exact h
theorem inv_next {a rd : Int} {m r C c : Nat} {M T : Addr} {tabs : List (Addr × Obj)} {t u v : Tok} (hm : m ≤ 24) (ha : a = (m : Nat)) (h1 : 1 ≤ m) (hC : C = 2 ^ r * m) (hrd : rd = (r : Nat)) (hH : HitT M T tabs) :
    LawInv C c M T ((a.fdiv 2, t), (readS m c, u), (rd + (1 - a.fmod 2), v), tabs) := by
  obtain ⟨e1, e2⟩ := half_nat ha
  rcases Nat.mod_two_eq_zero_or_one m with h | h
  · refine .inl ⟨m / 2, r + 1, e1, ?_, ?_, by (first | lia | omega), ?_, hH.tab⟩
    · show rd + (1 - a.fmod 2) = _
      rw [e2, h, hrd]
      simp
    · show readS m c = _
      unfold readS
      rw [if_neg (by (first | lia | omega))]
    · rw [hC, Nat.pow_succ, Nat.mul_assoc]
      congr 1
      (first | lia | omega)
  · refine .inr ⟨r, m, m / 2, ?_, ?_, by (first | lia | omega), h, hC, hH.tab⟩
    · show rd + (1 - a.fmod 2) = _
      rw [e2, h, hrd]
      simp
    · show readS m c = _
      unfold readS
      rw [if_pos h]
theorem less_next {a : Int} (h : 1 ≤ a) : (a.fdiv 2).toNat < a.toNat := by
  rw [fdiv2]
  (first | lia | omega)
end Mine
end
section
open PySem PySem.W PySem.Spec PySem.Calls PyProof.Rows
namespace Mine
local macro_rules | `(tactic| size_fits) => `(tactic| first | assumption | (simp only [Str.length_append, quotes_len, sign_len, len257, lenQ, sizeLine_eq]; omega))
set_option pp.maxSteps 600 in
set_option maxHeartbeats 4000000 in
theorem law_holds : PySem.Challenge.rw_un0014_01.Holds := by
  k_with_none
  w_top off
  k_with "small" => first | with_reducible assumption | with_reducible exact Ne.symm (by assumption) | with_reducible exact Mine.room2 (by assumption) (by decide) | with_reducible exact Mine.room1 (by assumption) (by decide) | with_reducible exact Mine.room0 (by assumption) | decide +kernel | lia
  k_with "call ref" => (k_here; (with_reducible show wpAny _ _ (call (Value.ref 101) [Value.ref _, Value.int _ _, Value.int _ _]) _ _ _); k_dflt (refine' Con0.use (con_cell _ _ _ _ _ _ _ _ ?p1 ?p2 ?p3 ?p4) ?k1 ?k2 ?k3 ?k4 ?k5 ?kK ?kd ?ku ?kpre ?_; (case p1 => assumption); (case p2 => omega); (case p3 => omega); (case p4 => omega); (case kpre => unfold ListPre; assumption); ((case k1 => k_asm); (case k2 => k_asm); (case k3 => k_asm); (case k4 => k_asm); (case k5 => k_asm); (case kK => first | exact rfl | assumption); (case kd => ktr_room); (case ku => ktr_units)); intro v' h' tk' hv' F' N'; (obtain ⟨t', z', hv', hz1', hz2'⟩ := hv'); subst hv'))
  k_with "call ref" => (k_here; (with_reducible show wpAny _ _ (call (Value.ref 108) [Value.int _ _]) _ _ _); k_dflt (refine' Con0.use (con_twos _ _ _ ?p1) ?k1 ?k2 ?k3 ?k4 ?k5 ?kK ?kd ?ku ?kpre ?_; (case p1 => assumption); (case kpre => trivial); ((case k1 => k_asm); (case k2 => k_asm); (case k3 => k_asm); (case k4 => k_asm); (case k5 => k_asm); (case kK => first | exact rfl | assumption); (case kd => ktr_room); (case ku => ktr_units)); intro v' h' tk' hv' F' N'; (obtain ⟨t', hv'⟩ := hv'); subst hv'))
  k_with "binaryOp Mult str int" => (k_here; (with_reducible show wpAny _ _ (binaryOp Operator.Mult (Value.str (signS _) _) (Value.int _ _)) _ _ _); (refine SB.mul (mulOk_of 16 1048576 (by rw [sign_len]; decide) (by omega) (by omega) (by decide) (by decide)) ?_; intro _ _))
  k_with "call ref" => first | k_extra "my 96" | k_extra "my 64" | k_extra "my 22" | k_extra "my 122"
  k_with "exec For Name Call cons nil" => k_extra "my for"
  k_with "exec While Compare cons nil" => k_extra "my while"
  k_with "KswEnd" => k_extra "my end"
  k_with "exec If" => (k_here; kj_step)
  k_with "eval IfExp" => (k_here; (rename Fr _ _ _ _ => F'); (rename News _ _ _ _ => N'); k_dflt (refine' ifx_join F' N' ?kc ?_))
  k_with "imp" => (intro r' h' t' tk' hr' F' N'; kj_tests hr')
  k_with "my for" => (k_dflt (
    (rename Fr _ _ _ _ => F9); (rename News _ _ _ _ => N9)
    have G9 := law_gen F9 N9 (by assumption) (by assumption) (by assumption) (by assumption) (by assumption) (by assumption)
    clear F9 N9
    obtain ⟨p, q, st, ct, S, C, c, t3, t4, t5, t6, t7, u1, u2, u3, u4, hS, hst, hct, N9, F9⟩ := G9
    have hSC := hS.sc
    have hSI := sc_int hst hct
    obtain ⟨hp1, hp2, hq1, hq2, hs1, hs2, hc1, hc2, hm1, hm2⟩ := start_facts hS hst hct
    refine' for_rangeE (a₀ := 0) (n := S * C - 1) (fun c : (List Value × List Int × Nat) × (List Value × List Int × Nat) => [(_, W.listOf c.1.1.toArray c.1.2.2), (_, W.listOf c.2.1.toArray c.2.2.2), (45, tabObj #[]), (38, tabObj #[])]) (fun _ => []) (fun c => IntsAre c.1.1 c.1.2.1 ∧ IntsAre c.2.1 c.2.2.1) []
      (fun pre c => c.1.2.1 = rowL p q 2 p (pre.length + 2) ∧ c.2.2.1 = rowL p q 0 1 (pre.length + 2)) (([_, _], [2, p], 0), ([_, _], [0, 1], 0)) _ F9 N9 ?mA ?mF ?mK ?mP ?mX ?mC ?mH ?mHead ?mTurn ?mDone ?mS ?mE
    case mA => rfl
    case mF => exact ⟨.cons _ _ (.cons _ _ .nil), .cons _ _ (.cons _ _ .nil)⟩
    case mK => kst_all
    case mP => exact ⟨rfl, rfl⟩
    case mX => rfl
    case mC => rfl
    case mH => rfl
    case mS => intro _; rfl
    case mE => passes_own
    case' mTurn =>
      clear F9 N9
      rintro ⟨⟨vM, nsM, nM⟩, ⟨vT, nsT, nT⟩⟩ pre k t9 kU kH kTk own kEq kLt kOff kFacts kInv kFr kNews
      have kMark := kstMark
      ((try dsimp only [kstB] at kFr); (try dsimp only at kNews); (try dsimp only at kFacts); (try dsimp only at kInv); (try simp only [List.nil_append, List.cons_append, List.append_nil] at kNews); (try dsimp only at kOff); (try simp only [List.map_cons, List.map_nil] at kOff); (try k_fold))
      obtain ⟨eM, eT⟩ := kInv
      obtain ⟨hfM, hfT⟩ := kFacts
      have hL1 : nsM.length = pre.length + 2 := by rw [eM, rowL_len]
      have hL2 : nsT.length = pre.length + 2 := by rw [eT, rowL_len]
      have hL3 := hfM.length
      have hL4 := hfT.length

    case' mDone =>
      clear F9 N9
      rintro ⟨⟨vM, nsM, nM⟩, ⟨vT, nsT, nT⟩⟩ kU kH kTk kFacts kInv kFr kNews
      have kMark := kstMark
      ((try dsimp only [kstB] at kFr); (try dsimp only at kNews); (try dsimp only at kFacts); (try dsimp only at kInv); (try simp only [List.nil_append, List.cons_append, List.append_nil] at kNews); (try dsimp only at kOff); (try simp only [List.map_cons, List.map_nil] at kOff); (try k_fold))
      (refine fold_map kFr ?_; clear kFr; intro mkD kFr)
      obtain ⟨eM, eT⟩ := kInv
      obtain ⟨hfM, hfT⟩ := kFacts
      have hR := Rows.of hS hst eM eT
      obtain ⟨hL1, hL2, hV0, hU0, hx0, hx1, hx2⟩ := hR.facts
      have hL3 := hfM.length
      have hL4 := hfT.length
      clear eM eT))
  k_with "my while" => (k_dflt (
    (rename Fr _ _ _ _ => F9); (rename News _ _ _ _ => N9)
    refine' law_while F9 N9 ?wK hct hS.c1 ?wM ?wAlive ?wDead ?wE
    case wK => kst_all
    case wE => passes_own
    case wM => omega
    case' wDead =>
      clear F9 N9
      rintro ⟨⟨a, ta⟩, ⟨told, tt⟩, ⟨rd, tr⟩, tabs⟩ kU kH kTk ⟨r, j, k9, hrd, htold, hk9, hj, hCj, htabs⟩ kFr kNews
      (try dsimp only [kstB] at kFr)
      (try dsimp only at kNews)
      (refine fold_map kFr ?_; clear kFr; intro mkE kFr)
      (try k_fold)
      dsimp only at hrd htold htabs
      subst htold
      have hlast := last_no (k := k9) (c := c) (by have := hS.sgn; omega)
      obtain ⟨cA, cB, xA, oA, yB, oB, hH⟩ := htabs
      obtain ⟨hH0, wA, wB, a45, b38, ab, hma, hmb, hta9, htb9⟩ := hH
      subst hH0
      obtain ⟨tl0, tl1, tl2⟩ := last_facts hR hct
      replace tl1 := size_fit tl1
      have tl3 := size_pos tl0
    case' wAlive =>
      clear F9 N9
      rintro Q9 E9 s9 ⟨⟨a, ta⟩, ⟨told, tt⟩, ⟨rd, tr⟩, tabs⟩ kU kH kTk hE9 ⟨m, r, ha, hrd, htold, hm1, hCm, htabs⟩ kFr kNews
      (try dsimp only [kstB] at kFr)
      (try dsimp only at kNews)
      (refine fold_map kFr ?_; clear kFr; intro mkA kFr)
      (try k_fold)
      dsimp only at ha hrd htold htabs
      subst htold
      have hmC := pow_mul_le hCm
      obtain ⟨tne, tbl, tb0, tb1, td0, tm0, td1, tm1, tq0, tqf⟩ := turn_of hR ha hm1 hmC
      replace tqf := size_fit tqf
      have tqp := size_pos tq0
      obtain ⟨x1, x2, x3, x4, x5, x6, x7, x8, x9, x10, x11, x12, x13, x14, x15⟩ := turn_idx hR ha hm1 hmC
      have hread := read_no (c := c) ha
      have hlast := last_yes m c
      have hqq := int_same (quoE nsM st a)
      have hzz := int_same ((lowE nsT st a).fdiv 2)
      have hss := str_same (flagsS (if quoE nsM st a < 0 then -quoE nsM st a else quoE nsM st a))
      have hrl := read_fits (c := c) ha (by omega)
      have hm24 : m ≤ 24 := by omega
      obtain ⟨cA, cB, xA, oA, yB, oB, hH⟩ := htabs
      obtain ⟨hH0, wA, wB, a45, b38, ab, hma, hmb, hta9, htb9⟩ := hH
      subst hH0))
  k_with "my 96" => (k_here; (with_reducible show wpAny _ _ (call (Value.ref 96) [Value.str _ _]) _ _ _); k_dflt (
    refine' Con0.use (con_parse _ m c _ (by omega) (by have := hS.sgn; omega) _ (reply_of m c)) ?k1 ?k2 ?k3 ?k4 ?k5 ?kK ?kd ?ku trivial ?_
    ((case k1 => k_asm); (case k2 => k_asm); (case k3 => k_asm); (case k4 => k_asm); (case k5 => k_asm); (case kK => first | exact rfl | assumption); (case kd => ktr_room); (case ku => ktr_units))
    intro v' h' tk' hv' F' N'
    obtain ⟨t', hv'⟩ := hv'
    subst hv'))
  k_with "my 64" => (k_here; (with_reducible show wpAny _ _ (call (Value.ref 64) [Value.int _ _, Value.int _ _]) _ _ _); k_dflt (
    (rename Fr _ _ _ _ => F9); (rename News _ _ _ _ => N9)
    first
     | refine' ConT.use (con_dmE _ _ _ _ _ tne tb1 tbl [((38 : Addr), _), (cA, oA)] [((45 : Addr), _), (cB, oB)] (Or.inr ⟨cA, oA, vA, tA, rfl, dA, qA, nA⟩) (Or.inr ⟨cB, oB, vB, tB, rfl, dB, qB, nB⟩) hab0 td1 tm1) ?k1 ?k2 ?k3 (group9 N9) (Dj0.tail.addr rfl rfl) ?k5 ?kK ?kd ?ku ?_
     | refine' ConT.use (con_dmW _ _ _ _ _ tne tb0 tbl [((38 : Addr), tabObj xA), (cA, oA)] [((45 : Addr), tabObj yB), (cB, oB)] wA wB (ap_hit a45 b38 ab) td0 tm0) ?k1 ?k2 ?k3 (group8h N9) (ap_h4 (by assumption) (by assumption) (by assumption) (by assumption) hma hmb hta9 htb9) ?k5 ?kK ?kd ?ku ?_
    case k1 => k_asm
    case k2 => k_asm
    case k3 => k_asm
    case k5 => k_asm
    case kK => exact rfl
    case kd => ktr_room
    case ku => ktr_units
    clear F9 N9
    intro v' own' h' tk' hv' Dj' F' N'
    obtain ⟨T9, t9, u9, tA9, tB9, hv0, ho', hta, htb, hab0⟩ := hv'
    obtain ⟨cA, oA, vA, tA, hA0, dA, qA, nA⟩ := hta
    obtain ⟨cB, oB, vB, tB, hB0, dB, qB, nB⟩ := htb
    subst hA0 hB0
    subst hv0 ho'
    have Dj0 := Dj'
    obtain ⟨-, b38, a45, ba⟩ := ap_22 hab0
    obtain ⟨⟨n1, n2, n3, n4⟩, ⟨n5, n6, n7, n8⟩, ⟨n9, n10, n11, n12⟩, ⟨n13, n14, n15, n16⟩, ⟨n17, n18, n19, n20⟩⟩ := ap_54 Dj'
    simp only [List.cons_append, List.nil_append] at N'))
  k_with "my end" => (k_dflt (
    (rename Fr _ _ _ _ => F9); (rename News _ _ _ _ => N9)
    (try dsimp only [mkA] at F9)
    refine' ksw_end (((a.fdiv 2, _), (readS m c, _), (rd + (1 - a.fmod 2), _), [((38 : Addr), tabObj #[rawInt 46, rawInt 4, .ref cA]), (cA, oA), ((45 : Addr), tabObj #[rawInt 61, rawInt 4, .ref cB]), (cB, oB)]) : LawSt) F9 N9 ?wIn trivial ?wK ?wR ?wP ?wM
    case wK => kst_all
    case wIn => kst_in
    case wR => ksw_same
    case wM => exact less_next (by omega)
    case wP => exact inv_next hm24 ha hm1 hCm hrd ⟨cA, cB, oA, oB, vA, vB, tA, tB, rfl, dB, qB, dA, qA, nA, Ne.symm a45, nB, b38, Ne.symm ba, n11, n19, n12, n20⟩))
  k_with "my 22" => (k_here; (with_reducible show wpAny _ _ (call (Value.ref 22) [Value.int _ _]) _ _ _); k_dflt (
    refine' Con0.use (con_flags _ _ _ (by assumption) (by assumption)) ?k1 ?k2 ?k3 ?k4 ?k5 ?kK ?kd ?ku trivial ?_
    ((case k1 => k_asm); (case k2 => k_asm); (case k3 => k_asm); (case k4 => k_asm); (case k5 => k_asm); (case kK => first | exact rfl | assumption); (case kd => ktr_room); (case ku => ktr_units))
    intro v' h' tk' hv' F' N'
    obtain ⟨t', hv'⟩ := hv'
    subst hv'))
  k_with "my 122" => (k_here; (with_reducible show wpAny _ _ (call (Value.ref 122) [Value.int _ _, Value.int _ _]) _ _ _); k_dflt (
    refine' Con0.use (con_wordsE _ _ _ _ _ ?p0 ?p1 ?p2) ?k1 ?k2 ?k3 ?k4 ?k5 ?kK ?kd ?ku trivial ?_
    case p0 => first | exact word_even2 hR ha hmC (by assumption) | exact word_odd2 hR ha hmC (by assumption) | exact word_even hR ha hmC (by assumption) | exact word_odd hR ha hmC (by assumption) | exact word_last hR hct hrd hj hCj (by assumption)
    case p1 => assumption
    case p2 => assumption
    ((case k1 => k_asm); (case k2 => k_asm); (case k3 => k_asm); (case k4 => k_asm); (case k5 => k_asm); (case kK => first | exact rfl | assumption); (case kd => ktr_room); (case ku => ktr_units))
    intro v' h' tk' hv' F' N'
    obtain ⟨t', hv'⟩ := hv'
    subst hv'))
  refine hd ?_
  k_go0
  all_goals (try k_fold)
  k_steps
  all_goals (first | assumption | exact range_small (by omega) (by omega) (by omega) (by omega) | (rw [rangeSize_nat]; omega) | skip)
  (rename News _ _ _ _ => nE'); simp only [List.push_toArray] at nE'; obtain ⟨tV, tW, nW⟩ := exTok2 nE'; (rename Fr _ _ _ _ => fE')
  refine kst_end (⟨⟨vM ++ [.int (p * nsM.getD (k + 1).toNat 0 - q * nsM.getD k.toNat 0) tV], nsM ++ [p * nsM.getD (k + 1).toNat 0 - q * nsM.getD k.toNat 0], nM + 1⟩, ⟨vT ++ [.int (p * nsT.getD (k + 1).toNat 0 - q * nsT.getD k.toNat 0) tW], nsT ++ [p * nsT.getD (k + 1).toNat 0 - q * nsT.getD k.toNat 0], nT + 1⟩⟩ : (List Value × List Int × Nat) × (List Value × List Int × Nat)) fE' nW ?mi (fun p hp => .tail _ (.tail _ (.tail _ (.tail _ hp)))) rfl ⟨IntsAre.append hfM (.cons _ _ .nil), IntsAre.append hfT (.cons _ _ .nil)⟩ ?mk ?ms ?mp
  case mi => exact fun p hp => List.mem_append_left _ hp
  case mk => exact fun p hp => nomatch hp
  case ms => kst_same
  case mp => exact ⟨row_on kEq eM, row_on kEq eT⟩
end Mine
end
theorem PySem.Challenge.cw_un0014_01_holds : PySem.Challenge.rw_un0014_01.Holds := by
  exact Mine.law_holds
