import PyProof.Rows.All
import Wide.All
import OpenK.AllK
import Wide.FinOn
import Lean
import PySem.Challenge.RW_ty0049_01
open PySem PySem.W PyProof.Rows
set_option Elab.async false
set_option maxRecDepth 100000
namespace Mine
set_option maxHeartbeats 8000000 in
open_top hd for PySem.Challenge.rw_ty0049_01
noncomputable abbrev Led := List (Addr × Obj)
noncomputable abbrev LOOSE : List Str := looseW hd.view_39 [Str.ofString "COMPILER_FLAG_NAMES", Str.ofString "insort_right", Str.ofString "bisect_right", Str.ofString "bisect_left", Str.ofString "Whitespace"]
/-- what a call of the def at f with these arguments hands back, in whatever frame of a def it stands -/
noncomputable def Ctr (k : Nat) (w : World) (f : Addr) (vs : List Value) (news : Led) (Post : Value → Led → Prop) : Prop :=
  ∀ (mean : ExcName → Option Value) (mg mb : Str → Option Value) (dp un : Nat) (gd : Option (List Code)) (cn : Str) (cs : Scope) (a : Addr) (ccd : Value) (cl : List (Str × Addr)) (outer : List Env) (A₀ : Around) (base h₀ : Heap) (L : Addr) (m : Str → Option Value) (s : Shared) (Q E : Value → Shared → Prop),
    Below A₀ base outer h₀ → Fr h₀ L s.heap m → (hd.heap_39 w.params).In h₀ → News h₀ L s.heap news → Top hd.view_39 LOOSE mean mg mb h₀ → cs.kind = .function → dp + 4 * k < recursionLimit → un + 20 * k < cLine →
    (∀ v news' h' tk', Post v news' → Fr h₀ L h' m → News h₀ L h' news' → Q v { s with heap := h', toks := tk' }) →
    wpAny (model Challenge.rw_ty0049_01.row.prog w) (ktrTop dp un gd cn cs L a ccd cl outer) (call (.ref f) vs) Q E s
theorem ctr_use {k : Nat} {w : World} {f : Addr} {vs : List Value} {news : Led} {Post : Value → Led → Prop} {mean : ExcName → Option Value} {mg mb : Str → Option Value} {dp un : Nat} {gd : Option (List Code)} {cn : Str} {cs : Scope} {a : Addr} {ccd : Value} {cl : List (Str × Addr)} {outer : List Env} {A₀ : Around} {base h₀ : Heap} {L : Addr} {m : Str → Option Value} {s : Shared} {Q E : Value → Shared → Prop}
    (C : Ctr k w f vs news Post) (B : Below A₀ base outer h₀) (F : Fr h₀ L s.heap m) (X : (hd.heap_39 w.params).In h₀) (N : News h₀ L s.heap news) (T : Top hd.view_39 LOOSE mean mg mb h₀) (hk : cs.kind = .function) (hd : dp + 4 * k < recursionLimit) (hu : un + 20 * k < cLine)
    (ret : ∀ v news' h' tk', Post v news' → Fr h₀ L h' m → News h₀ L h' news' → Q v { s with heap := h', toks := tk' }) :
    wpAny (model Challenge.rw_ty0049_01.row.prog w) (ktrTop dp un gd cn cs L a ccd cl outer) (call (.ref f) vs) Q E s := C mean mg mb dp un gd cn cs a ccd cl outer A₀ base h₀ L m s Q E B F X N T hk hd hu ret
/-- a call that only reads one list: the ledger may stand in any order -/
theorem ctr_mem {k : Nat} {w : World} {f : Addr} {vs : List Value} {l : Addr} {o : Obj} {P : Value → Prop} {news : Led} (C : ∀ rest : Led, Ctr k w f vs ((l, o) :: rest) (fun v nw => nw = (l, o) :: rest ∧ P v)) (hm : (l, o) ∈ news) : Ctr k w f vs news (fun v nw => nw = news ∧ P v) := by
  intro mean mg mb dp un gd cn cs a ccd cl outer A₀ base h₀ L m s Q E B F X N T hk hd hu hret
  refine C news mean mg mb dp un gd cn cs a ccd cl outer A₀ base h₀ L m s Q E B F X (fun p hp => ?_) T hk hd hu ?_
  · rcases List.mem_cons.mp hp with rfl | hp
    · exact N _ hm
    · exact N _ hp
  · rintro v nw h' tk' ⟨rfl, hP⟩ F' N'
    exact hret v news h' tk' ⟨rfl, hP⟩ F' fun p hp => N' p (List.mem_cons_of_mem _ hp)
theorem allLt_ne {d : Addr} : ∀ {r : Led}, AllLt d r → ∀ p ∈ r, p.1 ≠ d
  | [], _, _, hp => nomatch hp
  | q :: r, h, p, hp => by
    rcases List.mem_cons.mp hp with rfl | hp
    · exact Nat.ne_of_lt h.1
    · exact allLt_ne h.2 p hp
/-- one entry taken out of the ledger -/
inductive Pull (l : Addr) (o : Obj) : Led → Led → Prop
  | head {r : Led} : (∀ p ∈ r, p.1 ≠ l) → Pull l o ((l, o) :: r) r
  | tail {p : Addr × Obj} {r r' : Led} : p.1 ≠ l → Pull l o r r' → Pull l o (p :: r) (p :: r')
theorem Pull.mem {l : Addr} {o : Obj} {r r' : Led} (h : Pull l o r r') : ∀ p ∈ (l, o) :: r', p ∈ r := by
  induction h with
  | head _ => exact fun p hp => hp
  | tail _ _ ih =>
    intro q hq
    rcases List.mem_cons.mp hq with rfl | hq
    · exact .tail _ (ih _ (.head _))
    · rcases List.mem_cons.mp hq with rfl | hq
      · exact .head _
      · exact .tail _ (ih _ (.tail _ hq))
theorem Pull.ne {l : Addr} {o : Obj} {r r' : Led} (h : Pull l o r r') : ∀ p ∈ r', p.1 ≠ l := by
  induction h with
  | head h => exact h
  | tail h _ ih =>
    intro q hq
    rcases List.mem_cons.mp hq with rfl | hq
    · exact h
    · exact ih q hq
theorem Pull.news {l : Addr} {o : Obj} {r r' : Led} {h₀ h : Heap} {L : Addr} (P : Pull l o r r') (N : News h₀ L h r) : News h₀ L h ((l, o) :: r') := fun p hp => N p (P.mem p hp)
theorem all_append {d : Addr} {a b : Led} (h1 : ∀ p ∈ a, p.1 ≠ d) (h2 : ∀ p ∈ b, p.1 ≠ d) : ∀ p ∈ a ++ b, p.1 ≠ d := fun p hp => (List.mem_append.mp hp).elim (h1 p) (h2 p)
theorem news_skip2 {h₀ h : Heap} {L : Addr} {a x y : Addr × Obj} {r : Led} (N : News h₀ L h (a :: x :: y :: r)) : News h₀ L h (a :: r) := fun p hp => N p ((List.mem_cons.mp hp).elim (fun e => e ▸ .head _) fun h => .tail _ (.tail _ (.tail _ h)))
theorem ints_eq {vs : List Value} {ns ms : List Int} (h : IntsAre vs ns) (e : ns = ms) : IntsAre vs ms := e ▸ h
theorem news_skip1 {h₀ h : Heap} {L : Addr} {a x : Addr × Obj} {r : Led} (N : News h₀ L h (a :: x :: r)) : News h₀ L h (a :: r) := fun p hp => N p ((List.mem_cons.mp hp).elim (fun e => e ▸ .head _) fun h => .tail _ (.tail _ h))
theorem news_tl {h₀ h : Heap} {L : Addr} {x : Addr × Obj} {r : Led} (N : News h₀ L h (x :: r)) : News h₀ L h r := fun p hp => N p (.tail _ hp)
theorem news_left {h₀ h : Heap} {L : Addr} {a b : Led} (N : News h₀ L h (a ++ b)) : News h₀ L h a := fun p hp => N p (List.mem_append.mpr (.inl hp))
theorem news_ne {h₀ h : Heap} {L a b : Addr} {o o' : Obj} {l : Led} (N : News h₀ L h l) (ha : (a, o) ∈ l) (hb : (b, o') ∈ l) (ho : o.cls ≠ o'.cls) : @Ne Nat a b := fun e => by
  have h1 := (N _ ha).1
  have h2 := (N _ hb).1
  have e' : a = b := e
  subst e'
  exact ho (congrArg Obj.cls (Option.some.inj (h1.symm.trans h2)))
theorem tup_dict : (Value.type "tuple") ≠ (Value.type "dict") := fun e => by
  injection e with e
  exact absurd e (by decide)
theorem tup_list : (Value.type "tuple") ≠ (Value.type "list") := fun e => by
  injection e with e
  exact absurd e (by decide)
section
variable {prog : Program} {w : World} {A : Around} {E : Value → Shared → Prop} {s : Shared} {h₀ : Heap} {L D : Addr} {news : Led} {vs : List Value} {ns ks : List Int} {n : Nat} {u : Tok}
theorem kinds_get {j : Nat} {Q : Value → Shared → Prop} (N : News h₀ L s.heap news) (hm : (D, listOf vs.toArray n) ∈ news) (hi : IntsAre vs ns) (hks : ∀ i : Nat, 0 ≤ ks.getD i 0 ∧ ks.getD i 0 < 8) (hl : ns.length = 8)
    (h : ∀ t, 0 ≤ ks.getD j 0 → ks.getD j 0 < 8 → Q (.int (ns.getD (ks.getD j 0).toNat 0) t) s) : wpAny (model prog w) A (getItem (.ref D) (.int (ks.getD j 0) u)) Q E s :=
  ksa_get N hm hi (hks j).1 (by have := (hks j).2; omega) (by have := (hks j).2; omega) fun t => h t (hks j).1 (hks j).2
end
local macro_rules | `(tactic| walk_at $s:str) => `(tactic| k_extra $(Lean.Syntax.mkStrLit ("m " ++ s.getString)))
local macro_rules | `(tactic| k_all) => `(tactic| k_extra "m k_all")
section
theorem fresh_Bisect : True := by
  w_top off
  k_with_none
  k_with "m mine enter" => (k_dflt (refine' code_def ?z1k1 ?z1k2 ?z1k3 ?z1k4 ?z1k5 ?z1kA ?z1kF ?z1kK ?z1k6 ?z1k7 ?z1k8 ?z1k9 ?z1kB ?_ ?z1c2 ?z1c3 ?z1c4 ?z1c5; (case z1kA => exact rfl); (case z1kF => exact rfl); (case z1kK => assumption); (case z1k1 => k_asm); (case z1k2 => k_asm); (case z1k3 => k_asm); (case z1k4 => k_asm); (case z1k5 => k_asm); (case z1k6 => k_is); (case z1k7 => k_is); (case z1k8 => ktr_room); (case z1k9 => first | exact BindsTo.of_eq rfl | exact binds_K (by k_in) rfl (by k_is) rfl rfl rfl | (refine' kp_binds ?z1kx ?z1ke; (case z1kx => k_in); (case z1ke => exact fun _ => rfl))); (case z1c5 => decide); (case z1kB => exact locs rfl); (case z1c2 => exact rfl); (case z1c3 => exact rfl); (case z1c4 => exact rfl); k_whole; intro zg' zL' zh' zFG' zF' zN' zB' zX' zT'; (try dsimp only); (try k_lift zB'); (try k_fold)))
  k_with "m k_all" => ((refine Mine.allLt_ne ?_; first | assumption | exact And.right (by assumption) | exact And.right (And.right (by assumption)) | exact And.right (And.right (And.right (by assumption))) | exact And.right (And.right (And.right (And.right (by assumption)))) | exact And.right (And.right (And.right (And.right (And.right (by assumption)))))))
  k_with "m mine pull" => (first | (refine' Mine.Pull.head ?z3a; (case z3a => k_all)) | (refine' Mine.Pull.tail ?z3a ?z3b; (case z3a => k_ne); (case z3b => walk_at "mine pull")))
  k_with "m k_all" => ((refine Mine.all_append ?z4a ?z4b; (case z4a => k_all); (case z4b => k_all)))
  k_with "m getItem ref int" => ((k_here; (with_reducible show wpAny _ _ (getItem (Value.ref _) (Value.int (List.getD _ _ _) _)) _ _ _); k_dflt (refine' Mine.kinds_get ?z5k1 ?z5k2 ?z5k3 ?z5k4 ?z5k5 ?_; (case z5k1 => k_asm); (case z5k2 => k_mem); (case z5k3 => with_reducible assumption); (case z5k4 => assumption); (case z5k5 => assumption)); intro zt9 zb9 zc9; walk_say "KINDS"))
  k_with "m mine for" => (((with_reducible rename Fr _ _ _ _ => zlF'); (with_unfolding_all refine' For_invVF zlF' ?z6k1 ?z6k2 ?_; (case z6k1 => exact rfl); (case z6k2 => exact rfl); k_whole)))
  k_with "m mine enterC" => (k_dflt (refine' code_defC ?z7k1 ?z7k2 ?z7k3 ?z7k4 ?z7k5 ?z7kA ?z7kF ?z7kK ?z7k6 ?z7k7 ?z7k8 ?z7k9 ?z7kB ?z7kD ?_ ?z7c2 ?z7c3 ?z7c4; (case z7kA => exact rfl); (case z7kF => exact rfl); (case z7kK => assumption); (case z7k1 => k_asm); (case z7k2 => k_asm); (case z7k3 => k_asm); (case z7k4 => k_asm); (case z7k5 => k_asm); (case z7k6 => k_is); (case z7k7 => k_is); (case z7k8 => ktr_room); (case z7k9 => first | exact BindsTo.of_eq rfl | exact binds_K (by k_in) rfl (by k_is) rfl rfl rfl | (refine' kp_binds ?z7kx ?z7ke; (case z7kx => k_in); (case z7ke => exact fun _ => rfl))); (case z7kB => exact rfl); (case z7kD => decide +kernel); (case z7c2 => exact rfl); (case z7c3 => exact rfl); (case z7c4 => exact rfl); k_whole; intro zg' zL' zh' ztk' zcells' zFG' zF' zN' zY' zB' zX' zT' zl1; (try k_lt zl1); k_cells zY'; (try simp only [List.cons_append, List.nil_append] at zN'); (try dsimp only); (try k_lift zB'); (try k_fold)))
  k_with "m mine news" => (((with_reducible rename News _ _ _ _ => znX9); with_reducible (first | exact znX9 | exact Mine.news_tl znX9 | exact Mine.news_tl (Mine.news_tl znX9) | exact Mine.news_tl (Mine.news_tl (Mine.news_tl znX9)) | exact Mine.news_tl (Mine.news_tl (Mine.news_tl (Mine.news_tl znX9))) | exact Mine.news_tl (Mine.news_tl (Mine.news_tl (Mine.news_tl (Mine.news_tl znX9)))) | exact Mine.news_tl (Mine.news_tl (Mine.news_tl (Mine.news_tl (Mine.news_tl (Mine.news_tl znX9))))))))
  k_with "m k_all" => (with_reducible assumption)
  exact trivial
noncomputable def Sorted (ns : List Int) : Prop := ∀ i j : Nat, i ≤ j → j < ns.length → ns.getD i 0 ≤ ns.getD j 0
theorem fdiv2 (a : Int) : a.fdiv 2 = a / 2 := Int.fdiv_eq_ediv_of_nonneg _ (by decide)
/-- bisect_left: all before k are below x, none from k on is -/
noncomputable def BL (ns : List Int) (x : Int) (k : Int) : Prop := 0 ≤ k ∧ k ≤ ns.length ∧ (∀ i : Nat, (i : Int) < k → ns.getD i 0 < x) ∧ (∀ i : Nat, k ≤ i → i < ns.length → x ≤ ns.getD i 0)
noncomputable def BLw (x : Int) (ns : List Int) (lo hi : Int) : Prop := 0 ≤ lo ∧ lo ≤ hi ∧ hi ≤ ns.length ∧ (∀ i : Nat, (i : Int) < lo → ns.getD i 0 < x) ∧ (∀ i : Nat, hi ≤ i → i < ns.length → x ≤ ns.getD i 0)
noncomputable abbrev BLf (x : Int) (ns : List Int) (lo hi : Int) : Prop := (0 ≤ lo ∧ lo ≤ hi ∧ hi ≤ (ns.length : Int)) ∧ BLw x ns lo hi
theorem blw_start (x : Int) (ns : List Int) : BLf x ns 0 ns.length := ⟨⟨by omega, by omega, by omega⟩, by omega, by omega, by omega, fun i h => by omega, fun i h h' => by omega⟩
theorem blw_lo {x : Int} {ns : List Int} {lo hi mid : Int} (hso : Sorted ns) (h : BLw x ns lo hi) (h1 : lo < hi) (hm : mid = (lo + hi).fdiv 2) (hx : ns.getD mid.toNat 0 < x) : BLf x ns (mid + 1) hi := by
  obtain ⟨a, b, c, d, e⟩ := h
  rw [fdiv2] at hm
  refine ⟨⟨by omega, by omega, by omega⟩, by omega, by omega, c, fun i hi' => ?_, e⟩
  exact Int.lt_of_le_of_lt (hso i mid.toNat (by omega) (by omega)) hx
theorem blw_hi {x : Int} {ns : List Int} {lo hi mid : Int} (hso : Sorted ns) (h : BLw x ns lo hi) (h1 : lo < hi) (hm : mid = (lo + hi).fdiv 2) (hx : ¬ ns.getD mid.toNat 0 < x) : BLf x ns lo mid := by
  obtain ⟨a, b, c, d, e⟩ := h
  rw [fdiv2] at hm
  refine ⟨⟨by omega, by omega, by omega⟩, by omega, by omega, by omega, d, fun i hi' hl => ?_⟩
  exact Int.le_trans (Int.not_lt.mp hx) (hso mid.toNat i (by omega) hl)
theorem bl_of {x : Int} {ns : List Int} {lo hi : Int} (h : BLw x ns lo hi) (h1 : ¬ lo < hi) : BL ns x lo := by
  obtain ⟨a, b, c, d, e⟩ := h
  exact ⟨a, by omega, d, fun i h2 h3 => e i (by omega) h3⟩
set_option maxHeartbeats 8000000 in
theorem c_bisect_left (w : World) (l : Addr) (vs : List Value) (ns : List Int) (n : Nat) (x : Int) (t : Tok) (hi : IntsAre vs ns) (hlen : ns.length ≤ 8) (hso : Sorted ns) (rest : Led) :
    Ctr 1 w 56 [.ref l, .int x t] ((l, listOf vs.toArray n) :: rest) (fun v nw => nw = (l, listOf vs.toArray n) :: rest ∧ ∃ k t', v = .int k t' ∧ BL ns x k) := by
  unfold Ctr
  k_fill
  intro mean mg mb dp un gd cn cs a ccd cl outer A₀ base h₀ L m s Q E B F X N T hk hd hu hret
  refine wpAny_call ?_
  walk_at "mine enter"
  k_with "exec While Compare cons nil" => k_while (fun script lo hi => (0 ≤ lo ∧ lo ≤ hi ∧ hi ≤ (script.length : Int)) ∧ BLw x script lo hi) (fun script lo hi => (hi - lo).toNat) "lo" "hi"
  k_with "state" => first | exact blw_start _ _ | exact blw_lo (by assumption) (by assumption) (by assumption) rfl (by assumption) | exact blw_hi (by assumption) (by assumption) (by assumption) rfl (by assumption)
  k_with "measure" => (simp only [fdiv2]; omega)
  k_steps
  all_goals exact hret _ _ _ _ ⟨rfl, _, _, rfl, bl_of (by assumption) (by assumption)⟩ (by assumption) (by assumption)
/-- bisect_right: none before k is above x, all from k on are -/
noncomputable def BR (ns : List Int) (x : Int) (k : Int) : Prop := 0 ≤ k ∧ k ≤ ns.length ∧ (∀ i : Nat, (i : Int) < k → ns.getD i 0 ≤ x) ∧ (∀ i : Nat, k ≤ i → i < ns.length → x < ns.getD i 0)
noncomputable def BRw (x : Int) (ns : List Int) (lo hi : Int) : Prop := 0 ≤ lo ∧ lo ≤ hi ∧ hi ≤ ns.length ∧ (∀ i : Nat, (i : Int) < lo → ns.getD i 0 ≤ x) ∧ (∀ i : Nat, hi ≤ i → i < ns.length → x < ns.getD i 0)
noncomputable abbrev BRf (x : Int) (ns : List Int) (lo hi : Int) : Prop := (0 ≤ lo ∧ lo ≤ hi ∧ hi ≤ (ns.length : Int)) ∧ BRw x ns lo hi
theorem brw_start (x : Int) (ns : List Int) : BRf x ns 0 ns.length := ⟨⟨by omega, by omega, by omega⟩, by omega, by omega, by omega, fun i h => by omega, fun i h h' => by omega⟩
theorem brw_lo {x : Int} {ns : List Int} {lo hi mid : Int} (hso : Sorted ns) (h : BRw x ns lo hi) (h1 : lo < hi) (hm : mid = (lo + hi).fdiv 2) (hx : ¬ x < ns.getD mid.toNat 0) : BRf x ns (mid + 1) hi := by
  obtain ⟨a, b, c, d, e⟩ := h
  rw [fdiv2] at hm
  refine ⟨⟨by omega, by omega, by omega⟩, by omega, by omega, c, fun i hi' => ?_, e⟩
  exact Int.le_trans (hso i mid.toNat (by omega) (by omega)) (Int.not_lt.mp hx)
theorem brw_hi {x : Int} {ns : List Int} {lo hi mid : Int} (hso : Sorted ns) (h : BRw x ns lo hi) (h1 : lo < hi) (hm : mid = (lo + hi).fdiv 2) (hx : x < ns.getD mid.toNat 0) : BRf x ns lo mid := by
  obtain ⟨a, b, c, d, e⟩ := h
  rw [fdiv2] at hm
  refine ⟨⟨by omega, by omega, by omega⟩, by omega, by omega, by omega, d, fun i hi' hl => ?_⟩
  exact Int.lt_of_lt_of_le hx (hso mid.toNat i (by omega) hl)
theorem br_of {x : Int} {ns : List Int} {lo hi : Int} (h : BRw x ns lo hi) (h1 : ¬ lo < hi) : BR ns x lo := by
  obtain ⟨a, b, c, d, e⟩ := h
  exact ⟨a, by omega, d, fun i h2 h3 => e i (by omega) h3⟩
set_option maxHeartbeats 8000000 in
theorem c_bisect_right (w : World) (l : Addr) (vs : List Value) (ns : List Int) (n : Nat) (x : Int) (t t0 : Tok) (hi : IntsAre vs ns) (hlen : ns.length ≤ 8) (hso : Sorted ns) (rest : Led) :
    Ctr 1 w 47 [.ref l, .int x t, .int 0 t0, .none] ((l, listOf vs.toArray n) :: rest) (fun v nw => nw = (l, listOf vs.toArray n) :: rest ∧ ∃ k t', v = .int k t' ∧ BR ns x k) := by
  unfold Ctr
  k_fill
  intro mean mg mb dp un gd cn cs a ccd cl outer A₀ base h₀ L m s Q E B F X N T hk hd hu hret
  refine wpAny_call ?_
  walk_at "mine enter"
  k_with "exec While Compare cons nil" => k_while (fun script lo hi => (0 ≤ lo ∧ lo ≤ hi ∧ hi ≤ (script.length : Int)) ∧ BRw x script lo hi) (fun script lo hi => (hi - lo).toNat) "lo" "hi"
  k_with "state" => first | exact brw_start _ _ | exact brw_lo (by assumption) (by assumption) (by assumption) rfl (by assumption) | exact brw_hi (by assumption) (by assumption) (by assumption) rfl (by assumption)
  k_with "measure" => (simp only [fdiv2]; omega)
  k_steps
  all_goals exact hret _ _ _ _ ⟨rfl, _, _, rfl, br_of (by assumption) (by assumption)⟩ (by assumption) (by assumption)

end
section
theorem fresh_Insort : True := by
  w_top off
  k_with_none
  k_with "m mine enter" => (k_dflt (refine' code_def ?z10k1 ?z10k2 ?z10k3 ?z10k4 ?z10k5 ?z10kA ?z10kF ?z10kK ?z10k6 ?z10k7 ?z10k8 ?z10k9 ?z10kB ?_ ?z10c2 ?z10c3 ?z10c4 ?z10c5; (case z10kA => exact rfl); (case z10kF => exact rfl); (case z10kK => assumption); (case z10k1 => k_asm); (case z10k2 => k_asm); (case z10k3 => k_asm); (case z10k4 => k_asm); (case z10k5 => k_asm); (case z10k6 => k_is); (case z10k7 => k_is); (case z10k8 => ktr_room); (case z10k9 => first | exact BindsTo.of_eq rfl | exact binds_K (by k_in) rfl (by k_is) rfl rfl rfl | (refine' kp_binds ?z10kx ?z10ke; (case z10kx => k_in); (case z10ke => exact fun _ => rfl))); (case z10c5 => decide); (case z10kB => exact locs rfl); (case z10c2 => exact rfl); (case z10c3 => exact rfl); (case z10c4 => exact rfl); k_whole; intro zg' zL' zh' zFG' zF' zN' zB' zX' zT'; (try dsimp only); (try k_lift zB'); (try k_fold)))
  k_with "m k_all" => ((refine Mine.allLt_ne ?_; first | assumption | exact And.right (by assumption) | exact And.right (And.right (by assumption)) | exact And.right (And.right (And.right (by assumption))) | exact And.right (And.right (And.right (And.right (by assumption)))) | exact And.right (And.right (And.right (And.right (And.right (by assumption)))))))
  k_with "m mine pull" => (first | (refine' Mine.Pull.head ?z12a; (case z12a => k_all)) | (refine' Mine.Pull.tail ?z12a ?z12b; (case z12a => k_ne); (case z12b => walk_at "mine pull")))
  k_with "m k_all" => ((refine Mine.all_append ?z13a ?z13b; (case z13a => k_all); (case z13b => k_all)))
  k_with "m getItem ref int" => ((k_here; (with_reducible show wpAny _ _ (getItem (Value.ref _) (Value.int (List.getD _ _ _) _)) _ _ _); k_dflt (refine' Mine.kinds_get ?z14k1 ?z14k2 ?z14k3 ?z14k4 ?z14k5 ?_; (case z14k1 => k_asm); (case z14k2 => k_mem); (case z14k3 => with_reducible assumption); (case z14k4 => assumption); (case z14k5 => assumption)); intro zt9 zb9 zc9; walk_say "KINDS"))
  k_with "m mine for" => (((with_reducible rename Fr _ _ _ _ => zlF'); (with_unfolding_all refine' For_invVF zlF' ?z15k1 ?z15k2 ?_; (case z15k1 => exact rfl); (case z15k2 => exact rfl); k_whole)))
  k_with "m mine enterC" => (k_dflt (refine' code_defC ?z16k1 ?z16k2 ?z16k3 ?z16k4 ?z16k5 ?z16kA ?z16kF ?z16kK ?z16k6 ?z16k7 ?z16k8 ?z16k9 ?z16kB ?z16kD ?_ ?z16c2 ?z16c3 ?z16c4; (case z16kA => exact rfl); (case z16kF => exact rfl); (case z16kK => assumption); (case z16k1 => k_asm); (case z16k2 => k_asm); (case z16k3 => k_asm); (case z16k4 => k_asm); (case z16k5 => k_asm); (case z16k6 => k_is); (case z16k7 => k_is); (case z16k8 => ktr_room); (case z16k9 => first | exact BindsTo.of_eq rfl | exact binds_K (by k_in) rfl (by k_is) rfl rfl rfl | (refine' kp_binds ?z16kx ?z16ke; (case z16kx => k_in); (case z16ke => exact fun _ => rfl))); (case z16kB => exact rfl); (case z16kD => decide +kernel); (case z16c2 => exact rfl); (case z16c3 => exact rfl); (case z16c4 => exact rfl); k_whole; intro zg' zL' zh' ztk' zcells' zFG' zF' zN' zY' zB' zX' zT' zl1; (try k_lt zl1); k_cells zY'; (try simp only [List.cons_append, List.nil_append] at zN'); (try dsimp only); (try k_lift zB'); (try k_fold)))
  k_with "m mine news" => (((with_reducible rename News _ _ _ _ => znX9); with_reducible (first | exact znX9 | exact Mine.news_tl znX9 | exact Mine.news_tl (Mine.news_tl znX9) | exact Mine.news_tl (Mine.news_tl (Mine.news_tl znX9)) | exact Mine.news_tl (Mine.news_tl (Mine.news_tl (Mine.news_tl znX9))) | exact Mine.news_tl (Mine.news_tl (Mine.news_tl (Mine.news_tl (Mine.news_tl znX9)))) | exact Mine.news_tl (Mine.news_tl (Mine.news_tl (Mine.news_tl (Mine.news_tl (Mine.news_tl znX9))))))))
  k_with "m k_all" => (with_reducible assumption)
  exact trivial
theorem rules_Insort_1 : True := by
  k_with "m call ref" => ((k_here; (with_reducible show wpAny _ _ (call (Value.ref 47) _) _ _ _); k_dflt (refine' ctr_use (c_bisect_right _ _ _ _ _ _ _ _ ?z19c1 ?z19c2 ?z19c3 _) ?z19k1 ?z19k2 ?z19k3 ?z19k4 ?z19k5 ?z19k6 ?z19k7 ?z19k8 ?_; (case z19k1 => k_asm); (case z19k2 => k_asm); (case z19k3 => k_asm); (case z19k4 => k_asm); (case z19k5 => k_asm); (case z19k6 => exact rfl); (case z19k7 => ktr_room); (case z19k8 => ktr_units); (case z19c1 => assumption); (case z19c2 => assumption); (case z19c3 => assumption); rintro zv9 znw9 zh9 ztk9 ⟨ze9, zk9, zt9, zf9, zhBR9⟩ zF9 zN9; subst ze9; subst zf9; (try dsimp only); (try k_fold)); walk_say "CONTRACT bisect_right"))
  exact trivial
theorem ints_ins {vs : List Value} {ns : List Int} (hi : IntsAre vs ns) {k x : Int} {t : Tok} (h0 : 0 ≤ k) (h1 : k ≤ ns.length) : IntsAre (kl_ins vs.toArray.toList k (.int x t)) (ns.take k.toNat ++ x :: ns.drop k.toNat) := by
  have hl := hi.length
  have e : (if k < 0 then (k + (vs.toArray.toList.length : Int)).toNat else min k.toNat vs.toArray.toList.length) = k.toNat := by
    rw [if_neg (by omega)]
    have : vs.toArray.toList.length = ns.length := hl
    omega
  unfold kl_ins
  rw [e]
  exact (hi.take _).append (.cons _ _ (hi.drop _))
set_option maxHeartbeats 8000000 in
theorem c_insort (w : World) (l : Addr) (vs : List Value) (ns : List Int) (n : Nat) (x : Int) (t : Tok) (rest : Led) (hi : IntsAre vs ns) (hlen : ns.length ≤ 8) (hso : Sorted ns) (hne : ∀ p ∈ rest, p.1 ≠ l) :
    Ctr 2 w 38 [.ref l, .int x t] ((l, listOf vs.toArray n) :: rest) (fun v nw => v = .none ∧ ∃ vs' ns' n', nw = (l, listOf vs'.toArray n') :: rest ∧ IntsAre vs' ns' ∧ ∃ k, BR ns x k ∧ ns' = ns.take k.toNat ++ x :: ns.drop k.toNat) := by
  unfold Ctr
  k_fill
  intro mean mg mb dp un gd cn cs a ccd cl outer A₀ base h₀ L m s Q E B F X N T hk hd hu hret
  refine wpAny_call ?_
  walk_at "mine enter"
  k_steps
  rename BR _ _ _ => hb
  refine kl_insert (D := l) (by assumption) (by assumption) ?f rfl (Upd.head hne) ?z ?_
  case f => have := hb.1; have := hb.2.1; unfold Builtin.List.listFitsIndex; rw [Bool.and_eq_true, decide_eq_true_eq, decide_eq_true_eq]; omega
  case z =>
    have := hi.length
    show vs.length ≤ _
    rw [sizeLine_eq]; omega
  intro h5 F5 N5
  k_steps
  all_goals exact hret _ _ _ _ ⟨rfl, _, _, _, rfl, ints_ins hi hb.1 hb.2.1, _, hb, rfl⟩ (by assumption) (by assumption)

end
section
noncomputable def cntGe (l : List Int) (x : Int) : Nat := l.countP (fun r => decide (x ≤ r))
noncomputable def RowP (pre row : List Int) : Prop := Sorted row ∧ ∀ x, cntGe row x = cntGe pre x
theorem RowP.sorted {pre row : List Int} (h : RowP pre row) : Sorted row := h.1
theorem getD_ins (ns : List Int) (x : Int) (k : Nat) (hk : k ≤ ns.length) (i : Nat) : (ns.take k ++ x :: ns.drop k).getD i 0 = if i < k then ns.getD i 0 else if i = k then x else ns.getD (i - 1) 0 := by
  simp only [List.getD_eq_getElem?_getD]
  have hl : (ns.take k).length = k := by rw [List.length_take]; omega
  by_cases h1 : i < k
  · rw [if_pos h1, List.getElem?_append_left (by omega), List.getElem?_take_of_lt h1]
  · rw [if_neg h1, List.getElem?_append_right (by omega), hl]
    by_cases h2 : i = k
    · subst h2; simp
    · rw [if_neg h2]
      obtain ⟨j, rfl⟩ : ∃ j, i = k + 1 + j := ⟨i - k - 1, by omega⟩
      have e1 : k + 1 + j - k = j + 1 := by omega
      have e2 : k + 1 + j - 1 = k + j := by omega
      rw [e1, e2, List.getElem?_cons_succ, List.getElem?_drop]
theorem sorted_ins {ns : List Int} {x k : Int} (hs : Sorted ns) (h : BR ns x k) : Sorted (ns.take k.toNat ++ x :: ns.drop k.toNat) := by
  obtain ⟨a, b, c, d⟩ := h
  intro i j hij hj
  have hl : (ns.take k.toNat ++ x :: ns.drop k.toNat).length = ns.length + 1 := by
    rw [List.length_append, List.length_cons, List.length_take, List.length_drop]; omega
  rw [hl] at hj
  rw [getD_ins ns x _ (by omega), getD_ins ns x _ (by omega)]
  by_cases h1 : i < k.toNat
  · rw [if_pos h1]
    by_cases h2 : j < k.toNat
    · rw [if_pos h2]; exact hs i j hij (by omega)
    · rw [if_neg h2]
      by_cases h3 : j = k.toNat
      · rw [if_pos h3]; exact c i (by omega)
      · rw [if_neg h3]; exact hs i (j - 1) (by omega) (by omega)
  · rw [if_neg h1, if_neg (by omega : ¬ j < k.toNat)]
    by_cases h2 : i = k.toNat
    · rw [if_pos h2]
      by_cases h3 : j = k.toNat
      · rw [if_pos h3]; exact Int.le_refl _
      · rw [if_neg h3]; exact Int.le_of_lt (d (j - 1) (by omega) (by omega))
    · rw [if_neg h2, if_neg (by omega : ¬ j = k.toNat)]
      exact hs (i - 1) (j - 1) (by omega) (by omega)
theorem row_start : (([] : List Int).length = ([] : List Int).length) ∧ RowP [] [] := ⟨rfl, fun i j _ h => by simp at h, fun _ => rfl⟩
theorem row_turn {pre row ns' : List Int} {x k : Int} (hl : row.length = pre.length) (h : RowP pre row) (hb : BR row x k) (e : ns' = row.take k.toNat ++ x :: row.drop k.toNat) : ns'.length = (pre ++ [x]).length ∧ RowP (pre ++ [x]) ns' := by
  have h1 := hb.1
  have h2 := hb.2.1
  subst e
  refine ⟨?_, sorted_ins h.1 hb, fun y => ?_⟩
  · rw [List.length_append, List.length_cons, List.length_take, List.length_drop, List.length_append, List.length_singleton]; omega
  · have := h.2 y
    unfold cntGe at this ⊢
    rw [List.countP_append, List.countP_cons, List.countP_append, List.countP_singleton, ← this]
    conv => rhs; rw [← List.take_append_drop k.toNat row, List.countP_append]
    omega
theorem bl_cnt {ns : List Int} {x k : Int} (h : BL ns x k) : (ns.length : Int) - k = (cntGe ns x : Int) := by
  obtain ⟨a, b, c, d⟩ := h
  obtain ⟨k, rfl⟩ : ∃ n : Nat, k = n := ⟨k.toNat, by omega⟩
  unfold cntGe
  rw [← List.take_append_drop k ns, List.countP_append]
  have e1 : (ns.take k).countP (fun r => decide (x ≤ r)) = 0 := by
    rw [List.countP_eq_zero]
    intro r hr
    obtain ⟨i, hi, rfl⟩ := List.mem_iff_getElem.mp hr
    rw [List.length_take] at hi
    have := c i (by omega)
    rw [List.getD_eq_getElem?_getD, List.getElem?_eq_getElem (by omega : i < ns.length)] at this
    simp only [Option.getD_some] at this
    rw [List.getElem_take]
    simp only [decide_eq_true_eq]; omega
  have e2 : (ns.drop k).countP (fun r => decide (x ≤ r)) = (ns.drop k).length := by
    rw [List.countP_eq_length]
    intro r hr
    obtain ⟨i, hi, rfl⟩ := List.mem_iff_getElem.mp hr
    rw [List.length_drop] at hi
    have := d (k + i) (by omega) (by omega)
    rw [List.getD_eq_getElem?_getD, List.getElem?_eq_getElem (by omega : k + i < ns.length)] at this
    simp only [Option.getD_some] at this
    rw [List.getElem_drop]
    simp only [decide_eq_true_eq]; omega
  rw [e1, e2, List.length_append, List.length_take, List.length_drop]
  omega
/-- one turn of a tally -/
noncomputable def tally (ks : List Int) (told : List Int) (n v : Int) : List Int := told.set (ks.getD n.toNat 0).toNat (told.getD (ks.getD n.toNat 0).toNat 0 + v)
noncomputable def halfFold (rs ks pre : List Int) : List Int := pre.foldl (fun told n => tally ks told n (cntGe rs n)) (List.replicate 8 0)
theorem tally_length (ks told : List Int) (n v : Int) : (tally ks told n v).length = told.length := by unfold tally; rw [List.length_set]
theorem half_start (rs ks : List Int) : (List.replicate 8 (0 : Int)).length = 8 ∧ List.replicate 8 (0 : Int) = halfFold rs ks [] := ⟨rfl, rfl⟩
theorem half_turn {rs ks pre told : List Int} {n v : Int} (hl : told.length = 8) (h : told = halfFold rs ks pre) (hv : v = cntGe rs n) : (tally ks told n v).length = 8 ∧ tally ks told n v = halfFold rs ks (pre ++ [n]) := by
  refine ⟨by rw [tally_length]; exact hl, ?_⟩
  unfold halfFold
  rw [List.foldl_append, List.foldl_cons, List.foldl_nil, hv, h]
  rfl
theorem half_turn' {rs ks pre told row : List Int} {n k : Int} (hl : told.length = 8) (h : told = halfFold rs ks pre) (hb : BL row n k) (hr : RowP rs row) :
    (told.set (ks.getD n.toNat 0).toNat (told.getD (ks.getD n.toNat 0).toNat 0 + ((row.length : Int) - k))).length = 8 ∧ told.set (ks.getD n.toNat 0).toNat (told.getD (ks.getD n.toNat 0).toNat 0 + ((row.length : Int) - k)) = halfFold rs ks (pre ++ [n]) := by
  refine half_turn hl h ?_
  rw [bl_cnt hb, hr.2 n]
noncomputable def oneTurn (ks : List Int) (told : List Int) (pre : List Int) : List Int := pre.foldl (fun t n => tally ks t n 1) told
noncomputable def oneFold (rs ks : List Int) : List Int := rs.foldl (fun told r => oneTurn ks told (rangeKs 1 r.toNat)) (List.replicate 8 0)
theorem oneTurn_length (ks told pre : List Int) : (oneTurn ks told pre).length = told.length := by
  unfold oneTurn
  induction pre generalizing told with
  | nil => rfl
  | cons a r ih => rw [List.foldl_cons, ih, tally_length]
theorem one_start (ks : List Int) : (List.replicate 8 (0 : Int)).length = 8 ∧ List.replicate 8 (0 : Int) = oneFold [] ks := ⟨rfl, rfl⟩
theorem one_in0 {ks told : List Int} (h : told.length = 8) : told.length = 8 ∧ told = oneTurn ks told [] := ⟨h, rfl⟩
theorem one_in {ks told0 told pre : List Int} {n : Int} (hl : told.length = 8) (h : told = oneTurn ks told0 pre) :
    (told.set (ks.getD n.toNat 0).toNat (told.getD (ks.getD n.toNat 0).toNat 0 + 1)).length = 8 ∧ told.set (ks.getD n.toNat 0).toNat (told.getD (ks.getD n.toNat 0).toNat 0 + 1) = oneTurn ks told0 (pre ++ [n]) := by
  refine ⟨by rw [List.length_set]; exact hl, ?_⟩
  unfold oneTurn
  rw [List.foldl_append, List.foldl_cons, List.foldl_nil]
  unfold oneTurn at h
  rw [← h]
  rfl
theorem one_out {ks told0 told pre : List Int} {r : Int} (hl : told.length = 8) (h0 : told0 = oneFold pre ks) (h : told = oneTurn ks told0 (rangeKs 1 (r + 1 - 1).toNat)) : told.length = 8 ∧ told = oneFold (pre ++ [r]) ks := by
  refine ⟨hl, ?_⟩
  rw [h, h0, show r + 1 - 1 = r from by omega]
  unfold oneFold
  rw [List.foldl_append, List.foldl_cons, List.foldl_nil]

end
section
theorem fresh_Halving : True := by
  w_top off
  k_with_none
  k_with "m mine enter" => (k_dflt (refine' code_def ?z20k1 ?z20k2 ?z20k3 ?z20k4 ?z20k5 ?z20kA ?z20kF ?z20kK ?z20k6 ?z20k7 ?z20k8 ?z20k9 ?z20kB ?_ ?z20c2 ?z20c3 ?z20c4 ?z20c5; (case z20kA => exact rfl); (case z20kF => exact rfl); (case z20kK => assumption); (case z20k1 => k_asm); (case z20k2 => k_asm); (case z20k3 => k_asm); (case z20k4 => k_asm); (case z20k5 => k_asm); (case z20k6 => k_is); (case z20k7 => k_is); (case z20k8 => ktr_room); (case z20k9 => first | exact BindsTo.of_eq rfl | exact binds_K (by k_in) rfl (by k_is) rfl rfl rfl | (refine' kp_binds ?z20kx ?z20ke; (case z20kx => k_in); (case z20ke => exact fun _ => rfl))); (case z20c5 => decide); (case z20kB => exact locs rfl); (case z20c2 => exact rfl); (case z20c3 => exact rfl); (case z20c4 => exact rfl); k_whole; intro zg' zL' zh' zFG' zF' zN' zB' zX' zT'; (try dsimp only); (try k_lift zB'); (try k_fold)))
  k_with "m k_all" => ((refine Mine.allLt_ne ?_; first | assumption | exact And.right (by assumption) | exact And.right (And.right (by assumption)) | exact And.right (And.right (And.right (by assumption))) | exact And.right (And.right (And.right (And.right (by assumption)))) | exact And.right (And.right (And.right (And.right (And.right (by assumption)))))))
  k_with "m mine pull" => (first | (refine' Mine.Pull.head ?z22a; (case z22a => k_all)) | (refine' Mine.Pull.tail ?z22a ?z22b; (case z22a => k_ne); (case z22b => walk_at "mine pull")))
  k_with "m k_all" => ((refine Mine.all_append ?z23a ?z23b; (case z23a => k_all); (case z23b => k_all)))
  k_with "m getItem ref int" => ((k_here; (with_reducible show wpAny _ _ (getItem (Value.ref _) (Value.int (List.getD _ _ _) _)) _ _ _); k_dflt (refine' Mine.kinds_get ?z24k1 ?z24k2 ?z24k3 ?z24k4 ?z24k5 ?_; (case z24k1 => k_asm); (case z24k2 => k_mem); (case z24k3 => with_reducible assumption); (case z24k4 => assumption); (case z24k5 => assumption)); intro zt9 zb9 zc9; walk_say "KINDS"))
  k_with "m mine for" => (((with_reducible rename Fr _ _ _ _ => zlF'); (with_unfolding_all refine' For_invVF zlF' ?z25k1 ?z25k2 ?_; (case z25k1 => exact rfl); (case z25k2 => exact rfl); k_whole)))
  k_with "m mine enterC" => (k_dflt (refine' code_defC ?z26k1 ?z26k2 ?z26k3 ?z26k4 ?z26k5 ?z26kA ?z26kF ?z26kK ?z26k6 ?z26k7 ?z26k8 ?z26k9 ?z26kB ?z26kD ?_ ?z26c2 ?z26c3 ?z26c4; (case z26kA => exact rfl); (case z26kF => exact rfl); (case z26kK => assumption); (case z26k1 => k_asm); (case z26k2 => k_asm); (case z26k3 => k_asm); (case z26k4 => k_asm); (case z26k5 => k_asm); (case z26k6 => k_is); (case z26k7 => k_is); (case z26k8 => ktr_room); (case z26k9 => first | exact BindsTo.of_eq rfl | exact binds_K (by k_in) rfl (by k_is) rfl rfl rfl | (refine' kp_binds ?z26kx ?z26ke; (case z26kx => k_in); (case z26ke => exact fun _ => rfl))); (case z26kB => exact rfl); (case z26kD => decide +kernel); (case z26c2 => exact rfl); (case z26c3 => exact rfl); (case z26c4 => exact rfl); k_whole; intro zg' zL' zh' ztk' zcells' zFG' zF' zN' zY' zB' zX' zT' zl1; (try k_lt zl1); k_cells zY'; (try simp only [List.cons_append, List.nil_append] at zN'); (try dsimp only); (try k_lift zB'); (try k_fold)))
  k_with "m mine news" => (((with_reducible rename News _ _ _ _ => znX9); with_reducible (first | exact znX9 | exact Mine.news_tl znX9 | exact Mine.news_tl (Mine.news_tl znX9) | exact Mine.news_tl (Mine.news_tl (Mine.news_tl znX9)) | exact Mine.news_tl (Mine.news_tl (Mine.news_tl (Mine.news_tl znX9))) | exact Mine.news_tl (Mine.news_tl (Mine.news_tl (Mine.news_tl (Mine.news_tl znX9)))) | exact Mine.news_tl (Mine.news_tl (Mine.news_tl (Mine.news_tl (Mine.news_tl (Mine.news_tl znX9))))))))
  k_with "m k_all" => (with_reducible assumption)
  exact trivial
theorem rules_Halving_1 : True := by
  k_with "m call ref" => ((k_here; (with_reducible show wpAny _ _ (call (Value.ref 38) _) _ _ _); k_dflt (refine' ctr_use (c_insort _ _ _ _ _ _ _ _ ?z29c1 ?z29c2 ?z29c3 ?z29c4) ?z29k1 ?z29k2 ?z29k3 ?z29k4 ?z29k5 ?z29k6 ?z29k7 ?z29k8 ?_; (case z29k4 => (refine' Pull.news ?z29p1 ?z29p2; (case z29p2 => k_asm); (case z29p1 => walk_at "mine pull"))); (case z29k1 => k_asm); (case z29k2 => k_asm); (case z29k3 => k_asm); (case z29k5 => k_asm); (case z29k6 => exact rfl); (case z29k7 => ktr_room); (case z29k8 => ktr_units); (case z29c1 => assumption); (case z29c3 => exact Mine.RowP.sorted (by assumption)); (case z29c2 => omega); (case z29c4 => k_all); intro zv9 znw9 zh9 ztk9 zhP9 zF9 zN9; (obtain ⟨zf9, zvs9, zns9, zn9, ze9, zhI9, zkk9, zhBR9, zhns9⟩ := zhP9); subst ze9; subst zf9; (try dsimp only); (try k_fold)); walk_say "CONTRACT insort"))
  k_with "m call ref" => ((k_here; (with_reducible show wpAny _ _ (call (Value.ref 56) _) _ _ _); k_dflt (refine' ctr_use (ctr_mem (c_bisect_left _ _ _ _ _ _ _ ?z30c1 ?z30c2 ?z30c3) ?z30km) ?z30k1 ?z30k2 ?z30k3 ?z30k4 ?z30k5 ?z30k6 ?z30k7 ?z30k8 ?_; (case z30k4 => k_asm); (case z30km => k_mem); (case z30k1 => k_asm); (case z30k2 => k_asm); (case z30k3 => k_asm); (case z30k5 => k_asm); (case z30k6 => exact rfl); (case z30k7 => ktr_room); (case z30k8 => ktr_units); (case z30c1 => assumption); (case z30c3 => exact Mine.RowP.sorted (by assumption)); (case z30c2 => omega); intro zv9 znw9 zh9 ztk9 zhP9 zF9 zN9; (obtain ⟨ze9, zkk9, ztt9, zf9, zhBL9⟩ := zhP9); subst ze9; subst zf9; (try dsimp only); (try k_fold)); walk_say "CONTRACT bisect_left"))
  exact trivial
set_option maxHeartbeats 8000000 in
theorem c_halving (w : World) (lr lk : Addr) (rvs kvs : List Value) (rs ks : List Int) (rn kn : Nat) (rest : Led) (hri : IntsAre rvs rs) (hlr : rs.length ≤ 4) (hki : IntsAre kvs ks) (hlk : ks.length = 32) (hks : ∀ i : Nat, 0 ≤ ks.getD i 0 ∧ ks.getD i 0 < 8) :
    Ctr 3 w 165 [.ref lr, .ref lk] ((lr, listOf rvs.toArray rn) :: (lk, listOf kvs.toArray kn) :: rest) (fun v nw => ∃ d vs n, v = .ref d ∧ nw = (d, listOf vs.toArray n) :: (lr, listOf rvs.toArray rn) :: (lk, listOf kvs.toArray kn) :: rest ∧ AllLt d ((lr, listOf rvs.toArray rn) :: (lk, listOf kvs.toArray kn) :: rest) ∧ IntsAre vs (halfFold rs ks (rangeKs 1 31))) := by
  unfold Ctr
  k_fill
  intro mean mg mb dp un gd cn cs a ccd cl outer A₀ base h₀ L m s Q E B F X N T hk hd hu hret
  refine wpAny_call ?_
  walk_at "mine enter"
  k_with "state" => first | exact row_start | exact row_turn (by assumption) (by assumption) (by assumption) (by assumption) | exact half_start _ _ | exact half_turn' (by assumption) (by assumption) (by assumption) (by assumption)
  iterate 10 walk1
  k_state (fun pre row => row.length = pre.length ∧ RowP pre row) "row"
  · k_steps
  iterate 23 walk1
  k_state (fun pre told => told.length = 8 ∧ told = halfFold rs ks pre) "told"
  · k_steps
  k_steps
  with_reducible rename News h₀ L _ _ => hN9
  with_reducible rename Fr h₀ L _ _ => hF9
  with_reducible rename _ = halfFold _ _ _ => he9
  with_reducible rename IntsAre _ _ => hI9
  with_reducible rename _ ∧ _ ∧ _ ∧ _ ∧ AllLt _ _ => hl9
  exact hret _ _ _ _ ⟨_, _, _, rfl, rfl, hl9.2.2, ints_eq hI9 he9⟩ hF9 (news_skip2 hN9)

end
section
theorem fresh_OneByOne : True := by
  w_top off
  k_with_none
  k_with "m mine enter" => (k_dflt (refine' code_def ?z31k1 ?z31k2 ?z31k3 ?z31k4 ?z31k5 ?z31kA ?z31kF ?z31kK ?z31k6 ?z31k7 ?z31k8 ?z31k9 ?z31kB ?_ ?z31c2 ?z31c3 ?z31c4 ?z31c5; (case z31kA => exact rfl); (case z31kF => exact rfl); (case z31kK => assumption); (case z31k1 => k_asm); (case z31k2 => k_asm); (case z31k3 => k_asm); (case z31k4 => k_asm); (case z31k5 => k_asm); (case z31k6 => k_is); (case z31k7 => k_is); (case z31k8 => ktr_room); (case z31k9 => first | exact BindsTo.of_eq rfl | exact binds_K (by k_in) rfl (by k_is) rfl rfl rfl | (refine' kp_binds ?z31kx ?z31ke; (case z31kx => k_in); (case z31ke => exact fun _ => rfl))); (case z31c5 => decide); (case z31kB => exact locs rfl); (case z31c2 => exact rfl); (case z31c3 => exact rfl); (case z31c4 => exact rfl); k_whole; intro zg' zL' zh' zFG' zF' zN' zB' zX' zT'; (try dsimp only); (try k_lift zB'); (try k_fold)))
  k_with "m k_all" => ((refine Mine.allLt_ne ?_; first | assumption | exact And.right (by assumption) | exact And.right (And.right (by assumption)) | exact And.right (And.right (And.right (by assumption))) | exact And.right (And.right (And.right (And.right (by assumption)))) | exact And.right (And.right (And.right (And.right (And.right (by assumption)))))))
  k_with "m mine pull" => (first | (refine' Mine.Pull.head ?z33a; (case z33a => k_all)) | (refine' Mine.Pull.tail ?z33a ?z33b; (case z33a => k_ne); (case z33b => walk_at "mine pull")))
  k_with "m k_all" => ((refine Mine.all_append ?z34a ?z34b; (case z34a => k_all); (case z34b => k_all)))
  k_with "m getItem ref int" => ((k_here; (with_reducible show wpAny _ _ (getItem (Value.ref _) (Value.int (List.getD _ _ _) _)) _ _ _); k_dflt (refine' Mine.kinds_get ?z35k1 ?z35k2 ?z35k3 ?z35k4 ?z35k5 ?_; (case z35k1 => k_asm); (case z35k2 => k_mem); (case z35k3 => with_reducible assumption); (case z35k4 => assumption); (case z35k5 => assumption)); intro zt9 zb9 zc9; walk_say "KINDS"))
  k_with "m mine for" => (((with_reducible rename Fr _ _ _ _ => zlF'); (with_unfolding_all refine' For_invVF zlF' ?z36k1 ?z36k2 ?_; (case z36k1 => exact rfl); (case z36k2 => exact rfl); k_whole)))
  k_with "m mine enterC" => (k_dflt (refine' code_defC ?z37k1 ?z37k2 ?z37k3 ?z37k4 ?z37k5 ?z37kA ?z37kF ?z37kK ?z37k6 ?z37k7 ?z37k8 ?z37k9 ?z37kB ?z37kD ?_ ?z37c2 ?z37c3 ?z37c4; (case z37kA => exact rfl); (case z37kF => exact rfl); (case z37kK => assumption); (case z37k1 => k_asm); (case z37k2 => k_asm); (case z37k3 => k_asm); (case z37k4 => k_asm); (case z37k5 => k_asm); (case z37k6 => k_is); (case z37k7 => k_is); (case z37k8 => ktr_room); (case z37k9 => first | exact BindsTo.of_eq rfl | exact binds_K (by k_in) rfl (by k_is) rfl rfl rfl | (refine' kp_binds ?z37kx ?z37ke; (case z37kx => k_in); (case z37ke => exact fun _ => rfl))); (case z37kB => exact rfl); (case z37kD => decide +kernel); (case z37c2 => exact rfl); (case z37c3 => exact rfl); (case z37c4 => exact rfl); k_whole; intro zg' zL' zh' ztk' zcells' zFG' zF' zN' zY' zB' zX' zT' zl1; (try k_lt zl1); k_cells zY'; (try simp only [List.cons_append, List.nil_append] at zN'); (try dsimp only); (try k_lift zB'); (try k_fold)))
  k_with "m mine news" => (((with_reducible rename News _ _ _ _ => znX9); with_reducible (first | exact znX9 | exact Mine.news_tl znX9 | exact Mine.news_tl (Mine.news_tl znX9) | exact Mine.news_tl (Mine.news_tl (Mine.news_tl znX9)) | exact Mine.news_tl (Mine.news_tl (Mine.news_tl (Mine.news_tl znX9))) | exact Mine.news_tl (Mine.news_tl (Mine.news_tl (Mine.news_tl (Mine.news_tl znX9)))) | exact Mine.news_tl (Mine.news_tl (Mine.news_tl (Mine.news_tl (Mine.news_tl (Mine.news_tl znX9))))))))
  k_with "m k_all" => (with_reducible assumption)
  exact trivial
set_option maxHeartbeats 8000000 in
theorem c_one (w : World) (lr lk : Addr) (rvs kvs : List Value) (rs ks : List Int) (rn kn : Nat) (rest : Led) (hri : IntsAre rvs rs) (hlr : rs.length ≤ 4) (hrb : ∀ r ∈ rs, 0 ≤ r ∧ r ≤ 31) (hki : IntsAre kvs ks) (hlk : ks.length = 32) (hks : ∀ i : Nat, 0 ≤ ks.getD i 0 ∧ ks.getD i 0 < 8) :
    Ctr 3 w 172 [.ref lr, .ref lk] ((lr, listOf rvs.toArray rn) :: (lk, listOf kvs.toArray kn) :: rest) (fun v nw => ∃ d vs n, v = .ref d ∧ nw = (d, listOf vs.toArray n) :: (lr, listOf rvs.toArray rn) :: (lk, listOf kvs.toArray kn) :: rest ∧ AllLt d ((lr, listOf rvs.toArray rn) :: (lk, listOf kvs.toArray kn) :: rest) ∧ IntsAre vs (oneFold rs ks)) := by
  unfold Ctr
  k_fill
  intro mean mg mb dp un gd cn cs a ccd cl outer A₀ base h₀ L m s Q E B F X N T hk hd hu hret
  refine wpAny_call ?_
  walk_at "mine enter"
  k_with "state" => first | exact one_start _ | exact one_in0 (by assumption) | exact one_in (by assumption) (by assumption) | exact one_out (by assumption) (by assumption) (by assumption)
  iterate 14 walk1
  walk_at "mine for"
  walk1
  k_state (fun pre told => told.length = 8 ∧ told = oneFold pre ks) "told"
  · have hb9 := hrb _ kMem
    walk1
    walk_at "mine for"
    iterate 12 walk1
    k_state_given ["told!"] (fun t0 pre told => told.length = 8 ∧ told = oneTurn ks t0 pre) "told"
    · k_steps
    k_steps
  k_steps
  with_reducible rename News h₀ L _ _ => hN9
  with_reducible rename Fr h₀ L _ _ => hF9
  with_reducible rename _ = oneFold _ _ => he9
  with_reducible rename IntsAre _ _ => hI9
  with_reducible rename _ ∧ _ ∧ _ ∧ AllLt _ _ => hl9
  exact hret _ _ _ _ ⟨_, _, _, rfl, rfl, hl9.2, ints_eq hI9 he9⟩ hF9 (news_skip1 hN9)

end
section
theorem fresh_Kind : True := by
  w_top off
  k_with_none
  k_with "m mine enter" => (k_dflt (refine' code_def ?z40k1 ?z40k2 ?z40k3 ?z40k4 ?z40k5 ?z40kA ?z40kF ?z40kK ?z40k6 ?z40k7 ?z40k8 ?z40k9 ?z40kB ?_ ?z40c2 ?z40c3 ?z40c4 ?z40c5; (case z40kA => exact rfl); (case z40kF => exact rfl); (case z40kK => assumption); (case z40k1 => k_asm); (case z40k2 => k_asm); (case z40k3 => k_asm); (case z40k4 => k_asm); (case z40k5 => k_asm); (case z40k6 => k_is); (case z40k7 => k_is); (case z40k8 => ktr_room); (case z40k9 => first | exact BindsTo.of_eq rfl | exact binds_K (by k_in) rfl (by k_is) rfl rfl rfl | (refine' kp_binds ?z40kx ?z40ke; (case z40kx => k_in); (case z40ke => exact fun _ => rfl))); (case z40c5 => decide); (case z40kB => exact locs rfl); (case z40c2 => exact rfl); (case z40c3 => exact rfl); (case z40c4 => exact rfl); k_whole; intro zg' zL' zh' zFG' zF' zN' zB' zX' zT'; (try dsimp only); (try k_lift zB'); (try k_fold)))
  k_with "m k_all" => ((refine Mine.allLt_ne ?_; first | assumption | exact And.right (by assumption) | exact And.right (And.right (by assumption)) | exact And.right (And.right (And.right (by assumption))) | exact And.right (And.right (And.right (And.right (by assumption)))) | exact And.right (And.right (And.right (And.right (And.right (by assumption)))))))
  k_with "m mine pull" => (first | (refine' Mine.Pull.head ?z42a; (case z42a => k_all)) | (refine' Mine.Pull.tail ?z42a ?z42b; (case z42a => k_ne); (case z42b => walk_at "mine pull")))
  k_with "m k_all" => ((refine Mine.all_append ?z43a ?z43b; (case z43a => k_all); (case z43b => k_all)))
  k_with "m getItem ref int" => ((k_here; (with_reducible show wpAny _ _ (getItem (Value.ref _) (Value.int (List.getD _ _ _) _)) _ _ _); k_dflt (refine' Mine.kinds_get ?z44k1 ?z44k2 ?z44k3 ?z44k4 ?z44k5 ?_; (case z44k1 => k_asm); (case z44k2 => k_mem); (case z44k3 => with_reducible assumption); (case z44k4 => assumption); (case z44k5 => assumption)); intro zt9 zb9 zc9; walk_say "KINDS"))
  k_with "m mine for" => (((with_reducible rename Fr _ _ _ _ => zlF'); (with_unfolding_all refine' For_invVF zlF' ?z45k1 ?z45k2 ?_; (case z45k1 => exact rfl); (case z45k2 => exact rfl); k_whole)))
  k_with "m mine enterC" => (k_dflt (refine' code_defC ?z46k1 ?z46k2 ?z46k3 ?z46k4 ?z46k5 ?z46kA ?z46kF ?z46kK ?z46k6 ?z46k7 ?z46k8 ?z46k9 ?z46kB ?z46kD ?_ ?z46c2 ?z46c3 ?z46c4; (case z46kA => exact rfl); (case z46kF => exact rfl); (case z46kK => assumption); (case z46k1 => k_asm); (case z46k2 => k_asm); (case z46k3 => k_asm); (case z46k4 => k_asm); (case z46k5 => k_asm); (case z46k6 => k_is); (case z46k7 => k_is); (case z46k8 => ktr_room); (case z46k9 => first | exact BindsTo.of_eq rfl | exact binds_K (by k_in) rfl (by k_is) rfl rfl rfl | (refine' kp_binds ?z46kx ?z46ke; (case z46kx => k_in); (case z46ke => exact fun _ => rfl))); (case z46kB => exact rfl); (case z46kD => decide +kernel); (case z46c2 => exact rfl); (case z46c3 => exact rfl); (case z46c4 => exact rfl); k_whole; intro zg' zL' zh' ztk' zcells' zFG' zF' zN' zY' zB' zX' zT' zl1; (try k_lt zl1); k_cells zY'; (try simp only [List.cons_append, List.nil_append] at zN'); (try dsimp only); (try k_lift zB'); (try k_fold)))
  k_with "m mine news" => (((with_reducible rename News _ _ _ _ => znX9); with_reducible (first | exact znX9 | exact Mine.news_tl znX9 | exact Mine.news_tl (Mine.news_tl znX9) | exact Mine.news_tl (Mine.news_tl (Mine.news_tl znX9)) | exact Mine.news_tl (Mine.news_tl (Mine.news_tl (Mine.news_tl znX9))) | exact Mine.news_tl (Mine.news_tl (Mine.news_tl (Mine.news_tl (Mine.news_tl znX9)))) | exact Mine.news_tl (Mine.news_tl (Mine.news_tl (Mine.news_tl (Mine.news_tl (Mine.news_tl znX9))))))))
  k_with "m k_all" => (with_reducible assumption)
  exact trivial
noncomputable def kindStep (ps : List Int) (number : Int) (l : List Int) (k : Int) : List Int := if number.fmod (ps.getD k.toNat 0) = 0 then l ++ [2 ^ k.toNat] else l
noncomputable def kindF (ps : List Int) (number : Int) : Int := ((rangeKs 0 3).foldl (kindStep ps number) []).sum
noncomputable def PrimesOk (ps : List Int) : Prop := ps.length = 3 ∧ ∀ i : Nat, i < 3 → 2 ≤ ps.getD i 0 ∧ ps.getD i 0 ≤ 7
theorem kindStep_pos {ps l : List Int} {number k : Int} (h : number.fmod (ps.getD k.toNat 0) = 0) : kindStep ps number l k = l ++ [2 ^ k.toNat] := if_pos h
theorem kindStep_neg {ps l : List Int} {number k : Int} (h : ¬ number.fmod (ps.getD k.toNat 0) = 0) : kindStep ps number l k = l := if_neg h
theorem kind_grows (ps : List Int) (number : Int) : KPfGrows (kindStep ps number) := by
  intro l k
  unfold kindStep
  split
  · rw [List.length_append]; exact Nat.le_refl _
  · exact Nat.le_succ _
set_option maxHeartbeats 8000000 in
theorem c_kind (w : World) (lp : Addr) (pvs : List Value) (ps : List Int) (pn : Nat) (number : Int) (t : Tok) (hpi : IntsAre pvs ps) (hps : PrimesOk ps) (hn : 0 ≤ number ∧ number ≤ 31) (rest : Led) :
    Ctr 2 w 134 [.int number t, .ref lp] ((lp, listOf pvs.toArray pn) :: rest) (fun v nw => nw = (lp, listOf pvs.toArray pn) :: rest ∧ ∃ t', v = .int (kindF ps number) t') := by
  unfold Ctr
  k_fill
  intro mean mg mb dp un gd cn cs a ccd cl outer A₀ base h₀ L m s Q E B F X N T hk hd hu hret
  refine wpAny_call ?_
  walk_at "mine enterC"
  iterate 6 walk1
  k_dflt (refine LCt.ListComp_T (F₀ := by k_asm) (by with_unfolding_all rfl) (by decide) (by rfl) (by decide) (by rfl) ?_)
  iterate 7 walk1
  k_dflt (refine LCt.CompSrcT.range (by rfl) (by k_asm) (by k_asm) (by assumption) (by decide) (by rfl) (by exact Nat.le_of_ble_eq_true rfl) ?_)
  intro g'
  refine' kci_range (kindStep ps number) (fun k' t' I' oI' C' oC' D' m' ys' l' h' tk' E' hlo' hhi' hI' hC' hx' F' N' off' ne' hMark' => ?_) ?_ ?_
  · have hhi3 : k' < 3 := hhi'
    have hq1 := (hps.2 k'.toNat (by omega)).1
    have hq2 := (hps.2 k'.toNat (by omega)).2
    have hq3 := hps.1
    k_steps
    · exact LCg.CompEnd.intro F' N' _ (fun p hp => hp) off' trivial (kci_el (kindStep_pos (by assumption)) rfl rfl)
    · exact LCg.CompEnd.intro F' N' _ (fun p hp => hp) off' trivial (kci_no (kindStep_neg (by assumption)) rfl)
  · unfold KPfDone
    intro ys hys hl
    k_steps
    exact hret _ _ _ _ ⟨rfl, _, rfl⟩ (by with_reducible assumption) (by walk_at "mine news")
  · exact kind_grows _ _

end
section
theorem fresh_Product : True := by
  w_top off
  k_with_none
  k_with "m mine enter" => (k_dflt (refine' code_def ?z49k1 ?z49k2 ?z49k3 ?z49k4 ?z49k5 ?z49kA ?z49kF ?z49kK ?z49k6 ?z49k7 ?z49k8 ?z49k9 ?z49kB ?_ ?z49c2 ?z49c3 ?z49c4 ?z49c5; (case z49kA => exact rfl); (case z49kF => exact rfl); (case z49kK => assumption); (case z49k1 => k_asm); (case z49k2 => k_asm); (case z49k3 => k_asm); (case z49k4 => k_asm); (case z49k5 => k_asm); (case z49k6 => k_is); (case z49k7 => k_is); (case z49k8 => ktr_room); (case z49k9 => first | exact BindsTo.of_eq rfl | exact binds_K (by k_in) rfl (by k_is) rfl rfl rfl | (refine' kp_binds ?z49kx ?z49ke; (case z49kx => k_in); (case z49ke => exact fun _ => rfl))); (case z49c5 => decide); (case z49kB => exact locs rfl); (case z49c2 => exact rfl); (case z49c3 => exact rfl); (case z49c4 => exact rfl); k_whole; intro zg' zL' zh' zFG' zF' zN' zB' zX' zT'; (try dsimp only); (try k_lift zB'); (try k_fold)))
  k_with "m k_all" => ((refine Mine.allLt_ne ?_; first | assumption | exact And.right (by assumption) | exact And.right (And.right (by assumption)) | exact And.right (And.right (And.right (by assumption))) | exact And.right (And.right (And.right (And.right (by assumption)))) | exact And.right (And.right (And.right (And.right (And.right (by assumption)))))))
  k_with "m mine pull" => (first | (refine' Mine.Pull.head ?z51a; (case z51a => k_all)) | (refine' Mine.Pull.tail ?z51a ?z51b; (case z51a => k_ne); (case z51b => walk_at "mine pull")))
  k_with "m k_all" => ((refine Mine.all_append ?z52a ?z52b; (case z52a => k_all); (case z52b => k_all)))
  k_with "m getItem ref int" => ((k_here; (with_reducible show wpAny _ _ (getItem (Value.ref _) (Value.int (List.getD _ _ _) _)) _ _ _); k_dflt (refine' Mine.kinds_get ?z53k1 ?z53k2 ?z53k3 ?z53k4 ?z53k5 ?_; (case z53k1 => k_asm); (case z53k2 => k_mem); (case z53k3 => with_reducible assumption); (case z53k4 => assumption); (case z53k5 => assumption)); intro zt9 zb9 zc9; walk_say "KINDS"))
  k_with "m mine for" => (((with_reducible rename Fr _ _ _ _ => zlF'); (with_unfolding_all refine' For_invVF zlF' ?z54k1 ?z54k2 ?_; (case z54k1 => exact rfl); (case z54k2 => exact rfl); k_whole)))
  k_with "m mine enterC" => (k_dflt (refine' code_defC ?z55k1 ?z55k2 ?z55k3 ?z55k4 ?z55k5 ?z55kA ?z55kF ?z55kK ?z55k6 ?z55k7 ?z55k8 ?z55k9 ?z55kB ?z55kD ?_ ?z55c2 ?z55c3 ?z55c4; (case z55kA => exact rfl); (case z55kF => exact rfl); (case z55kK => assumption); (case z55k1 => k_asm); (case z55k2 => k_asm); (case z55k3 => k_asm); (case z55k4 => k_asm); (case z55k5 => k_asm); (case z55k6 => k_is); (case z55k7 => k_is); (case z55k8 => ktr_room); (case z55k9 => first | exact BindsTo.of_eq rfl | exact binds_K (by k_in) rfl (by k_is) rfl rfl rfl | (refine' kp_binds ?z55kx ?z55ke; (case z55kx => k_in); (case z55ke => exact fun _ => rfl))); (case z55kB => exact rfl); (case z55kD => decide +kernel); (case z55c2 => exact rfl); (case z55c3 => exact rfl); (case z55c4 => exact rfl); k_whole; intro zg' zL' zh' ztk' zcells' zFG' zF' zN' zY' zB' zX' zT' zl1; (try k_lt zl1); k_cells zY'; (try simp only [List.cons_append, List.nil_append] at zN'); (try dsimp only); (try k_lift zB'); (try k_fold)))
  k_with "m mine news" => (((with_reducible rename News _ _ _ _ => znX9); with_reducible (first | exact znX9 | exact Mine.news_tl znX9 | exact Mine.news_tl (Mine.news_tl znX9) | exact Mine.news_tl (Mine.news_tl (Mine.news_tl znX9)) | exact Mine.news_tl (Mine.news_tl (Mine.news_tl (Mine.news_tl znX9))) | exact Mine.news_tl (Mine.news_tl (Mine.news_tl (Mine.news_tl (Mine.news_tl znX9)))) | exact Mine.news_tl (Mine.news_tl (Mine.news_tl (Mine.news_tl (Mine.news_tl (Mine.news_tl znX9))))))))
  k_with "m k_all" => (with_reducible assumption)
  exact trivial
noncomputable def prodStep (ps : List Int) (kind : Int) (p k : Int) : Int := if (kind.fdiv (2 ^ k.toNat)).fmod 2 = 1 then p * ps.getD k.toNat 0 else p
noncomputable def prodF (ps : List Int) (kind : Int) : Int := (rangeKs 0 3).foldl (prodStep ps kind) 1
noncomputable def prodFold (ps : List Int) (kind : Int) (pre : List Int) : Int := pre.foldl (prodStep ps kind) 1
theorem prod_start (ps : List Int) (kind : Int) : 1 ≤ (1 : Int) ∧ (1 : Int) ≤ 343 ∧ (1 : Int) ≤ 7 ^ ([] : List Int).length ∧ (1 : Int) = prodFold ps kind [] := ⟨by decide, by decide, by decide, rfl⟩
theorem prod_yes {ps pre : List Int} {kind k p : Int} (h1 : 1 ≤ p) (h7 : p ≤ 7 ^ pre.length) (h : p = prodFold ps kind pre) (hl : pre.length < 3) (hq1 : 2 ≤ ps.getD k.toNat 0) (hq2 : ps.getD k.toNat 0 ≤ 7) (hc : (kind.fdiv (2 ^ k.toNat)).fmod 2 = 1) :
    1 ≤ p * ps.getD k.toNat 0 ∧ p * ps.getD k.toNat 0 ≤ 343 ∧ p * ps.getD k.toNat 0 ≤ 7 ^ (pre ++ [k]).length ∧ p * ps.getD k.toNat 0 = prodFold ps kind (pre ++ [k]) := by
  have a1 : 1 * 1 ≤ p * ps.getD k.toNat 0 := Int.mul_le_mul h1 (by omega) (by decide) (by omega)
  have a2 : p * ps.getD k.toNat 0 ≤ 7 ^ pre.length * 7 := Int.mul_le_mul h7 hq2 (by omega) (Int.pow_nonneg (by decide))
  have a3 : (7 : Int) ^ (pre ++ [k]).length = 7 ^ pre.length * 7 := by rw [List.length_append, List.length_singleton, Int.pow_succ]
  have a4 : (7 : Int) ^ pre.length * 7 ≤ 343 := by
    rcases (by omega : pre.length = 0 ∨ pre.length = 1 ∨ pre.length = 2) with e | e | e <;> rw [e] <;> decide
  refine ⟨by omega, by omega, by omega, ?_⟩
  unfold prodFold
  rw [List.foldl_append, List.foldl_cons, List.foldl_nil]
  unfold prodFold at h
  rw [← h]
  unfold prodStep
  rw [if_pos hc]
theorem prod_no {ps pre : List Int} {kind k p : Int} (h1 : 1 ≤ p) (h7 : p ≤ 7 ^ pre.length) (h : p = prodFold ps kind pre) (hl : pre.length < 3) (hc : ¬ (kind.fdiv (2 ^ k.toNat)).fmod 2 = 1) :
    1 ≤ p ∧ p ≤ 343 ∧ p ≤ 7 ^ (pre ++ [k]).length ∧ p = prodFold ps kind (pre ++ [k]) := by
  have a3 : (7 : Int) ^ (pre ++ [k]).length = 7 ^ pre.length * 7 := by rw [List.length_append, List.length_singleton, Int.pow_succ]
  have a4 : (7 : Int) ^ pre.length * 7 ≤ 343 ∧ (1 : Int) ≤ 7 ^ pre.length := by
    rcases (by omega : pre.length = 0 ∨ pre.length = 1 ∨ pre.length = 2) with e | e | e <;> rw [e] <;> decide
  refine ⟨by omega, by omega, by omega, ?_⟩
  unfold prodFold
  rw [List.foldl_append, List.foldl_cons, List.foldl_nil]
  unfold prodFold at h
  rw [← h]
  unfold prodStep
  rw [if_neg hc]
set_option maxHeartbeats 8000000 in
theorem c_product (w : World) (lp : Addr) (pvs : List Value) (ps : List Int) (pn : Nat) (kind : Int) (t : Tok) (hpi : IntsAre pvs ps) (hps : PrimesOk ps) (hn : 0 ≤ kind ∧ kind < 8) (rest : Led) :
    Ctr 2 w 141 [.int kind t, .ref lp] ((lp, listOf pvs.toArray pn) :: rest) (fun v nw => nw = (lp, listOf pvs.toArray pn) :: rest ∧ ∃ t', v = .int (prodF ps kind) t') := by
  unfold Ctr
  k_fill
  intro mean mg mb dp un gd cn cs a ccd cl outer A₀ base h₀ L m s Q E B F X N T hk hd hu hret
  refine wpAny_call ?_
  walk_at "mine enter"
  iterate 6 walk1
  walk_at "mine for"
  iterate 7 walk1
  k_with "state" => first | exact prod_yes (by assumption) (by assumption) (by assumption) (by assumption) (by assumption) (by assumption) (by assumption) | exact prod_no (by assumption) (by assumption) (by assumption) (by assumption) (by assumption)
  with_reducible rename Fr _ _ _ _ => lF9
  with_reducible rename News _ _ _ _ => lN9
  with_unfolding_all refine' kst_range (σ := Int × Nat) (n := 3) (fun _ => (lp, listOf pvs.toArray pn) :: rest) (fun c => [(Str.ofString "product", .int c.1 c.2)]) (fun _ => True) [] (fun pre c => 1 ≤ c.1 ∧ c.1 ≤ 343 ∧ c.1 ≤ 7 ^ pre.length ∧ c.1 = prodFold ps kind pre) (1, _) ?hh ?hr ?hs ?hn lF9 lN9 trivial ?hk ?hp ?_ ?_
  case hh => rfl
  case hr => assumption
  case hs => rfl
  case hn => rfl
  case hk => intro p hp; rcases List.mem_singleton.mp hp with rfl; rfl
  case hp => exact prod_start _ _
  · intro c kPre kN kT kU kH kTk kOwn kEq kLt kOff kFacts kInv kFr kNews
    obtain ⟨p0, tp0⟩ := c
    obtain ⟨kI1, kI2, kI3, kI4⟩ := kInv
    dsimp only at kI1 kI2 kI3 kI4 kNews
    dsimp only [kstB] at kFr
    have hMk9 : KstMark := kstMark
    try k_fold
    have hk0 : 0 ≤ kN ∧ kN < 3 := by omega
    have hq1 := (hps.2 kN.toNat (by omega)).1
    have hq2 := (hps.2 kN.toNat (by omega)).2
    have hq3 := hps.1
    k_steps
  · intro c kU kH kTk kFacts kInv kFr kNews
    obtain ⟨p0, tp0⟩ := c
    obtain ⟨kI1, kI2, kI3, kI4⟩ := kInv
    dsimp only at kI1 kI2 kI3 kI4 kNews
    dsimp only [kstB] at kFr
    try k_fold
    k_steps
    exact hret _ _ _ _ ⟨rfl, _, congrArg (fun z => Value.int z _) kI4⟩ (by with_reducible assumption) (by walk_at "mine news")

end
section
/-- what a turn of a loop may leave behind: the ledger may name other objects than before -/
noncomputable def TurnPost (h₀ : Heap) (L : Addr) (J : (Str → Option Value) → Led → Prop) (own : Led) (s₁ : Shared) (Q : Flow → Shared → Prop) (f : Flow) (s₂ : Shared) : Prop :=
  match f with
  | .ret v => Q (.ret v) s₂
  | .brk => Q .next s₂
  | _ => ∃ h' tk m' news', s₂ = { s₁ with heap := h', toks := tk } ∧ Fr h₀ L h' m' ∧ News h₀ L h' (news' ++ own) ∧ (∀ q ∈ own, ∀ p ∈ news', p.1 ≠ q.1) ∧ J m' news'
section
variable {prog : Program} {w : World} {A : Around} {E : Value → Shared → Prop} {s : Shared} {env : Env} {h₀ : Heap} {x : Str} {body : List Stmt} {Q : Flow → Shared → Prop}
theorem news_swap {L : Addr} {h : Heap} {a b : Led} (N : News h₀ L h (a ++ b)) : News h₀ L h (b ++ a) := fun p hp => N p ((List.mem_append.mp hp).elim (fun h => List.mem_append.mpr (.inr h)) fun h => List.mem_append.mpr (.inl h))
theorem loop_text {xt : Str} {tx : Tok} {m₀ : Str → Option Value} {news : Led} (J : List Int → (Str → Option Value) → Led → Prop)
    (hh : A.handled = none) (ha : xt.cps.all (· < 128) = true) (F : Fr h₀ env.locals s.heap m₀) (N : News h₀ env.locals s.heap news) (hj : J [] m₀ news)
    (turn : ∀ (pre post : List Int) (n : Nat) t m₁ news₁ h tk own, KStt.codes xt = pre ++ (n : Int) :: post → J pre m₁ news₁ → (∀ q ∈ own, ∀ p ∈ news₁, p.1 ≠ q.1) →
      Fr h₀ env.locals h (fun y => if y = x then some (.str ⟨#[n]⟩ t) else m₁ y) → News h₀ env.locals h (news₁ ++ own) →
      wpAny (model prog w) A (execs body env) (TurnPost h₀ env.locals (J (pre ++ [(n : Int)])) own { s with heap := h, toks := tk } Q) E { s with heap := h, toks := tk })
    (done : ∀ m₁ news₁ h tk, J (KStt.codes xt) m₁ news₁ → Fr h₀ env.locals h m₁ → News h₀ env.locals h news₁ → Q .next { s with heap := h, toks := tk }) :
    wpAny (model prog w) A (pyIter (.str xt tx)) (fun it s₂ => LoopAtV prog w A h₀ env x body Q E it s₂) E s := by
  refine wpAny_pyIter_ascii ha ?_
  have W := Walks.strAscii (prog := prog) (w := w) hh s.heap.objs.size xt tx
  refine ⟨s.heap.objs.size, _, _, _, _, _, m₀, news, fun i m nx => J ((KStt.codes xt).take i) m nx, rfl, W, ?_, ?_, ?_, ⟨_, Heap.get?_push_size _ rfl, rfl, rfl⟩, F.push _, (fun p hp => ⟨Heap.get?_push_of_some _ (N p hp).1, (N p hp).2⟩), by simpa using hj, ?_, ?_⟩
  · intro hm
    exact absurd F.ns.lt ((List.mem_singleton.mp hm) ▸ Nat.lt_irrefl _)
  · intro b' hb
    rw [List.mem_singleton.mp hb]
    exact next_is_new F
  · intro p hp hI
    exact absurd (Heap.lt_size (N p hp).1) ((List.mem_singleton.mp hI) ▸ Nat.lt_irrefl _)
  · rintro i v m₁ nx s₁ own ⟨h, tk, rfl⟩ hi ⟨n, u, hn, rfl⟩ hJ hnw hown _ hall hst F₁ N₁
    have hn' := KStt.code_at hn
    have hs : (KStt.codes xt).take (i + 1) = (KStt.codes xt).take i ++ [(n : Int)] := by simp [List.take_add_one, hn']
    have e : KStt.codes xt = (KStt.codes xt).take i ++ (n : Int) :: (KStt.codes xt).drop (i + 1) := by
      have ht := List.take_append_drop (i + 1) (KStt.codes xt)
      rw [hs, List.append_assoc] at ht
      exact ht.symm
    have hoff : ∀ q ∈ own, ∀ p ∈ nx, p.1 ≠ q.1 := fun q hq p hp e => hnw p hp (e ▸ hown q hq)
    obtain ⟨oI, hoI, _⟩ := hst
    have hmI : (s.heap.objs.size, oI) ∈ own := hall _ (List.mem_singleton.mpr rfl) (next_is_new F) oI hoI
    refine wpAny_mono (turn _ _ n u m₁ nx h tk own e hJ hoff F₁ (news_swap N₁)) (fun f s₂ p => ?_) fun _ _ e => e
    have fin : (∃ h' tk' m' news', s₂ = { s with heap := h', toks := tk' } ∧ Fr h₀ env.locals h' m' ∧ News h₀ env.locals h' (news' ++ own) ∧ (∀ q ∈ own, ∀ p ∈ news', p.1 ≠ q.1) ∧ J ((KStt.codes xt).take i ++ [(n : Int)]) m' news') →
        LoopStepU h₀ env.locals [s.heap.objs.size] own (fun m nx => J ((KStt.codes xt).take (i + 1)) m nx) { s with heap := h, toks := tk } .next s₂ := by
      rintro ⟨h', tk', m', news', e', F', N', off, hJ'⟩
      refine ⟨rfl, h', tk', m', news', e', F', news_swap N', fun p hp hq => ?_, by rw [hs]; exact hJ'⟩
      exact off _ hmI p hp (List.mem_singleton.mp hq)
    cases f with
    | ret v => exact .ret p
    | brk => exact .brk p
    | next => exact .next (fin p)
    | cont => exact .cont (fin p)
  · rintro h' tk m' news' F' N' _ hJ
    have hl : xt.cps.size = (KStt.codes xt).length := (KStt.codes_length xt).symm
    rw [hl, List.take_length] at hJ
    exact done m' news' h' tk hJ F' N'
end

end
section
/-- what the loop over a lead's signs keeps -/
structure WsC where
  cD : Addr
  cvs : List Value
  cs : List Int
  cn : Nat
  b : Int
  tb : Nat
  n : Int
  tn : Nat
  nt : Int
  tnt : Nat
structure WsS where
  cs : List Int
  b : Int
  n : Int
  nt : Int
noncomputable def wsGrow (cs : List Int) (b : Int) : List Int := if b ≥ cs.length then cs ++ (List.replicate (b - cs.length + 1).toNat [(0 : Int)]).flatten else cs
noncomputable def wsBump (cs : List Int) (b : Int) : List Int := (wsGrow cs b).set b.toNat ((wsGrow cs b).getD b.toNat 0 + 1)
noncomputable def wsStep (s : WsS) (k : Int) : WsS := if k = 32 then { s with b := s.b + 1, n := s.n + 1 } else { cs := wsBump s.cs s.b, b := 0, n := s.n + 1, nt := s.nt + 1 }
noncomputable def wsFold (pre : List Int) : WsS := pre.foldl wsStep ⟨[], 0, 0, 0⟩
noncomputable def wsOf (c : WsC) : WsS := ⟨c.cs, c.b, c.n, c.nt⟩
noncomputable def wsLed (base : Led) (c : WsC) : Led := (c.cD, listOf c.cvs.toArray c.cn) :: base
noncomputable def wsPs (c : WsC) : List (Str × Value) := [(Str.ofString "count", .ref c.cD), (Str.ofString "b", .int c.b c.tb), (Str.ofString "n", .int c.n c.tn), (Str.ofString "nt", .int c.nt c.tnt)]
/-- the word of the loop -/
noncomputable def WsP (pre : List Int) (c : WsC) : Prop := (0 ≤ c.b ∧ c.b ≤ pre.length ∧ (c.cs.length : Int) ≤ pre.length) ∧ (∀ k ∈ pre, k = 32 ∨ k = 9) ∧ wsOf c = wsFold pre
theorem WsP.start (cD : Addr) (cn t1 t2 t3 : Nat) : WsP [] ⟨cD, [], [], cn, 0, t1, 0, t2, 0, t3⟩ := ⟨⟨Int.le_refl _, Int.le_refl _, Int.le_refl _⟩, (fun _ h => nomatch h), rfl⟩
theorem wsFold_snoc (pre : List Int) (k : Int) : wsFold (pre ++ [k]) = wsStep (wsFold pre) k := by unfold wsFold; rw [List.foldl_append, List.foldl_cons, List.foldl_nil]
theorem flat_length (k : Nat) : (List.replicate k [(0 : Int)]).flatten.length = k := by
  induction k with
  | zero => rfl
  | succ k ih => rw [List.replicate_succ, List.flatten_cons, List.length_append, ih]; simp; omega
theorem WsP.blank {pre : List Int} {c : WsC} (h : WsP pre c) (tb tn : Nat) : WsP (pre ++ [32]) { c with b := c.b + 1, tb := tb, n := c.n + 1, tn := tn } := by
  obtain ⟨⟨h1, h2, h3⟩, h4, h5⟩ := h
  refine ⟨⟨by show 0 ≤ c.b + 1; omega, ?_, ?_⟩, ?_, ?_⟩
  · show c.b + 1 ≤ _; rw [List.length_append, List.length_singleton]; omega
  · show (c.cs.length : Int) ≤ _; rw [List.length_append, List.length_singleton]; omega
  · intro k hk
    rcases List.mem_append.mp hk with hk | hk
    · exact h4 k hk
    · exact .inl (List.mem_singleton.mp hk)
  · rw [wsFold_snoc, ← h5]; rfl
theorem WsP.tab {pre : List Int} {c : WsC} (h : WsP pre c) (cD : Addr) (cvs : List Value) (cs : List Int) (cn tb tn tnt : Nat) (hcs : cs = wsBump c.cs c.b) : WsP (pre ++ [9]) ⟨cD, cvs, cs, cn, 0, tb, c.n + 1, tn, c.nt + 1, tnt⟩ := by
  obtain ⟨⟨h1, h2, h3⟩, h4, h5⟩ := h
  refine ⟨⟨by show (0 : Int) ≤ 0; decide, ?_, ?_⟩, ?_, ?_⟩
  · show (0 : Int) ≤ _; omega
  · show (cs.length : Int) ≤ _
    rw [hcs, List.length_append, List.length_singleton]
    unfold wsBump wsGrow
    rw [List.length_set]
    split
    · rw [List.length_append, flat_length]; omega
    · omega
  · intro k hk
    rcases List.mem_append.mp hk with hk | hk
    · exact h4 k hk
    · exact .inr (List.mem_singleton.mp hk)
  · rw [wsFold_snoc, ← h5]
    show (⟨cs, 0, c.n + 1, c.nt + 1⟩ : WsS) = wsStep (wsOf c) 9
    unfold wsStep
    rw [if_neg (by decide), hcs]
    rfl
/-- the first sign that is neither a blank nor a tab ends the lead -/
theorem lead_ends {pre body post post' : List Int} {k : Int} (h : body ++ 120 :: post = pre ++ k :: post') (hb : ∀ c ∈ body, c = 32 ∨ c = 9) (hp : ∀ c ∈ pre, c = 32 ∨ c = 9) (hk : k ≠ 32) (hk' : k ≠ 9) : pre = body := by
  induction pre generalizing body with
  | nil =>
    cases body with
    | nil => rfl
    | cons a r =>
      injection h with h1 h2
      have := hb a (.head _)
      omega
  | cons a r ih =>
    cases body with
    | nil =>
      injection h with h1 h2
      have := hp a (.head _)
      omega
    | cons a' r' =>
      injection h with h1 h2
      rw [h1, ih h2 (fun c hc => hb c (.tail _ hc)) fun c hc => hp c (.tail _ hc)]
theorem lead_never {body post : List Int} (h : ∀ c ∈ body ++ 120 :: post, c = 32 ∨ c = 9) : False := by
  have := h 120 (List.mem_append.mpr (.inr (.head _)))
  omega
section
variable {prog : Program} {w : World} {A : Around} {E : Value → Shared → Prop} {s : Shared} {env : Env} {h₀ : Heap} {x : Str} {body : List Stmt} {Q : Flow → Shared → Prop}
noncomputable def WsJ (base : Led) (x : Str) (m₀ : Str → Option Value) (pre : List Int) (m : Str → Option Value) (nx : Led) : Prop := KstS (wsLed base) wsPs (fun c => IntsAre c.cvs c.cs ∧ ∀ p ∈ base, p.1 ≠ c.cD) x [] m₀ WsP pre m nx
theorem ws_loop {xt : Str} {tx : Tok} {m₀ : Str → Option Value} {base : Led} {cD : Addr} {cn t1 t2 t3 : Nat}
    (hh : A.handled = none) (ha : xt.cps.all (· < 128) = true) (F : Fr h₀ env.locals s.heap m₀) (N : News h₀ env.locals s.heap ((cD, listOf ([] : List Value).toArray cn) :: base))
    (hcb : ∀ p ∈ base, p.1 ≠ cD) (hc : m₀ (Str.ofString "count") = some (.ref cD)) (hb : m₀ (Str.ofString "b") = some (.int 0 t1)) (hn : m₀ (Str.ofString "n") = some (.int 0 t2)) (hnt : m₀ (Str.ofString "nt") = some (.int 0 t3))
    (turn : ∀ (c : WsC) (pre post : List Int) (n : Nat) t (u : Str → Option Value) h tk own, KStt.codes xt = pre ++ (n : Int) :: post → (∀ q ∈ own, ∀ p ∈ wsLed base c, p.1 ≠ q.1) → IntsAre c.cvs c.cs ∧ (∀ p ∈ base, p.1 ≠ c.cD) → WsP pre c →
      Fr h₀ env.locals h (fun y => if y = x then some (.str ⟨#[n]⟩ t) else kstB m₀ (wsPs c) y) → News h₀ env.locals h (wsLed base c ++ own) →
      wpAny (model prog w) A (execs body env) (TurnPost h₀ env.locals (WsJ base x m₀ (pre ++ [(n : Int)])) own { s with heap := h, toks := tk } Q) E { s with heap := h, toks := tk })
    (done : ∀ (c : WsC) (u : Str → Option Value) h tk, IntsAre c.cvs c.cs → WsP (KStt.codes xt) c → Fr h₀ env.locals h (fun y => if y = x then u y else kstB m₀ (wsPs c) y) → News h₀ env.locals h (wsLed base c) → Q .next { s with heap := h, toks := tk }) :
    wpAny (model prog w) A (pyIter (.str xt tx)) (fun it s₂ => LoopAtV prog w A h₀ env x body Q E it s₂) E s := by
  have fe : ∀ {m₁ : Str → Option Value} {ps : List (Str × Value)}, (fun z => if ([] : List Str).contains z then m₁ z else m₀ z) = m₀ := by
    intro m₁ ps; funext z; simp
  refine loop_text (fun pre m nx => WsJ base x m₀ pre m nx) hh ha F N ⟨⟨cD, [], [], cn, 0, t1, 0, t2, 0, t3⟩, rfl, ⟨.nil, hcb⟩, ?_, fun _ _ _ _ => rfl, WsP.start ..⟩ ?_ ?_
  · intro p hp
    simp only [wsPs, List.mem_cons, List.not_mem_nil, or_false] at hp
    rcases hp with rfl | rfl | rfl | rfl
    · exact hc
    · exact hb
    · exact hn
    · exact hnt
  · rintro pre post n t m₁ nx h tk own e ⟨c, rfl, hf, h1, h2, hp⟩ hoff F₁ N₁
    have F₂ := kst_fr h1 h2 F₁
    rw [fe (ps := wsPs c)] at F₂
    exact turn c pre post n t m₁ h tk own e hoff hf hp F₂ N₁
  · rintro m₁ nx h tk ⟨c, rfl, hf, h1, h2, hp⟩ F₁ N₁
    have F₂ := kst_frOut h1 h2 F₁
    rw [fe (ps := wsPs c)] at F₂
    exact done c m₁ h tk hf.1 hp F₂ N₁
theorem ws_end {L : Addr} {m₀ m' : Str → Option Value} {base own : Led} {pre : List Int} {s₁ : Shared} {h' : Heap} {tk : Nat} (c : WsC) (F : Fr h₀ L h' m') (N : News h₀ L h' (wsLed base c ++ own)) (off : ∀ q ∈ own, ∀ p ∈ wsLed base c, p.1 ≠ q.1)
    (hf : IntsAre c.cvs c.cs) (hcb : ∀ p ∈ base, p.1 ≠ c.cD) (h1 : m' (Str.ofString "count") = some (.ref c.cD)) (h2 : m' (Str.ofString "b") = some (.int c.b c.tb)) (h3 : m' (Str.ofString "n") = some (.int c.n c.tn)) (h4 : m' (Str.ofString "nt") = some (.int c.nt c.tnt))
    (hr : ∀ z, z ≠ x → z ≠ Str.ofString "count" → z ≠ Str.ofString "b" → z ≠ Str.ofString "n" → z ≠ Str.ofString "nt" → m' z = m₀ z) (hp : WsP pre c) : TurnPost h₀ L (WsJ base x m₀ pre) own s₁ Q .next { s₁ with heap := h', toks := tk } := by
  refine ⟨h', tk, m', wsLed base c, rfl, F, N, off, c, rfl, ⟨hf, hcb⟩, ?_, ?_, hp⟩
  · intro p hp
    simp only [wsPs, List.mem_cons, List.not_mem_nil, or_false] at hp
    rcases hp with rfl | rfl | rfl | rfl
    · exact h1
    · exact h2
    · exact h3
    · exact h4
  · intro z z0 hz _
    have z1 := hz _ (.head _)
    have z2 := hz _ (.tail _ (.head _))
    have z3 := hz _ (.tail _ (.tail _ (.head _)))
    have z4 := hz _ (.tail _ (.tail _ (.tail _ (.head _))))
    exact hr z z0 z1 z2 z3 z4
theorem off_new {own base : Led} {d cD : Addr} {o o' : Obj} (k : ∀ q ∈ own, ∀ p ∈ (cD, o) :: base, p.1 ≠ q.1) (hl : ∀ q ∈ own, q.1 < d) : ∀ q ∈ own, ∀ p ∈ (d, o') :: base, p.1 ≠ q.1 := fun q hq p hp => by
  rcases List.mem_cons.mp hp with rfl | hp
  · exact Nat.ne_of_gt (hl q hq)
  · exact k q hq p (.tail _ hp)
theorem allLt_mem {d : Addr} : ∀ {r : Led}, AllLt d r → ∀ p ∈ r, p.1 < d
  | [], _, _, hp => nomatch hp
  | q :: r, h, p, hp => by
    rcases List.mem_cons.mp hp with rfl | hp
    · exact h.1
    · exact allLt_mem h.2 p hp
theorem allLt_right {d : Addr} {a b : Led} (h : AllLt d (a ++ b)) : ∀ p ∈ b, p.1 < d := fun p hp => allLt_mem h p (List.mem_append.mpr (.inr hp))
theorem allLt_left {d : Addr} {a b : Led} (h : AllLt d (a ++ b)) : ∀ p ∈ a, p.1 < d := fun p hp => allLt_mem h p (List.mem_append.mpr (.inl hp))
theorem off_same {own base : Led} {cD : Addr} {o o' : Obj} (k : ∀ q ∈ own, ∀ p ∈ (cD, o) :: base, p.1 ≠ q.1) : ∀ q ∈ own, ∀ p ∈ (cD, o') :: base, p.1 ≠ q.1 := fun q hq p hp => by
  rcases List.mem_cons.mp hp with rfl | hp
  · exact k q hq (cD, o) (.head _)
  · exact k q hq p (.tail _ hp)
theorem ws_newsGrow {L : Addr} {h : Heap} {a x' y' c : Addr × Obj} {base own : Led} (N : News h₀ L h (a :: x' :: y' :: ((c :: base) ++ own))) : News h₀ L h ((a :: base) ++ own) := fun p hp => by
  rcases List.mem_append.mp hp with hp | hp
  · rcases List.mem_cons.mp hp with rfl | hp
    · exact N _ (.head _)
    · exact N _ (.tail _ (.tail _ (.tail _ (List.mem_append.mpr (.inl (.tail _ hp))))))
  · exact N _ (.tail _ (.tail _ (.tail _ (List.mem_append.mpr (.inr hp)))))
theorem ws_cbGrow {d : Addr} {c : Addr × Obj} {base own : Led} (h : AllLt d ((c :: base) ++ own)) : ∀ p ∈ base, p.1 ≠ d := fun p hp => Nat.ne_of_lt (allLt_left h p (.tail _ hp))
end
theorem wsBump_grow {cs : List Int} {b : Int} (h : (cs.length : Int) ≤ b) : (cs ++ (List.replicate (b - cs.length + 1).toNat [(0 : Int)]).flatten).set b.toNat ((cs ++ (List.replicate (b - cs.length + 1).toNat [(0 : Int)]).flatten).getD b.toNat 0 + 1) = wsBump cs b := by
  unfold wsBump wsGrow; rw [if_pos h]
theorem wsBump_stay {cs : List Int} {b : Int} (h : ¬ (cs.length : Int) ≤ b) : cs.set b.toNat (cs.getD b.toNat 0 + 1) = wsBump cs b := by
  unfold wsBump wsGrow; rw [if_neg h]
theorem sign_eq {n : Nat} {x : Nat} : ((⟨#[n]⟩ : Str) == (⟨#[x]⟩ : Str)) = true ↔ n = x := by
  rw [beq_iff_eq]
  constructor
  · intro h; injection h with h; injection h with h; injection h
  · intro h; rw [h]
theorem blank_eq {n : Nat} : ((⟨#[n]⟩ : Str) == Str.ofString " ") = true ↔ n = 32 := by
  rw [show Str.ofString " " = ⟨#[32]⟩ from by decide +kernel]; exact sign_eq
theorem tab_eq {n : Nat} : ((⟨#[n]⟩ : Str) == Str.ofString "\t") = true ↔ n = 9 := by
  rw [show Str.ofString "\t" = ⟨#[9]⟩ from by decide +kernel]; exact sign_eq
theorem blank_int {n : Nat} (h : ((⟨#[n]⟩ : Str) == Str.ofString " ") = true) : (n : Int) = 32 := by rw [blank_eq.mp h]; rfl
theorem tab_int {n : Nat} (h : ((⟨#[n]⟩ : Str) == Str.ofString "\t") = true) : (n : Int) = 9 := by rw [tab_eq.mp h]; rfl
theorem blank_not {n : Nat} (h : ((⟨#[n]⟩ : Str) == Str.ofString " ") = false) : (n : Int) ≠ 32 := fun e => by
  have : n = 32 := by omega
  rw [blank_eq.mpr this] at h; cases h
theorem tab_not {n : Nat} (h : ((⟨#[n]⟩ : Str) == Str.ofString "\t") = false) : (n : Int) ≠ 9 := fun e => by
  have : n = 9 := by omega
  rw [tab_eq.mpr this] at h; cases h
theorem news_drop34 {h₀ h : Heap} {L : Addr} {a b c e : Addr × Obj} {r : Led} (N : News h₀ L h (a :: b :: c :: e :: r)) : News h₀ L h (a :: b :: r) := fun p hp => by
  rcases List.mem_cons.mp hp with rfl | hp
  · exact N _ (.head _)
  · rcases List.mem_cons.mp hp with rfl | hp
    · exact N _ (.tail _ (.head _))
    · exact N _ (.tail _ (.tail _ (.tail _ (.tail _ hp))))
/-- a lead made of a text, as the ledger bears it -/
structure LeadAt where
  x : Addr
  dx : Addr
  tn : Addr
  tc : Addr
  cvs : List Value
  raw : Value
  sb : Value
  k1 : Nat
  k2 : Nat
  k3 : Nat
  k4 : Nat
  k5 : Nat
  nn : Int
  tnn : Nat
  nt : Int
  tnt : Nat
  b : Int
  tb : Nat
noncomputable abbrev leadDict (w : World) (l : LeadAt) : Obj := dictOf [⟨PyData.keyHash w.params (Str.ofString "raw"), .str (Str.ofString "raw") l.k1, l.raw⟩, ⟨PyData.keyHash w.params (Str.ofString "n"), .str (Str.ofString "n") l.k2, .int l.nn l.tnn⟩, ⟨PyData.keyHash w.params (Str.ofString "nt"), .str (Str.ofString "nt") l.k3, .int l.nt l.tnt⟩, ⟨PyData.keyHash w.params (Str.ofString "norm"), .str (Str.ofString "norm") l.k4, .ref l.tn⟩, ⟨PyData.keyHash w.params (Str.ofString "is_simple"), .str (Str.ofString "is_simple") l.k5, l.sb⟩] 5
noncomputable abbrev tupObj (vs : List Value) : Obj := { cls := .type "tuple", data := .seq vs.toArray }

end
section
theorem fresh_Ws : True := by
  w_top off
  k_with_none
  k_with "m mine enter" => (k_dflt (refine' code_def ?z58k1 ?z58k2 ?z58k3 ?z58k4 ?z58k5 ?z58kA ?z58kF ?z58kK ?z58k6 ?z58k7 ?z58k8 ?z58k9 ?z58kB ?_ ?z58c2 ?z58c3 ?z58c4 ?z58c5; (case z58kA => exact rfl); (case z58kF => exact rfl); (case z58kK => assumption); (case z58k1 => k_asm); (case z58k2 => k_asm); (case z58k3 => k_asm); (case z58k4 => k_asm); (case z58k5 => k_asm); (case z58k6 => k_is); (case z58k7 => k_is); (case z58k8 => ktr_room); (case z58k9 => first | exact BindsTo.of_eq rfl | exact binds_K (by k_in) rfl (by k_is) rfl rfl rfl | (refine' kp_binds ?z58kx ?z58ke; (case z58kx => k_in); (case z58ke => exact fun _ => rfl))); (case z58c5 => decide); (case z58kB => exact locs rfl); (case z58c2 => exact rfl); (case z58c3 => exact rfl); (case z58c4 => exact rfl); k_whole; intro zg' zL' zh' zFG' zF' zN' zB' zX' zT'; (try dsimp only); (try k_lift zB'); (try k_fold)))
  k_with "m k_all" => ((refine Mine.allLt_ne ?_; first | assumption | exact And.right (by assumption) | exact And.right (And.right (by assumption)) | exact And.right (And.right (And.right (by assumption))) | exact And.right (And.right (And.right (And.right (by assumption)))) | exact And.right (And.right (And.right (And.right (And.right (by assumption)))))))
  k_with "m mine pull" => (first | (refine' Mine.Pull.head ?z60a; (case z60a => k_all)) | (refine' Mine.Pull.tail ?z60a ?z60b; (case z60a => k_ne); (case z60b => walk_at "mine pull")))
  k_with "m k_all" => ((refine Mine.all_append ?z61a ?z61b; (case z61a => k_all); (case z61b => k_all)))
  k_with "m getItem ref int" => ((k_here; (with_reducible show wpAny _ _ (getItem (Value.ref _) (Value.int (List.getD _ _ _) _)) _ _ _); k_dflt (refine' Mine.kinds_get ?z62k1 ?z62k2 ?z62k3 ?z62k4 ?z62k5 ?_; (case z62k1 => k_asm); (case z62k2 => k_mem); (case z62k3 => with_reducible assumption); (case z62k4 => assumption); (case z62k5 => assumption)); intro zt9 zb9 zc9; walk_say "KINDS"))
  k_with "m mine for" => (((with_reducible rename Fr _ _ _ _ => zlF'); (with_unfolding_all refine' For_invVF zlF' ?z63k1 ?z63k2 ?_; (case z63k1 => exact rfl); (case z63k2 => exact rfl); k_whole)))
  k_with "m mine enterC" => (k_dflt (refine' code_defC ?z64k1 ?z64k2 ?z64k3 ?z64k4 ?z64k5 ?z64kA ?z64kF ?z64kK ?z64k6 ?z64k7 ?z64k8 ?z64k9 ?z64kB ?z64kD ?_ ?z64c2 ?z64c3 ?z64c4; (case z64kA => exact rfl); (case z64kF => exact rfl); (case z64kK => assumption); (case z64k1 => k_asm); (case z64k2 => k_asm); (case z64k3 => k_asm); (case z64k4 => k_asm); (case z64k5 => k_asm); (case z64k6 => k_is); (case z64k7 => k_is); (case z64k8 => ktr_room); (case z64k9 => first | exact BindsTo.of_eq rfl | exact binds_K (by k_in) rfl (by k_is) rfl rfl rfl | (refine' kp_binds ?z64kx ?z64ke; (case z64kx => k_in); (case z64ke => exact fun _ => rfl))); (case z64kB => exact rfl); (case z64kD => decide +kernel); (case z64c2 => exact rfl); (case z64c3 => exact rfl); (case z64c4 => exact rfl); k_whole; intro zg' zL' zh' ztk' zcells' zFG' zF' zN' zY' zB' zX' zT' zl1; (try k_lt zl1); k_cells zY'; (try simp only [List.cons_append, List.nil_append] at zN'); (try dsimp only); (try k_lift zB'); (try k_fold)))
  k_with "m mine news" => (((with_reducible rename News _ _ _ _ => znX9); with_reducible (first | exact znX9 | exact Mine.news_tl znX9 | exact Mine.news_tl (Mine.news_tl znX9) | exact Mine.news_tl (Mine.news_tl (Mine.news_tl znX9)) | exact Mine.news_tl (Mine.news_tl (Mine.news_tl (Mine.news_tl znX9))) | exact Mine.news_tl (Mine.news_tl (Mine.news_tl (Mine.news_tl (Mine.news_tl znX9)))) | exact Mine.news_tl (Mine.news_tl (Mine.news_tl (Mine.news_tl (Mine.news_tl (Mine.news_tl znX9))))))))
  k_with "m k_all" => (with_reducible assumption)
  exact trivial
set_option maxHeartbeats 8000000 in
theorem c_ws (w : World) (TX : Str) (tx : Tok) (hasc : TX.cps.all (· < 128) = true) (hlen : TX.length ≤ 400) (lead post : List Int) (hT : KStt.codes TX = lead ++ 120 :: post) (hlead : ∀ c ∈ lead, c = 32 ∨ c = 9) (rest : Led) :
    Ctr 2 w 125 [.str TX tx] rest (fun v nw => ∃ l : LeadAt, v = .ref l.x ∧ nw = (l.tn, tupObj [.ref l.tc, .int l.b l.tb]) :: (l.tc, tupObj l.cvs) :: (l.x, instObj 125 l.dx) :: (l.dx, leadDict w l) :: rest ∧ IntsAre l.cvs (wsFold lead).cs ∧ l.b = (wsFold lead).b ∧ l.nt = (wsFold lead).nt) := by
  unfold Ctr
  k_fill
  intro mean mg mb dp un gd cn cs a ccd cl outer A₀ base h₀ L m s Q E B F X N T hk hd hu hret
  k_dflt (refine' call_cls ?k1 ?k2 ?k3 ?k4 ?k5 ?k6 ?_; (case k1 => k_asm); (case k2 => k_asm); (case k3 => k_asm); (case k4 => k_is); (case k5 => k_is); (case k6 => k_is); k_whole; intro x' d' h' F' N' l1 l2; (try k_lt l1); (try k_lt2 l2); (try k_sweep))
  walk_at "mine enter"
  iterate 45 walk1
  walk_at "mine for"
  iterate 3 walk1
  with_reducible rename Fr _ _ _ _ => lF9
  with_reducible rename News _ _ _ _ => lN9
  with_unfolding_all refine' ws_loop ?hh hasc lF9 lN9 ?hcb ?hc ?hb ?hn ?hnt ?_ ?_
  case hh => rfl
  case hcb => k_all
  case hc => rfl
  case hb => rfl
  case hn => rfl
  case hnt => rfl
  · intro c pre post' n t u h tk own kEq kOff kIntsB kP kFr kNews
    obtain ⟨cD, cvs, cs, cn, b, tb, nn, tn, nt, tnt⟩ := c
    dsimp only [kstB, wsPs, wsLed] at kFr kNews kOff kIntsB
    have kP1 := kP.1
    dsimp only at kP1
    obtain ⟨kb0, kb1, kb2⟩ := kP1
    have hpl : pre.length ≤ 400 := by
      have := congrArg List.length kEq
      rw [KStt.codes_length, List.length_append, List.length_cons] at this
      omega
    have hMk9 : KstMark := kstMark
    have kInts := kIntsB.1
    have kB := kIntsB.2
    have kB1 := kB _ (.head _)
    have kB2 : @Ne Nat x' cD := kB _ (.tail _ (.head _))
    have kB3 : @Ne Nat d' cD := kB _ (.tail _ (.tail _ (.head _)))
    dsimp only at kB1
    have kB4 : ∀ p ∈ rest, p.1 ≠ cD := fun p hp => kB p (.tail _ (.tail _ (.tail _ hp)))
    have kB5 : ∀ p ∈ own, p.1 ≠ cD := fun p hp e => kOff p hp _ (.head _) e.symm
    clear kIntsB
    try k_fold
    k_steps
    · rw [blank_int (by assumption)]
      with_reducible rename Fr _ _ _ _ => lF8
      with_reducible rename News _ _ _ _ => lN8
      exact ws_end ⟨cD, cvs, cs, cn, b + 1, _, nn + 1, _, nt, _⟩ lF8 lN8 kOff kInts kB (by with_unfolding_all rfl) (by with_unfolding_all rfl) (by with_unfolding_all rfl) (by with_unfolding_all rfl) (by intro z z0 z1 z2 z3 z4; simp only [z0, z1, z2, z3, z4, if_false]) (WsP.blank kP _ _)
    · rw [tab_int (by assumption)]
      with_reducible rename Fr _ _ _ _ => lF8
      with_reducible rename News _ _ _ _ => lN8
      with_reducible rename _ < _ ∧ _ < _ ∧ AllLt _ _ => hl8
      with_reducible rename IntsAre _ _ => hI8
      exact ws_end ⟨_, _, _, _, 0, _, nn + 1, _, nt + 1, _⟩ lF8 (ws_newsGrow lN8) (off_new kOff (allLt_right hl8.2.2)) hI8 (ws_cbGrow hl8.2.2) (by with_unfolding_all rfl) (by with_unfolding_all rfl) (by with_unfolding_all rfl) (by with_unfolding_all rfl) (by intro z z0 z1 z2 z3 z4; simp only [z0, z1, z2, z3, z4, if_false]) (WsP.tab kP _ _ _ _ _ _ _ (wsBump_grow (by assumption)))
    · rw [tab_int (by assumption)]
      with_reducible rename Fr _ _ _ _ => lF8
      with_reducible rename News _ _ _ _ => lN8
      with_reducible rename IntsAre _ _ => hI8
      exact ws_end ⟨cD, _, _, cn, 0, _, nn + 1, _, nt + 1, _⟩ lF8 lN8 (off_same kOff) hI8 kB (by with_unfolding_all rfl) (by with_unfolding_all rfl) (by with_unfolding_all rfl) (by with_unfolding_all rfl) (by intro z z0 z1 z2 z3 z4; simp only [z0, z1, z2, z3, z4, if_false]) (WsP.tab kP _ _ _ _ _ _ _ (wsBump_stay (by assumption)))
    · have hpre : pre = lead := lead_ends (hT.symm.trans kEq) hlead kP.2.1 (blank_not (by assumption)) (tab_not (by assumption))
      subst hpre
      dsimp only [TurnPost]
      have kR1 : ∀ p ∈ rest, p.1 ≠ d' := fun p hp => Nat.ne_of_lt (l1 p hp)
      have kN7 := news_left kNews
      clear kNews
      k_steps
      with_reducible rename News _ _ _ _ => lN6
      have qD := news_ne lN6 (.tail _ (.head _)) (.tail _ (.tail _ (.tail _ (.tail _ (.tail _ (.head _)))))) tup_dict
      k_steps
      with_reducible rename News h₀ L _ _ => lN5
      with_reducible rename Fr h₀ L _ _ => lF5
      exact hret _ _ _ _ ⟨⟨x', d', _, _, cvs, _, _, _, _, _, _, _, nn, _, nt, _, b, _⟩, rfl, rfl, ints_eq kInts (congrArg WsS.cs kP.2.2), congrArg WsS.b kP.2.2, congrArg WsS.nt kP.2.2⟩ lF5 (news_drop34 lN5)
  · intro c u h tk kInts kP kFr kNews
    exact (lead_never (body := lead) (post := post) (hT ▸ kP.2.1)).elim

end
section
theorem fresh_Indent : True := by
  w_top off
  k_with_none
  k_with "m mine enter" => (k_dflt (refine' code_def ?z67k1 ?z67k2 ?z67k3 ?z67k4 ?z67k5 ?z67kA ?z67kF ?z67kK ?z67k6 ?z67k7 ?z67k8 ?z67k9 ?z67kB ?_ ?z67c2 ?z67c3 ?z67c4 ?z67c5; (case z67kA => exact rfl); (case z67kF => exact rfl); (case z67kK => assumption); (case z67k1 => k_asm); (case z67k2 => k_asm); (case z67k3 => k_asm); (case z67k4 => k_asm); (case z67k5 => k_asm); (case z67k6 => k_is); (case z67k7 => k_is); (case z67k8 => ktr_room); (case z67k9 => first | exact BindsTo.of_eq rfl | exact binds_K (by k_in) rfl (by k_is) rfl rfl rfl | (refine' kp_binds ?z67kx ?z67ke; (case z67kx => k_in); (case z67ke => exact fun _ => rfl))); (case z67c5 => decide); (case z67kB => exact locs rfl); (case z67c2 => exact rfl); (case z67c3 => exact rfl); (case z67c4 => exact rfl); k_whole; intro zg' zL' zh' zFG' zF' zN' zB' zX' zT'; (try dsimp only); (try k_lift zB'); (try k_fold)))
  k_with "m k_all" => ((refine Mine.allLt_ne ?_; first | assumption | exact And.right (by assumption) | exact And.right (And.right (by assumption)) | exact And.right (And.right (And.right (by assumption))) | exact And.right (And.right (And.right (And.right (by assumption)))) | exact And.right (And.right (And.right (And.right (And.right (by assumption)))))))
  k_with "m mine pull" => (first | (refine' Mine.Pull.head ?z69a; (case z69a => k_all)) | (refine' Mine.Pull.tail ?z69a ?z69b; (case z69a => k_ne); (case z69b => walk_at "mine pull")))
  k_with "m k_all" => ((refine Mine.all_append ?z70a ?z70b; (case z70a => k_all); (case z70b => k_all)))
  k_with "m getItem ref int" => ((k_here; (with_reducible show wpAny _ _ (getItem (Value.ref _) (Value.int (List.getD _ _ _) _)) _ _ _); k_dflt (refine' Mine.kinds_get ?z71k1 ?z71k2 ?z71k3 ?z71k4 ?z71k5 ?_; (case z71k1 => k_asm); (case z71k2 => k_mem); (case z71k3 => with_reducible assumption); (case z71k4 => assumption); (case z71k5 => assumption)); intro zt9 zb9 zc9; walk_say "KINDS"))
  k_with "m mine for" => (((with_reducible rename Fr _ _ _ _ => zlF'); (with_unfolding_all refine' For_invVF zlF' ?z72k1 ?z72k2 ?_; (case z72k1 => exact rfl); (case z72k2 => exact rfl); k_whole)))
  k_with "m mine enterC" => (k_dflt (refine' code_defC ?z73k1 ?z73k2 ?z73k3 ?z73k4 ?z73k5 ?z73kA ?z73kF ?z73kK ?z73k6 ?z73k7 ?z73k8 ?z73k9 ?z73kB ?z73kD ?_ ?z73c2 ?z73c3 ?z73c4; (case z73kA => exact rfl); (case z73kF => exact rfl); (case z73kK => assumption); (case z73k1 => k_asm); (case z73k2 => k_asm); (case z73k3 => k_asm); (case z73k4 => k_asm); (case z73k5 => k_asm); (case z73k6 => k_is); (case z73k7 => k_is); (case z73k8 => ktr_room); (case z73k9 => first | exact BindsTo.of_eq rfl | exact binds_K (by k_in) rfl (by k_is) rfl rfl rfl | (refine' kp_binds ?z73kx ?z73ke; (case z73kx => k_in); (case z73ke => exact fun _ => rfl))); (case z73kB => exact rfl); (case z73kD => decide +kernel); (case z73c2 => exact rfl); (case z73c3 => exact rfl); (case z73c4 => exact rfl); k_whole; intro zg' zL' zh' ztk' zcells' zFG' zF' zN' zY' zB' zX' zT' zl1; (try k_lt zl1); k_cells zY'; (try simp only [List.cons_append, List.nil_append] at zN'); (try dsimp only); (try k_lift zB'); (try k_fold)))
  k_with "m mine news" => (((with_reducible rename News _ _ _ _ => znX9); with_reducible (first | exact znX9 | exact Mine.news_tl znX9 | exact Mine.news_tl (Mine.news_tl znX9) | exact Mine.news_tl (Mine.news_tl (Mine.news_tl znX9)) | exact Mine.news_tl (Mine.news_tl (Mine.news_tl (Mine.news_tl znX9))) | exact Mine.news_tl (Mine.news_tl (Mine.news_tl (Mine.news_tl (Mine.news_tl znX9)))) | exact Mine.news_tl (Mine.news_tl (Mine.news_tl (Mine.news_tl (Mine.news_tl (Mine.news_tl znX9))))))))
  k_with "m k_all" => (with_reducible assumption)
  exact trivial
noncomputable def ilStep (cs : List Int) (size : Int) (il i : Int) : Int := il + i.fdiv size * cs.getD i.toNat 0
noncomputable def ilFold (cs : List Int) (size : Int) (pre : List Int) : Int := pre.foldl (ilStep cs size) 0
noncomputable def ilF (cs : List Int) (size : Int) : Int := ilFold cs size (rangeKs size ((cs.length : Int) - size).toNat)
noncomputable def CountsOk (cs : List Int) : Prop := cs.length ≤ 400 ∧ ∀ i : Nat, 0 ≤ cs.getD i 0 ∧ cs.getD i 0 ≤ 400
section
variable {prog : Program} {w : World} {A : Around} {E : Value → Shared → Prop} {s : Shared} {h₀ : Heap} {L D : Addr} {news : Led} {vs : List Value} {ns : List Int} {u : Tok}
theorem tup_len {Q : Value → Shared → Prop} (N : News h₀ L s.heap news) (hm : (D, tupObj vs) ∈ news) (hi : IntsAre vs ns) (hl : ns.length ≤ 400) (h : Q (.int ns.length (s.toks + 1)) { s with toks := s.toks + 1 + 1 }) :
    wpAny (model prog w) A (call (.builtin "len") [.ref D]) Q E s := by
  have e : vs.toArray.size = ns.length := by rw [List.size_toArray]; exact hi.length
  exact PyProof.Rows.len_tuple (News.isTup N hm) (by rw [e]; omega) (by rw [e]; exact h)
theorem tup_item {k : Int} {value slice : PySem.Expr} {Q : Value → Shared → Prop} (N : News h₀ L s.heap news) (hm : (D, tupObj vs) ∈ news) (hi : IntsAre vs ns) (h0 : 0 ≤ k) (h1 : k < ns.length) (hl : ns.length ≤ 400) (h : ∀ t, Q (.int (ns.getD k.toNat 0) t) s)
    (hs : subscripted slice false (.ref D) (.int k u) = operate [.ref D, .int k u] (getItem (.ref D) (.int k u)) := by with_unfolding_all rfl) :
    wpAny (model prog w) A (subscriptTail value slice (.ref D) (.int k u)) Q E s := by
  have e : vs.length = ns.length := hi.length
  have hj : seqIndex? k vs.length = some k.toNat := by
    unfold seqIndex?
    have h2 : ¬ k < 0 := by omega
    simp only [if_neg h2]
    have h3 : (decide (0 ≤ k) && decide (k < (vs.length : Int))) = true := by
      rw [Bool.and_eq_true, decide_eq_true_eq, decide_eq_true_eq]; omega
    rw [if_pos h3]
  have hn : k.toNat < ns.length := by omega
  obtain ⟨t, ht⟩ := hi.get k.toNat (ns.getD k.toNat 0) (by rw [List.getD_eq_getElem?_getD, List.getElem?_eq_getElem hn]; rfl)
  exact item_tupleT (News.isTup N hm) (by omega) (by omega) hj ht (h t) hs
end
theorem il_start (cs : List Int) (size : Int) : 0 ≤ (0 : Int) ∧ (0 : Int) ≤ 160000 * (([] : List Int).length : Int) ∧ (0 : Int) = ilFold cs size [] := ⟨Int.le_refl _, Int.le_refl _, rfl⟩
theorem fdiv_le {i size : Int} (h0 : 0 ≤ i) (hs : 1 ≤ size) (hi : i ≤ 400) : 0 ≤ i.fdiv size ∧ i.fdiv size ≤ 400 := by
  rw [Int.fdiv_eq_ediv_of_nonneg _ (by omega)]
  refine ⟨Int.ediv_nonneg h0 (by omega), ?_⟩
  have := Int.ediv_le_self size h0
  omega
theorem il_turn {cs pre : List Int} {size i il : Int} (h1 : 0 ≤ il) (h2 : il ≤ 160000 * (pre.length : Int)) (h3 : il = ilFold cs size pre) (hc : 0 ≤ cs.getD i.toNat 0 ∧ cs.getD i.toNat 0 ≤ 400) (hd : 0 ≤ i.fdiv size ∧ i.fdiv size ≤ 400) :
    0 ≤ il + i.fdiv size * cs.getD i.toNat 0 ∧ il + i.fdiv size * cs.getD i.toNat 0 ≤ 160000 * ((pre ++ [i]).length : Int) ∧ il + i.fdiv size * cs.getD i.toNat 0 = ilFold cs size (pre ++ [i]) := by
  have a1 : 0 ≤ i.fdiv size * cs.getD i.toNat 0 := Int.mul_nonneg hd.1 hc.1
  have a2 : i.fdiv size * cs.getD i.toNat 0 ≤ 400 * 400 := Int.mul_le_mul hd.2 hc.2 hc.1 (by decide)
  have a3 : ((pre ++ [i]).length : Int) = pre.length + 1 := by rw [List.length_append, List.length_singleton]; rfl
  refine ⟨by omega, by rw [a3]; omega, ?_⟩
  unfold ilFold
  rw [List.foldl_append, List.foldl_cons, List.foldl_nil]
  unfold ilFold at h3
  rw [← h3]
  rfl
theorem rules_Indent_1 : True := by
  k_with "m call builtin:len" => ((k_here; (with_reducible show wpAny _ _ (call (Value.builtin "len") [Value.ref _]) _ _ _); k_dflt (refine' tup_len ?z76k1 ?z76k2 ?z76k3 ?z76k4 ?_; (case z76k1 => k_asm); (case z76k2 => k_mem); (case z76k3 => with_reducible assumption); (case z76k4 => assumption)); walk_say "TUPLE LEN"))
  k_with "m subscriptTail" => ((k_here; (with_reducible show wpAny _ _ (subscriptTail _ _ (Value.ref _) (Value.int _ _)) _ _ _); k_dflt (refine' tup_item ?z77k1 ?z77k2 ?z77k3 ?z77k4 ?z77k5 ?z77k6 ?_ ?z77k7; (case z77k1 => k_asm); (case z77k2 => k_mem); (case z77k3 => with_reducible assumption); (case z77k4 => omega); (case z77k5 => omega); (case z77k6 => assumption); (case z77k7 => with_unfolding_all rfl)); intro zt9; walk_say "TUPLE ITEM"))
  exact trivial
set_option maxHeartbeats 8000000 in
theorem c_indent (w : World) (l : LeadAt) (cs : List Int) (size : Int) (t : Tok) (hi : IntsAre l.cvs cs) (hcs : CountsOk cs) (hsz : 1 ≤ size ∧ size ≤ 343) (hnt : 0 ≤ l.nt ∧ l.nt ≤ 400) (rest : Led) :
    Ctr 2 w 94 [.ref l.x, .int size t] ((l.tn, tupObj [.ref l.tc, .int l.b l.tb]) :: (l.tc, tupObj l.cvs) :: (l.x, instObj 125 l.dx) :: (l.dx, leadDict w l) :: rest) (fun v nw => nw = (l.tn, tupObj [.ref l.tc, .int l.b l.tb]) :: (l.tc, tupObj l.cvs) :: (l.x, instObj 125 l.dx) :: (l.dx, leadDict w l) :: rest ∧ ∃ t', v = .int (l.b + size * (ilF cs size + l.nt)) t') := by
  unfold Ctr
  k_fill
  intro mean mg mb dp un gd cn cs' a ccd cl outer A₀ base h₀ L m s Q E B F X N T hk hd hu hret
  obtain ⟨x, dx, tn, tc, cvs, raw, sb, k1, k2, k3, k4, k5, nn, tnn, nt, tnt, b, tb⟩ := l
  dsimp only at hi hnt N hret ⊢
  refine wpAny_call ?_
  walk_at "mine enter"
  have hl9 := hcs.1
  iterate 18 walk1
  walk_at "mine for"
  iterate 15 walk1
  k_with "state" => first | exact il_start _ _ | exact il_turn (by assumption) (by assumption) (by assumption) (by assumption) (by assumption)
  k_state (fun pre il => 0 ≤ il ∧ il ≤ 160000 * (pre.length : Int) ∧ il = ilFold cs size pre) "il"
  · have hd9 : 0 ≤ kN.fdiv size ∧ kN.fdiv size ≤ 400 := fdiv_le (by omega) (by omega) (by omega)
    have hc9 := hcs.2 kN.toNat
    k_steps
  k_steps
  with_reducible rename _ = ilFold _ _ _ => he9
  subst he9
  exact hret _ _ _ _ ⟨rfl, _, rfl⟩ (by with_reducible assumption) (by walk_at "mine news")

end
section
/-- what a turn of a range loop with an else may leave behind -/
noncomputable def ElsePost (h₀ : Heap) (L : Addr) (I : Addr) (oI : Obj) (J : (Str → Option Value) → Led → Prop) (s₁ : Shared) (Q : Flow → Shared → Prop) (f : Flow) (s₂ : Shared) : Prop :=
  match f with
  | .ret v => Q (.ret v) s₂
  | .brk => Q .next s₂
  | _ => ∃ h' tk m' news', s₂ = { s₁ with heap := h', toks := tk } ∧ Fr h₀ L h' m' ∧ News h₀ L h' (news' ++ [(I, oI)]) ∧ (∀ p ∈ news', p.1 ≠ I) ∧ J m' news'
theorem rangeIter_obj {h : Heap} {I : Addr} {a b c : Int} (H : IsRangeIter h I a b c) : ∃ oI, h.get? I = some oI ∧ ∀ h' : Heap, h'.get? I = some oI → IsRangeIter h' I a b c := ⟨_, H, fun _ e => e⟩
section
variable {prog : Program} {w : World} {A : Around} {E : Value → Shared → Prop} {s : Shared} {env : Env} {h₀ : Heap} {x : Str} {px : Pos} {body orelse : List Stmt} {Q : Flow → Shared → Prop}
theorem for_else {I : Addr} {n : Nat} {m₀ : Str → Option Value} {news : Led} (J : Nat → (Str → Option Value) → Led → Prop) (hh : A.handled = none) (hx : env.kindOf x = some .local)
    (hp : (env.scope.kind == .class || (env.scope.kind == .module && env.locals != env.globals)) = false) (hE : PassesOwn (model prog w) A env E)
    (hI : IsRangeIter s.heap I 0 n 1) (hI0 : h₀.get? I = none) (hIL : env.locals ≠ I) (F : Fr h₀ env.locals s.heap m₀) (N : News h₀ env.locals s.heap news) (hoff : ∀ p ∈ news, p.1 ≠ I) (hj : J 0 m₀ news)
    (turn : ∀ i t m₁ news₁ oI h tk, i < n → J i m₁ news₁ → (∀ p ∈ news₁, p.1 ≠ I) → Fr h₀ env.locals h (fun y => if y = x then some (.int (i : Int) t) else m₁ y) → News h₀ env.locals h (news₁ ++ [(I, oI)]) →
      wpAny (model prog w) A (execs body env) (ElsePost h₀ env.locals I oI (J (i + 1)) { s with heap := h, toks := tk } Q) E { s with heap := h, toks := tk })
    (done : ∀ m₁ news₁ h tk, J n m₁ news₁ → Fr h₀ env.locals h m₁ → News h₀ env.locals h news₁ → wpAny (model prog w) A (execs orelse env) Q E { s with heap := h, toks := tk }) :
    codeAny (model prog w) A (.forLoop (.Name x px) (.ref I) body orelse env) (fun r s' => match r with | .ok f => Q f s' | .error e => cameBackBy (model prog w) A env E e s') s := by
  have W := Walks.range (prog := prog) (w := w) hh I 0 1 n
  refine codeAny_forLoop (fun k s' => ∃ h tk m₁ news₁ i, s' = { s with heap := h, toks := tk } ∧ IsRangeIter h I (0 + ((i : Nat) : Int) * 1) ((n : Int) - ((i : Nat) : Int)) 1 ∧ Fr h₀ env.locals h m₁ ∧ News h₀ env.locals h news₁ ∧ (∀ p ∈ news₁, p.1 ≠ I) ∧ J i m₁ news₁ ∧ i ≤ n ∧ k = n + 1 - i) ?_ (n + 1)
    ⟨s.heap, s.toks, m₀, news, 0, rfl, by simpa using hI, F, N, hoff, hj, Nat.zero_le _, rfl⟩
  rintro k s' ⟨h, tk, m₁, news₁, i, rfl, hst, F₁, N₁, off₁, hJ, hi, rfl⟩
  have next : ∀ g : Heap, (∀ b o, b ∉ [I] → h.get? b = some o → g.get? b = some o) → Fr h₀ env.locals g m₁ ∧ News h₀ env.locals g news₁ := fun g hk =>
    ⟨⟨F₁.ns.at' fun o e => hk _ o (by simpa using hIL) e, fun b o e => hk b o (fun hb => by rw [List.mem_singleton.mp hb, hI0] at e; cases e) (F₁.keep b o e), F₁.above⟩,
      fun p hp => ⟨hk _ _ (by simpa using off₁ p hp) (N₁ p hp).1, (N₁ p hp).2⟩⟩
  by_cases hlt : i < n
  · refine W.item i _ _ _ hlt hst fun v h₁ tk₁ hv hst₁ hk₁ => ?_
    obtain ⟨t, rfl⟩ := hv
    obtain ⟨F₂, N₂⟩ := next h₁ hk₁
    refine wpAny_assign_Name (wpAny_storeName_local hx F₂.ns (fun h₂ hn₂ hs₂ => ?_) hp)
    have F₃ := F₂.set hn₂ hs₂
    have N₃ := N₂.set hs₂
    have e1 : (0 : Int) + (i : Int) * 1 = (i : Int) := by omega
    rw [e1] at F₃
    obtain ⟨oI, hoI, hback⟩ := rangeIter_obj hst₁
    have hI₂ := (hs₂.2 I (Ne.symm hIL)).trans hoI
    have N₄ : News h₀ env.locals h₂ (news₁ ++ [(I, oI)]) := fun p hp => (List.mem_append.mp hp).elim (N₃ p) fun hp => by
      rw [List.mem_singleton.mp hp]
      exact ⟨hI₂, Ne.symm hIL, hI0⟩
    refine wpAny_passesOwn hE (wpAny_mono (turn i t m₁ news₁ oI h₂ _ hlt hJ off₁ F₃ N₄) (fun f s₃ h₃ => ?_) fun _ _ e => e)
    have fin : (∃ h' tk' m' news', s₃ = { s with heap := h', toks := tk' } ∧ Fr h₀ env.locals h' m' ∧ News h₀ env.locals h' (news' ++ [(I, oI)]) ∧ (∀ p ∈ news', p.1 ≠ I) ∧ J (i + 1) m' news') →
        ∃ k', k' < n + 1 - i ∧ ∃ h tk m₁ news₁ i, s₃ = { s with heap := h, toks := tk } ∧ IsRangeIter h I (0 + ((i : Nat) : Int) * 1) ((n : Int) - ((i : Nat) : Int)) 1 ∧ Fr h₀ env.locals h m₁ ∧ News h₀ env.locals h news₁ ∧ (∀ p ∈ news₁, p.1 ≠ I) ∧ J i m₁ news₁ ∧ i ≤ n ∧ k' = n + 1 - i := by
      rintro ⟨h', tk', m', news', e, F', N', off', hJ'⟩
      exact ⟨n + 1 - (i + 1), by omega, h', tk', m', news', i + 1, e, hback _ (N' _ (List.mem_append.mpr (.inr (.head _)))).1, F', fun p hp => N' p (List.mem_append.mpr (.inl hp)), off', hJ', hlt, rfl⟩
    cases f with
    | ret v => exact h₃
    | brk => exact h₃
    | next => exact fin h₃
    | cont => exact fin h₃
  · have hin : i = n := by omega
    subst hin
    refine W.done _ _ _ hst fun h₁ tk₁ hk₁ => ?_
    obtain ⟨F₂, N₂⟩ := next h₁ hk₁
    exact wpAny_passesOwn hE (done m₁ news₁ h₁ tk₁ hJ F₂ N₂)
theorem For_else {iter : Expr} {pos : Pos}
    (h : wpAny (model prog w) A (eval iter env) (fun xv s₁ => wpAny (model prog w) A (pyIter xv) (fun it s₂ => codeAny (model prog w) A (.forLoop (.Name x px) it body orelse env) (fun r s' => match r with | .ok f => Q f s' | .error e => cameBackBy (model prog w) A env E e s') s₂) E s₁) E s)
    (hs : ∀ x, foldedSetIterable iter env x = pure x := by intro _; rfl) :
    wpAny (model prog w) A (exec (.For (.Name x px) iter body orelse pos) env) Q E s := wpAny_For h hs
theorem for_range_else {r : Addr} {n : Nat} {t₀ u₀ v₀ : Tok} {m₀ : Str → Option Value} {news : Led} (J : Nat → (Str → Option Value) → Led → Prop) (hh : A.handled = none) (hx : env.kindOf x = some .local)
    (hp : (env.scope.kind == .class || (env.scope.kind == .module && env.locals != env.globals)) = false) (hE : PassesOwn (model prog w) A env E)
    (hr : IsRange s.heap r 0 n 1 t₀ u₀ v₀) (hsm : Builtin.Range.small 0 n 1 = true) (hsz : Builtin.Range.rangeSize 0 n 1 = n) (F : Fr h₀ env.locals s.heap m₀) (N : News h₀ env.locals s.heap news) (hj : J 0 m₀ news)
    (turn : ∀ I i t m₁ news₁ oI h tk, i < n → J i m₁ news₁ → (∀ p ∈ news₁, p.1 ≠ I) → Fr h₀ env.locals h (fun y => if y = x then some (.int (i : Int) t) else m₁ y) → News h₀ env.locals h (news₁ ++ [(I, oI)]) →
      wpAny (model prog w) A (execs body env) (ElsePost h₀ env.locals I oI (J (i + 1)) { s with heap := h, toks := tk } Q) E { s with heap := h, toks := tk })
    (done : ∀ m₁ news₁ h tk, J n m₁ news₁ → Fr h₀ env.locals h m₁ → News h₀ env.locals h news₁ → wpAny (model prog w) A (execs orelse env) Q E { s with heap := h, toks := tk }) :
    wpAny (model prog w) A (pyIter (.ref r)) (fun it s₂ => codeAny (model prog w) A (.forLoop (.Name x px) it body orelse env) (fun r s' => match r with | .ok f => Q f s' | .error e => cameBackBy (model prog w) A env E e s') s₂) E s := by
  refine wpAny_pyIter_range hr hsm ?_
  refine for_else (s := { s with heap := s.heap.push _ }) J hh hx hp hE ?_ (next_is_new F) ?_ (F.push _) (fun p hp => ⟨Heap.get?_push_of_some _ (N p hp).1, (N p hp).2⟩) ?_ hj (fun i t m₁ news₁ oI h tk => turn _ i t m₁ news₁ oI h tk) done
  · show IsRangeIter _ _ _ _ _
    rw [hsz]
    exact Heap.get?_push_size _ rfl
  · exact Nat.ne_of_lt F.ns.lt
  · exact fun p hp e => absurd (Heap.lt_size (N p hp).1) (e ▸ Nat.lt_irrefl _)
end

end
section
structure PfC where
  nvs : List Value
  xs : List Str
  nn : Nat
  f : Int
  tf : Nat
noncomputable def pfLed (nD : Addr) (rest : Led) (c : PfC) : Led := (nD, listOf c.nvs.toArray c.nn) :: rest
noncomputable def pfPs (c : PfC) : List (Str × Value) := [(Str.ofString "flags", .int c.f c.tf)]
noncomputable def PfJ (nD : Addr) (rest : Led) (x : Str) (m₀ : Str → Option Value) (P : PfC → Prop) (m : Str → Option Value) (nx : Led) : Prop := KstS (pfLed nD rest) pfPs (fun c => StrsAre c.nvs c.xs) x [Str.ofString "flag"] m₀ (fun _ c => P c) [] m nx
section
variable {prog : Program} {w : World} {A : Around} {E : Value → Shared → Prop} {s : Shared} {env : Env} {h₀ : Heap} {x : Str} {px : Pos} {body orelse : List Stmt} {Q : Flow → Shared → Prop}
theorem pf_loop {r : Addr} {n : Nat} {t₀ u₀ v₀ : Tok} {m₀ : Str → Option Value} {nD : Addr} {rest : Led} {nn : Nat} {f0 : Int} {tf : Nat} (P : Nat → PfC → Prop) (hh : A.handled = none) (hx : env.kindOf x = some .local)
    (hp : (env.scope.kind == .class || (env.scope.kind == .module && env.locals != env.globals)) = false) (hE : PassesOwn (model prog w) A env E)
    (hr : IsRange s.heap r 0 n 1 t₀ u₀ v₀) (hsm : Builtin.Range.small 0 n 1 = true) (hsz : Builtin.Range.rangeSize 0 n 1 = n) (F : Fr h₀ env.locals s.heap m₀) (N : News h₀ env.locals s.heap ((nD, listOf ([] : List Value).toArray nn) :: rest))
    (hf : m₀ (Str.ofString "flags") = some (.int f0 tf)) (hj : P 0 ⟨[], [], nn, f0, tf⟩)
    (turn : ∀ (c : PfC) I (i : Nat) t (u : Str → Option Value) oI h tk, i < n → P i c → StrsAre c.nvs c.xs → (∀ p ∈ pfLed nD rest c, p.1 ≠ I) → Fr h₀ env.locals h (fun y => if y = x then some (.int (i : Int) t) else kstB (fun z => if [Str.ofString "flag"].contains z then u z else m₀ z) (pfPs c) y) → News h₀ env.locals h (pfLed nD rest c ++ [(I, oI)]) →
      wpAny (model prog w) A (execs body env) (ElsePost h₀ env.locals I oI (PfJ nD rest x m₀ (P (i + 1))) { s with heap := h, toks := tk } Q) E { s with heap := h, toks := tk })
    (done : ∀ (c : PfC) (u : Str → Option Value) h tk, P n c → StrsAre c.nvs c.xs → Fr h₀ env.locals h (fun y => if y = x then u y else kstB (fun z => if [Str.ofString "flag"].contains z then u z else m₀ z) (pfPs c) y) → News h₀ env.locals h (pfLed nD rest c) → wpAny (model prog w) A (execs orelse env) Q E { s with heap := h, toks := tk }) :
    wpAny (model prog w) A (pyIter (.ref r)) (fun it s₂ => codeAny (model prog w) A (.forLoop (.Name x px) it body orelse env) (fun r s' => match r with | .ok f => Q f s' | .error e => cameBackBy (model prog w) A env E e s') s₂) E s := by
  refine for_range_else (fun i m nx => PfJ nD rest x m₀ (P i) m nx) hh hx hp hE hr hsm hsz F N ⟨⟨[], [], nn, f0, tf⟩, rfl, .nil, ?_, fun _ _ _ _ => rfl, hj⟩ ?_ ?_
  · intro p hp
    rcases List.mem_singleton.mp hp with rfl
    exact hf
  · rintro I i t m₁ nx oI h tk hi ⟨c, rfl, hf', h1, h2, hp'⟩ hoff F₁ N₁
    exact turn c I i t m₁ oI h tk hi hp' hf' hoff (kst_fr h1 h2 F₁) N₁
  · rintro m₁ nx h tk ⟨c, rfl, hf', h1, h2, hp'⟩ F₁ N₁
    exact done c m₁ h tk hp' hf' (kst_frOut h1 h2 F₁) N₁
theorem pf_end {L I nD : Addr} {oI : Obj} {m₀ m' : Str → Option Value} {rest : Led} {P : PfC → Prop} {s₁ : Shared} {h' : Heap} {tk : Nat} (c : PfC) (F : Fr h₀ L h' m') (N : News h₀ L h' (pfLed nD rest c ++ [(I, oI)])) (off : ∀ p ∈ pfLed nD rest c, p.1 ≠ I)
    (hf : StrsAre c.nvs c.xs) (h1 : m' (Str.ofString "flags") = some (.int c.f c.tf)) (hr : ∀ z, z ≠ x → z ≠ Str.ofString "flags" → z ≠ Str.ofString "flag" → m' z = m₀ z) (hp : P c) : ElsePost h₀ L I oI (PfJ nD rest x m₀ P) s₁ Q .next { s₁ with heap := h', toks := tk } := by
  refine ⟨h', tk, m', pfLed nD rest c, rfl, F, N, off, c, rfl, hf, ?_, ?_, hp⟩
  · intro p hp
    rcases List.mem_singleton.mp hp with rfl
    exact h1
  · intro z z0 hz hc
    have z1 := hz _ (.head _)
    have z2 : z ≠ Str.ofString "flag" := by
      intro e
      rw [e] at hc
      simp at hc
    exact hr z z0 z1 z2
end
noncomputable def FLAGS : List (Int × Str) := [(1, Str.ofString "OPTIMIZED"), (2, Str.ofString "NEWLOCALS"), (4, Str.ofString "VARARGS"), (8, Str.ofString "VARKEYWORDS"), (16, Str.ofString "NESTED"), (32, Str.ofString "GENERATOR"), (64, Str.ofString "NOFREE"), (128, Str.ofString "COROUTINE"), (256, Str.ofString "ITERABLE_COROUTINE"), (512, Str.ofString "ASYNC_GENERATOR")]
noncomputable def tabStr : List (Int × Str) → Int → Str → Str
  | [], _, d => d
  | p :: r, k, d => if k = p.1 then p.2 else tabStr r k d
theorem each_strs {h : Heap} {k : Int} {P : Value → Prop} {els : Prop} {dflt : Str} : ∀ (tab : List (Int × Str)), (∀ t, P (.str (tabStr tab k dflt) t)) → ((∀ t, P (.str dflt t)) → els) → KTD.Each h k P els (tab.map fun p => (p.1, KTD.Dat.flat (.str p.2)))
  | [], H, e => e H
  | p :: r, H, e => by
    show if decide (k = p.1) = true then KTD.Opened h P (KTD.Dat.flat (.str p.2)) else KTD.Each h k P els (r.map fun p => (p.1, KTD.Dat.flat (.str p.2)))
    by_cases q : k = p.1
    · rw [if_pos (by simp [q])]
      refine KTD.opened_str fun t => ?_
      have := H t
      unfold tabStr at this
      rw [if_pos q] at this
      exact this
    · rw [if_neg (by simp [q])]
      refine each_strs r (fun t => ?_) e
      have := H t
      unfold tabStr at this
      rw [if_neg q] at this
      exact this
noncomputable abbrev flagI (i : Nat) : Int := 1 * 2 ^ ((i : Int)).toNat
noncomputable def flagName (i : Nat) : Str := tabStr FLAGS (flagI i) (baseText "0x" 16 (flagI i))
noncomputable def pfGo : Nat → Nat → Int → List Str → List Str
  | 0, _, f, xs => xs ++ [baseText "0x" 16 f]
  | k + 1, i, f, xs => if Builtin.bitAnd f (flagI i) = 0 then pfGo k (i + 1) f xs else if Builtin.bitXor f (flagI i) = 0 then xs ++ [flagName i] else pfGo k (i + 1) (Builtin.bitXor f (flagI i)) (xs ++ [flagName i])
noncomputable def prettyL (f : Int) : List Str := pfGo 32 0 f []
theorem hex_size {i : Int} (h0 : 0 ≤ i) (h : i < 2 ^ 40) : (baseText "0x" 16 i).length ≤ 12 := by
  rw [baseText_nonneg h0]
  have h1 : i.natAbs < 16 ^ 10 := by
    have e : (16 : Nat) ^ 10 = 2 ^ 40 := by decide
    rw [e]; omega
  have h2 : (Nat.toDigits 16 i.natAbs).length ≤ 10 := toDigits_len_pow (by decide) (by decide) h1
  have h3 := ofString_ofList_length (Nat.toDigits 16 i.natAbs)
  rw [Str.length_append, Str.length_append, h3]
  have h4 : (Str.ofString "").length = 0 := by decide +kernel
  have h5 : (Str.ofString "0x").length = 2 := by decide +kernel
  omega
theorem size_of {x : Str} (h : x.length ≤ 12) : x.length ≤ sizeLine := by rw [sizeLine_eq]; omega
theorem flagI_nat (i : Nat) : flagI i = ((2 ^ i : Nat) : Int) := by
  show 1 * (2 : Int) ^ ((i : Int)).toNat = _
  rw [Int.toNat_natCast, Int.one_mul]
  simp
theorem flagI_lt {i : Nat} (h : i < 32) : 0 ≤ flagI i ∧ flagI i < 2 ^ 40 := by
  rw [flagI_nat]
  have : 2 ^ i < 2 ^ 40 := Nat.pow_lt_pow_right (by decide) (by omega)
  generalize 2 ^ i = z at this
  omega
theorem flag_hex {i : Nat} (h : i < 32) : (baseText "0x" 16 (1 * 2 ^ ((i : Int)).toNat)).length ≤ sizeLine := size_of (hex_size (flagI_lt h).1 (flagI_lt h).2)
theorem name_size {i : Nat} (h : i < 32) : (flagName i).length ≤ 18 := by
  have : ∀ (tab : List (Int × Str)) (k : Int) (d : Str), d.length ≤ 18 → (∀ p ∈ tab, p.2.length ≤ 18) → (tabStr tab k d).length ≤ 18 := by
    intro tab k d hd
    induction tab with
    | nil => intro _; exact hd
    | cons p r ih =>
      intro hp
      unfold tabStr
      split
      · exact hp p (.head _)
      · exact ih fun q hq => hp q (.tail _ hq)
  refine this FLAGS _ _ (Nat.le_trans (hex_size (flagI_lt h).1 (flagI_lt h).2) (by decide)) ?_
  decide +kernel
theorem bitAnd_nat {f : Int} (h0 : 0 ≤ f) (i : Nat) : Builtin.bitAnd f (flagI i) = ((f.toNat &&& 2 ^ i : Nat) : Int) := by
  rw [flagI_nat]
  show Spec.bitAnd f ((2 ^ i : Nat) : Int) = _
  unfold Spec.bitAnd
  have h1 : decide (0 ≤ f) = true := by simp [h0]
  generalize 2 ^ i = z
  have h2 : decide (0 ≤ (z : Int)) = true := by simp
  rw [h1, h2]
  simp
theorem and_pow (a i : Nat) : a &&& 2 ^ i = if a.testBit i then 2 ^ i else 0 := by
  apply Nat.eq_of_testBit_eq
  intro j
  rw [Nat.testBit_and, Nat.testBit_two_pow]
  by_cases e : i = j
  · subst e
    cases h : a.testBit i <;> simp
  · cases h : a.testBit i <;> simp [e, Nat.testBit_two_pow]
theorem xor_bound {f : Int} {i : Nat} (h0 : 0 ≤ f) (hlt : f < 2 ^ 40) (hne : Builtin.bitAnd f (flagI i) ≠ 0) : 0 ≤ Builtin.bitXor f (flagI i) ∧ Builtin.bitXor f (flagI i) < 2 ^ 40 := by
  rw [bitXor_and]
  rw [bitAnd_nat h0] at hne ⊢
  have e : f.toNat &&& 2 ^ i = 2 ^ i := by
    have h1 := and_pow f.toNat i
    split at h1
    · exact h1
    · rw [h1] at hne; exact absurd rfl hne
  have h2 : f.toNat &&& 2 ^ i ≤ f.toNat := Nat.and_le_left
  rw [e] at h2 ⊢
  rw [flagI_nat]
  generalize 2 ^ i = z at h2
  omega

end
section
theorem fresh_Flags : True := by
  w_top off
  k_with_none
  k_with "m mine enter" => (k_dflt (refine' code_def ?z78k1 ?z78k2 ?z78k3 ?z78k4 ?z78k5 ?z78kA ?z78kF ?z78kK ?z78k6 ?z78k7 ?z78k8 ?z78k9 ?z78kB ?_ ?z78c2 ?z78c3 ?z78c4 ?z78c5; (case z78kA => exact rfl); (case z78kF => exact rfl); (case z78kK => assumption); (case z78k1 => k_asm); (case z78k2 => k_asm); (case z78k3 => k_asm); (case z78k4 => k_asm); (case z78k5 => k_asm); (case z78k6 => k_is); (case z78k7 => k_is); (case z78k8 => ktr_room); (case z78k9 => first | exact BindsTo.of_eq rfl | exact binds_K (by k_in) rfl (by k_is) rfl rfl rfl | (refine' kp_binds ?z78kx ?z78ke; (case z78kx => k_in); (case z78ke => exact fun _ => rfl))); (case z78c5 => decide); (case z78kB => exact locs rfl); (case z78c2 => exact rfl); (case z78c3 => exact rfl); (case z78c4 => exact rfl); k_whole; intro zg' zL' zh' zFG' zF' zN' zB' zX' zT'; (try dsimp only); (try k_lift zB'); (try k_fold)))
  k_with "m k_all" => ((refine Mine.allLt_ne ?_; first | assumption | exact And.right (by assumption) | exact And.right (And.right (by assumption)) | exact And.right (And.right (And.right (by assumption))) | exact And.right (And.right (And.right (And.right (by assumption)))) | exact And.right (And.right (And.right (And.right (And.right (by assumption)))))))
  k_with "m mine pull" => (first | (refine' Mine.Pull.head ?z80a; (case z80a => k_all)) | (refine' Mine.Pull.tail ?z80a ?z80b; (case z80a => k_ne); (case z80b => walk_at "mine pull")))
  k_with "m k_all" => ((refine Mine.all_append ?z81a ?z81b; (case z81a => k_all); (case z81b => k_all)))
  k_with "m getItem ref int" => ((k_here; (with_reducible show wpAny _ _ (getItem (Value.ref _) (Value.int (List.getD _ _ _) _)) _ _ _); k_dflt (refine' Mine.kinds_get ?z82k1 ?z82k2 ?z82k3 ?z82k4 ?z82k5 ?_; (case z82k1 => k_asm); (case z82k2 => k_mem); (case z82k3 => with_reducible assumption); (case z82k4 => assumption); (case z82k5 => assumption)); intro zt9 zb9 zc9; walk_say "KINDS"))
  k_with "m mine for" => (((with_reducible rename Fr _ _ _ _ => zlF'); (with_unfolding_all refine' For_invVF zlF' ?z83k1 ?z83k2 ?_; (case z83k1 => exact rfl); (case z83k2 => exact rfl); k_whole)))
  k_with "m mine enterC" => (k_dflt (refine' code_defC ?z84k1 ?z84k2 ?z84k3 ?z84k4 ?z84k5 ?z84kA ?z84kF ?z84kK ?z84k6 ?z84k7 ?z84k8 ?z84k9 ?z84kB ?z84kD ?_ ?z84c2 ?z84c3 ?z84c4; (case z84kA => exact rfl); (case z84kF => exact rfl); (case z84kK => assumption); (case z84k1 => k_asm); (case z84k2 => k_asm); (case z84k3 => k_asm); (case z84k4 => k_asm); (case z84k5 => k_asm); (case z84k6 => k_is); (case z84k7 => k_is); (case z84k8 => ktr_room); (case z84k9 => first | exact BindsTo.of_eq rfl | exact binds_K (by k_in) rfl (by k_is) rfl rfl rfl | (refine' kp_binds ?z84kx ?z84ke; (case z84kx => k_in); (case z84ke => exact fun _ => rfl))); (case z84kB => exact rfl); (case z84kD => decide +kernel); (case z84c2 => exact rfl); (case z84c3 => exact rfl); (case z84c4 => exact rfl); k_whole; intro zg' zL' zh' ztk' zcells' zFG' zF' zN' zY' zB' zX' zT' zl1; (try k_lt zl1); k_cells zY'; (try simp only [List.cons_append, List.nil_append] at zN'); (try dsimp only); (try k_lift zB'); (try k_fold)))
  k_with "m mine news" => (((with_reducible rename News _ _ _ _ => znX9); with_reducible (first | exact znX9 | exact Mine.news_tl znX9 | exact Mine.news_tl (Mine.news_tl znX9) | exact Mine.news_tl (Mine.news_tl (Mine.news_tl znX9)) | exact Mine.news_tl (Mine.news_tl (Mine.news_tl (Mine.news_tl znX9))) | exact Mine.news_tl (Mine.news_tl (Mine.news_tl (Mine.news_tl (Mine.news_tl znX9)))) | exact Mine.news_tl (Mine.news_tl (Mine.news_tl (Mine.news_tl (Mine.news_tl (Mine.news_tl znX9))))))))
  k_with "m k_all" => (with_reducible assumption)
  exact trivial
/-- the word between the turns -/
noncomputable def PfP (f0 : Int) (i : Nat) (c : PfC) : Prop := (c.xs.length ≤ i ∧ 0 ≤ c.f ∧ c.f < 2 ^ 40) ∧ (∀ x ∈ c.xs, x.length ≤ 18) ∧ pfGo (32 - i) i c.f c.xs = prettyL f0
theorem PfP.start {f0 : Int} (h : 0 ≤ f0 ∧ f0 < 2 ^ 40) (nn tf : Nat) : PfP f0 0 ⟨[], [], nn, f0, tf⟩ := ⟨⟨Nat.le_refl _, h.1, h.2⟩, (fun _ hx => nomatch hx), rfl⟩
theorem pfGo_step {i : Nat} (hi : i < 32) (f : Int) (xs : List Str) : pfGo (32 - i) i f xs = if Builtin.bitAnd f (flagI i) = 0 then pfGo (32 - (i + 1)) (i + 1) f xs else if Builtin.bitXor f (flagI i) = 0 then xs ++ [flagName i] else pfGo (32 - (i + 1)) (i + 1) (Builtin.bitXor f (flagI i)) (xs ++ [flagName i]) := by
  have e : 32 - i = (32 - (i + 1)) + 1 := by omega
  rw [e]
  rfl
theorem PfP.skip {f0 : Int} {i : Nat} {c : PfC} (hi : i < 32) (h : PfP f0 i c) (h0 : Builtin.bitAnd c.f (flagI i) = 0) : PfP f0 (i + 1) c := by
  obtain ⟨⟨h1, h2, h3⟩, h4, h5⟩ := h
  refine ⟨⟨by omega, h2, h3⟩, h4, ?_⟩
  rw [pfGo_step hi, if_pos h0] at h5
  exact h5
theorem PfP.take {f0 : Int} {i : Nat} {c : PfC} (hi : i < 32) (h : PfP f0 i c) (h0 : Builtin.bitAnd c.f (flagI i) ≠ 0) (h1 : Builtin.bitXor c.f (flagI i) ≠ 0) (nvs : List Value) (nn tf : Nat) : PfP f0 (i + 1) ⟨nvs, c.xs ++ [flagName i], nn, Builtin.bitXor c.f (flagI i), tf⟩ := by
  obtain ⟨⟨a1, a2, a3⟩, h4, h5⟩ := h
  have hb := xor_bound a2 a3 h0
  refine ⟨⟨?_, hb.1, hb.2⟩, ?_, ?_⟩
  · show (c.xs ++ [flagName i]).length ≤ i + 1
    rw [List.length_append, List.length_singleton]; omega
  · intro x hx
    rcases List.mem_append.mp hx with hx | hx
    · exact h4 x hx
    · rw [List.mem_singleton.mp hx]; exact name_size hi
  · rw [pfGo_step hi, if_neg h0, if_neg h1] at h5
    exact h5
theorem PfP.last {f0 : Int} {i : Nat} {c : PfC} (hi : i < 32) (h : PfP f0 i c) (h0 : Builtin.bitAnd c.f (flagI i) ≠ 0) (h1 : Builtin.bitXor c.f (flagI i) = 0) : c.xs ++ [flagName i] = prettyL f0 := by
  have h5 := h.2.2
  rw [pfGo_step hi, if_neg h0, if_pos h1] at h5
  exact h5
theorem PfP.over {f0 : Int} {c : PfC} (h : PfP f0 32 c) : c.xs ++ [baseText "0x" 16 c.f] = prettyL f0 := h.2.2
theorem all_app1 {r : Led} {d I : Addr} {oI : Obj} (h1 : ∀ p ∈ r, p.1 < d) (hne : d ≠ I) : ∀ p ∈ r ++ [(I, oI)], p.1 ≠ d := all_append (fun p hp => Nat.ne_of_lt (h1 p hp)) (fun p hp => by rw [List.mem_singleton.mp hp]; exact fun e => hne e.symm)
theorem strs_snoc9 {x : Str} {t : Tok} : ∀ {vs : List Value} {xs : List Str}, StrsAre vs xs → StrsAre (vs ++ [.str x t]) (xs ++ [x])
  | _, _, .nil => .cons _ _ .nil
  | _, _, .cons y t' r => .cons y t' (strs_snoc9 r)
theorem strs_push {vs : List Value} {xs : List Str} (h : StrsAre vs xs) (x : Str) (t : Tok) : StrsAre (vs.toArray.push (.str x t)).toList (xs ++ [x]) := by
  rw [Array.toList_push]
  exact strs_snoc9 h
theorem names_sum {k : Nat} : ∀ {xs : List Str}, (∀ x ∈ xs, x.length ≤ k) → (xs.map (·.length)).sum ≤ xs.length * k
  | [], _ => Nat.zero_le _
  | x :: r, h => by
    have h1 := names_sum fun y hy => h y (.tail _ hy)
    have h2 := h x (.head _)
    rw [List.map_cons, List.sum_cons, List.length_cons, Nat.succ_mul]
    omega
theorem names_room {xs : List Str} (h : ∀ x ∈ xs, x.length ≤ 18) (hl : xs.length ≤ 32) {y : Str} (hy : y.length ≤ 18) : (((xs ++ [y]).map (·.length)).sum) + (xs ++ [y]).length * 64 ≤ 16777216 := by
  have h1 : ∀ x ∈ xs ++ [y], x.length ≤ 18 := fun x hx => (List.mem_append.mp hx).elim (h x) fun e => by rw [List.mem_singleton.mp e]; exact hy
  have h2 := names_sum h1
  rw [List.length_append, List.length_singleton] at *
  omega
theorem hex_18 {i : Int} (h0 : 0 ≤ i) (h : i < 2 ^ 40) : (baseText "0x" 16 i).length ≤ 18 := Nat.le_trans (hex_size h0 h) (by decide)
theorem not_flag {z : Str} (h : z ≠ Str.ofString "flag") : [Str.ofString "flag"].contains z = false := by simp [h]
theorem rules_Flags_1 : True := by
  k_with "m call builtin:str.join" => ((k_here; (with_reducible show wpAny _ _ (call (Value.builtin _) [Value.str _ _, Value.ref _]) _ _ _); (with_reducible rename News _ _ _ ((_, listOf _ _) :: _) => znJ); (with_unfolding_all refine join_listC (znJ.isList (.head _)) (strs_push (by assumption) _ _) (by decide +kernel) (names_room (by assumption) (by omega) (by assumption)) ?_); intro zt9 zk9; walk_say "JOIN"))
  k_with "m call builtin:hex" => ((k_here; (first | refine P.hex_of_int ?_ (flag_hex (by assumption)) | refine P.hex_of_int ?_ (size_of (hex_size (by assumption) (by assumption)))); walk_say "HEX"))
  k_with "m call builtin:dict.get" => ((k_here; (with_reducible show wpAny _ _ (call (Value.builtin "dict.get") [Value.ref 22, Value.int _ _, Value.str _ _]) _ _ _); (try kt_k); (with_unfolding_all refine KTD.get2_keyed (by with_reducible assumption) (by kt_keeps) (PyProof.V.Flat.str _ _) ?_); (with_unfolding_all refine each_strs FLAGS ?_ (fun zh9 => zh9)); intro zt9; walk_say "FLAG NAME"))
  k_with "m call builtin:list.append" => ((k_here; (with_reducible show wpAny _ _ (call (Value.builtin _) [Value.ref _, _]) _ _ _); k_dflt (refine' append_K ?z90k1 ?z90k2 ?z90k3 ?_ ?z90z; (case z90k1 => k_asm); (case z90k2 => k_asm); (case z90k3 => with_reducible (refine Upd.head ?_; assumption)); (case z90z => with_reducible assumption); k_whole); intro zh' zF' zN'; (try dsimp only [List.push_toArray] at zN'); (try k_sweep)))
  exact trivial
set_option maxHeartbeats 8000000 in
theorem c_flags (w : World) (f0 : Int) (t : Tok) (hf : 0 ≤ f0 ∧ f0 < 2 ^ 40) (rest : Led) :
    Ctr 2 w 29 [.int f0 t] rest (fun v nw => nw = rest ∧ ∃ t', v = .str (Txt.join (Str.ofString ", ") (prettyL f0)) t') := by
  unfold Ctr
  k_fill
  intro mean mg mb dp un gd cn cs a ccd cl outer A₀ base h₀ L m s Q E B F X N T hk hd hu hret
  refine wpAny_call ?_
  walk_at "mine enter"
  iterate 9 walk1
  with_unfolding_all refine' For_else ?_
  iterate 7 walk1
  with_reducible rename Fr _ _ _ _ => lF9
  with_reducible rename News _ _ _ _ => lN9
  with_unfolding_all refine' pf_loop (n := 32) (PfP f0) rfl rfl rfl (by passes_own) (by assumption) rfl rfl lF9 lN9 rfl (PfP.start hf _ _) ?_ ?_
  · intro c I i ti u oI h tk hi kP kStrs kOff kFr kNews
    obtain ⟨nvs, xs, nn, f, tf⟩ := c
    dsimp only [kstB, pfPs, pfLed] at kFr kNews kOff kStrs
    have kP0 := kP.1.1
    have kP1 := kP.1.2.1
    have kP2 := kP.1.2.2
    dsimp only at kP0 kP1 kP2
    have kP3 := kP.2.1
    have kP4 := name_size hi
    have kO1 := kOff _ (.head _)
    have kO2 : ∀ p ∈ rest, p.1 ≠ I := fun p hp => kOff p (.tail _ hp)
    have kSl := kStrs.len_eq
    with_reducible rename ∀ _ ∈ rest, _ < _ => l1
    have kSz : nvs.toArray.size ≤ sizeLine := by rw [List.size_toArray, kSl, sizeLine_eq]; omega
    have kU := all_app1 (oI := oI) l1 kO1
    simp only [List.cons_append] at kNews
    try k_fold
    k_steps
    · with_reducible rename Fr _ _ _ _ => lF8
      with_reducible rename News _ _ _ _ => lN8
      simp only [List.push_toArray] at lN8
      exact pf_end ⟨nvs ++ [_], xs ++ [flagName i], nn + 1, Builtin.bitXor f (flagI i), _⟩ lF8 lN8 (fun p hp => (List.mem_cons.mp hp).elim (fun e => e ▸ kO1) (kO2 p)) (strs_snoc9 kStrs) (by with_unfolding_all rfl) (by intro z z0 z1 z2; simp only [z0, z1, z2, not_flag z2, if_false, Bool.false_eq_true]) (PfP.take hi kP (by assumption) (by assumption) _ _ _)
    · dsimp only [ElsePost]
      k_steps
      have kE := PfP.last hi kP (by assumption) (by assumption)
      with_reducible rename Fr h₀ L _ _ => lF5
      with_reducible rename News h₀ L _ _ => lN5
      exact hret _ _ _ _ ⟨rfl, _, congrArg (fun z => Value.str (Txt.join (Str.ofString ", ") z) _) kE⟩ lF5 (news_left (news_tl lN5))
    · with_reducible rename Fr _ _ _ _ => lF8
      with_reducible rename News _ _ _ _ => lN8
      exact pf_end ⟨nvs, xs, nn, f, _⟩ lF8 lN8 kOff kStrs (by with_unfolding_all rfl) (by intro z z0 z1 z2; simp only [z0, z1, z2, not_flag z2, if_false, Bool.false_eq_true]) (PfP.skip hi kP (by assumption))
  · intro c u h tk kP kStrs kFr kNews
    obtain ⟨nvs, xs, nn, f, tf⟩ := c
    dsimp only [kstB, pfPs, pfLed] at kFr kNews kStrs
    have kP0 := kP.1.1
    have kP1 := kP.1.2.1
    have kP2 := kP.1.2.2
    have kP3 := kP.2.1
    have kP4 := hex_18 kP1 kP2
    dsimp only at kP0 kP1 kP2 kP3 kP4
    have kSl := kStrs.len_eq
    with_reducible rename ∀ _ ∈ rest, _ < _ => l1
    have kSz : nvs.toArray.size ≤ sizeLine := by rw [List.size_toArray, kSl, sizeLine_eq]; omega
    have kU := fun p (hp : p ∈ rest) => Nat.ne_of_lt (l1 p hp)
    try k_fold
    k_steps
    have kE := PfP.over kP
    with_reducible rename Fr h₀ L _ _ => lF5
    with_reducible rename News h₀ L _ _ => lN5
    exact hret _ _ _ _ ⟨rfl, _, congrArg (fun z => Value.str (Txt.join (Str.ofString ", ") z) _) kE⟩ lF5 (news_tl lN5)

end
section
section
variable {prog : Program} {w : World} {A : Around} {E : Value → Shared → Prop} {s : Shared} {env : Env} {h₀ : Heap} {x : Str} {body : List Stmt} {Q : Flow → Shared → Prop}
/-- a loop over a list of texts; the ledger stays, the frame may change; it may be left early -/
theorem loop_texts {l : Addr} {vs : List Value} {ns : List Str} {nn : Nat} {m₀ : Str → Option Value} {news : Led} (J : Nat → (Str → Option Value) → Prop)
    (hh : A.handled = none) (hl : (l, listOf vs.toArray nn) ∈ news) (hi : StrsAre vs ns) (F : Fr h₀ env.locals s.heap m₀) (N : News h₀ env.locals s.heap news) (hj : J 0 m₀)
    (turn : ∀ i n t m₁ h tk own, ns[i]? = some n → J i m₁ → (∀ q ∈ own, ∀ p ∈ news, p.1 ≠ q.1) → Fr h₀ env.locals h (fun y => if y = x then some (.str n t) else m₁ y) → News h₀ env.locals h (news ++ own) →
      wpAny (model prog w) A (execs body env) (TurnPost h₀ env.locals (fun m' nx => nx = news ∧ J (i + 1) m') own { s with heap := h, toks := tk } Q) E { s with heap := h, toks := tk })
    (done : ∀ m₁ h tk, J ns.length m₁ → Fr h₀ env.locals h m₁ → News h₀ env.locals h news → Q .next { s with heap := h, toks := tk }) :
    wpAny (model prog w) A (pyIter (.ref l)) (fun it s₂ => LoopAtV prog w A h₀ env x body Q E it s₂) E s := by
  have hol : s.heap.get? l = some (listOf vs.toArray nn) := (N _ hl).1
  have hls : s.heap.IsList l vs.toArray := ⟨_, hol, rfl, nn, rfl⟩
  have hne : l ≠ s.heap.objs.size := Nat.ne_of_lt (Heap.lt_size hol)
  refine wpAny_pyIter_list hls ?_
  have W := Walks.list (prog := prog) (w := w) hh s.heap.objs.size l hne vs.toArray
  have hlen : vs.toArray.size = ns.length := by simp [hi.length]
  rw [hlen] at W
  refine ⟨_, _, _, ns.length, _, _, m₀, news, (fun i m nx => nx = news ∧ J i m), rfl, W, ?_, ?_, ?_, ⟨⟨_, Heap.get?_push_size _ rfl, rfl, rfl⟩, hls.at fun o e => Heap.get?_push_of_some _ e⟩, F.push _, (fun p hp => ⟨Heap.get?_push_of_some _ (N p hp).1, (N p hp).2⟩), ⟨rfl, hj⟩, ?_, ?_⟩
  · intro hm
    rcases List.mem_cons.mp hm with e | hm
    · exact absurd F.ns.lt (e ▸ Nat.lt_irrefl _)
    · exact (N _ hl).2.1 ((List.mem_singleton.mp hm).symm)
  · intro b hb
    rw [List.mem_singleton.mp hb]
    exact next_is_new F
  · intro p hp hI
    exact absurd (Heap.lt_size (N p hp).1) ((List.mem_singleton.mp hI) ▸ Nat.lt_irrefl _)
  · rintro i v m₁ news₁ s₁ own ⟨hh', tk', rfl⟩ hin hP ⟨rfl, hJ⟩ hoff hown hget hfp _ F₁ N₁
    have hsep : ∀ q ∈ own.filter (fun p => decide (p.1 = s.heap.objs.size)), ∀ p ∈ news₁, p.1 ≠ q.1 := by
      intro q hq p hp e
      have h1 : q.1 = s.heap.objs.size := by simpa using (List.mem_filter.mp hq).2
      exact absurd (Heap.lt_size (N p hp).1) (by rw [e, h1]; exact Nat.lt_irrefl _)
    have hlt' : i < ns.length := hin
    obtain ⟨t, hx⟩ := hi.get i ns[i] (by simp [hlt'])
    have hv : v = .str ns[i] t := by
      have hP' : vs[i]? = some v := by simpa using hP
      rw [hx] at hP'; exact (Option.some.inj hP').symm
    subst hv
    have N₂ : News h₀ env.locals hh' (news₁ ++ own.filter fun p => decide (p.1 = s.heap.objs.size)) := fun p hp => N₁ p ((List.mem_append.mp hp).elim (fun h => List.mem_append.mpr (.inr h)) fun h => List.mem_append.mpr (.inl ((List.mem_filter.mp h).1)))
    have hlo : hh'.get? l = some (listOf vs.toArray nn) := (N₁ _ (List.mem_append.mpr (.inr hl))).1
    refine wpAny_mono (turn i ns[i] t m₁ hh' tk' _ (by simp [hlt']) hJ hsep F₁ N₂) (fun f s₂ p => ?_) fun _ _ e => e
    have fin : (∃ h' tk'' m' news', s₂ = { s with heap := h', toks := tk'' } ∧ Fr h₀ env.locals h' m' ∧ News h₀ env.locals h' (news' ++ own.filter fun p => decide (p.1 = s.heap.objs.size)) ∧ (∀ q ∈ own.filter (fun p => decide (p.1 = s.heap.objs.size)), ∀ p ∈ news', p.1 ≠ q.1) ∧ news' = news₁ ∧ J (i + 1) m') →
        LoopStepU h₀ env.locals [s.heap.objs.size] own (fun m nx => nx = news₁ ∧ J (i + 1) m) { s with heap := hh', toks := tk' } .next s₂ := by
      rintro ⟨h', tk, m', nx, e, F', N', _, rfl, hm⟩
      refine ⟨rfl, h', tk, m', _, e, F', fun p hp => ?_, fun p hp => ?_, rfl, hm⟩
      · rcases List.mem_append.mp hp with h | h
        · by_cases hI : p.1 = s.heap.objs.size
          · exact N' p (List.mem_append.mpr (.inr (List.mem_filter.mpr ⟨h, by simpa using hI⟩)))
          · have h1 : p.1 = l := by
              rcases List.mem_cons.mp (hown p h) with h2 | h2
              · exact absurd h2 hI
              · exact List.mem_singleton.mp h2
            have h2 : hh'.get? p.1 = some p.2 := hget p h
            rw [h1, hlo] at h2
            have h3 : p = (l, listOf vs.toArray nn) := Prod.ext h1 (Option.some.inj h2).symm
            rw [h3]
            exact N' _ (List.mem_append.mpr (.inl hl))
        · exact N' p (List.mem_append.mpr (.inl h))
      · intro hI
        exact absurd (Heap.lt_size (N p hp).1) (by rw [List.mem_singleton.mp hI]; exact Nat.lt_irrefl _)
    cases f with
    | ret v => exact .ret p
    | brk => exact .brk p
    | next => exact .next (fin p)
    | cont => exact .cont (fin p)
  · rintro h' tk m' news' F' N' _ ⟨rfl, hJ⟩
    exact done m' h' tk hJ F' N'
end

end
section
open PySem.Builtin in
/-- find with a start and a stop -/
noncomputable def find4 (x y : Str) (i j : Int) : Int := match Builtin.Str.occurrences x y (fromIndex x.length i) (min (fromIndex x.length j) x.length) 1 with | k :: _ => (k : Int) | [] => -1
theorem gives_find4 (x y : Str) (i j : Int) (t u v z : Tok) : Gives (Builtin.«str.find» ⟨[.str x t, .str y u, .int i v, .int j z], []⟩) (.int (find4 x y i j)) := by
  unfold find4
  show Gives (match Builtin.Str.occurrences x y (fromIndex x.length i) (min (fromIndex x.length j) x.length) 1 with | k :: _ => retInt k | [] => (do rule "str.find.not-found"; retInt (-1))) _
  cases Builtin.Str.occurrences x y (fromIndex x.length i) (min (fromIndex x.length j) x.length) 1 with
  | nil => exact .rule (.of_eq rfl)
  | cons k _ => exact .of_eq rfl
theorem call_find4 {prog : Program} {w : World} {A : Around} {E : Value → Shared → Prop} {s : Shared} {x y : Str} {t u v z : Tok} {i j : Int} {Q : Value → Shared → Prop} (hq : Q (.int (find4 x y i j) s.toks) { s with toks := s.toks + 1 }) : wpAny (model prog w) A (call (.builtin "str.find") [.str x t, .str y u, .int i v, .int j z]) Q E s :=
  call_gives F.slot_str_find (typeIs_str _ _ _) F.entry_str_find (F.args_str_find_4 _ _ _ _) (gives_find4 x y i j t u v z) hq
noncomputable def ellGo (g : Str) (e : Int) : List Str → Int → Bool
  | [], _ => true
  | y :: r, st => if find4 g y st e < 0 then false else ellGo g e r (find4 g y st e + y.length)

end
section
section
variable {prog : Program} {w : World} {A : Around} {E : Value → Shared → Prop} {s : Shared} {h₀ : Heap} {L l : Addr} {news : Led} {vs : List Value} {ws : List Str} {nn : Nat} {value slice : PySem.Expr} {u : Tok} {Q : Value → Shared → Prop}
theorem strs_first (N : News h₀ L s.heap news) (hm : (l, listOf vs.toArray nn) ∈ news) (hw : StrsAre vs ws) (h0 : ws[0]? = some Str.empty) (h : ∀ t', Q (.str Str.empty t') s)
    (hs : subscripted slice false (.ref l) (.int 0 u) = operate [.ref l, .int 0 u] (getItem (.ref l) (.int 0 u)) := by with_unfolding_all rfl) :
    wpAny (model prog w) A (subscriptTail value slice (.ref l) (.int 0 u)) Q E s := by
  obtain ⟨t', e⟩ := hw.get 0 _ h0
  have hl : s.heap.IsList l vs.toArray := ⟨_, (N _ hm).1, rfl, nn, rfl⟩
  exact tail_any hl.typeIs slot_list_getitem.lookup (wpAny_getItem_list hl (by decide) (by decide) (x := .str _ t') (by simpa using e) (h t')) hs
theorem strs_last (N : News h₀ L s.heap news) (hm : (l, listOf vs.toArray nn) ∈ news) (hw : StrsAre vs ws) (h0 : ws[ws.length - 1]? = some Str.empty) (hsz : ws.length ≤ 1000) (h : ∀ t', Q (.str Str.empty t') s)
    (hs : subscripted slice false (.ref l) (.int (-1) u) = operate [.ref l, .int (-1) u] (getItem (.ref l) (.int (-1) u)) := by with_unfolding_all rfl) :
    wpAny (model prog w) A (subscriptTail value slice (.ref l) (.int (-1) u)) Q E s := by
  obtain ⟨t', e⟩ := hw.get _ _ h0
  have h1 : ws.length - 1 < ws.length := by
    rcases Nat.lt_or_ge (ws.length - 1) ws.length with h | h
    · exact h
    · rw [List.getElem?_eq_none h] at h0; cases h0
  have hl : s.heap.IsList l vs.toArray := ⟨_, (N _ hm).1, rfl, nn, rfl⟩
  have hlen : vs.toArray.size = ws.length := by rw [List.size_toArray, hw.length]
  have hx : vs.toArray[((-1 : Int) + (vs.toArray.size : Nat)).toNat]? = some (.str Str.empty t') := by
    have e1 : ((-1 : Int) + (vs.toArray.size : Nat)).toNat = ws.length - 1 := by rw [hlen]; omega
    rw [e1]
    simpa using e
  exact tail_any hl.typeIs slot_list_getitem.lookup (wpAny_getItem_list_neg hl (by decide) (by rw [hlen]; omega) (by decide) hx (h t')) hs
theorem len_strs (N : News h₀ L s.heap news) (hm : (l, listOf vs.toArray nn) ∈ news) (hw : StrsAre vs ws) (hsz : ws.length ≤ 1000) (h : ∀ t', Q (.int (ws.length : Int) t') { s with toks := t' + 1 }) : wpAny (model prog w) A (call (.builtin "len") [.ref l]) Q E s :=
  kst_len N hm hw.length (by omega) (h _)
theorem split_as {m : Str → Option Value} {x y : Str} {t : Tok} {ps : List Str} (hF : Fr h₀ L s.heap m) (hN : News h₀ L s.heap news) (hy : (y.length == 0) = false) (hsp : Txt.split x y = ps) (hsz : x.length + 2 ≤ sizeLine)
    (h : ∀ D vs h' k, StrsAre vs ps → Fr h₀ L h' m → News h₀ L h' ((D, listOf vs.toArray 0) :: news) → (∀ p ∈ news, p.1 < D) → Q (.ref D) { s with heap := h', toks := k }) :
    wpAny (model prog w) A (call (.builtin "str.split") [.str x t, .str y u]) Q E s :=
  KSpl.split1 hF hN hy (fun D l h' k e a F N o => h D _ h' k (hsp ▸ e ▸ a) F N o) hsz
end

end
section
noncomputable def EllJ (x : Str) (m₀ : Str → Option Value) (g : Str) (e : Int) (ps : List Str) (i : Nat) (m : Str → Option Value) : Prop := ∃ st ts, m (Str.ofString "startpos") = some (.int st ts) ∧ (∀ z, z ≠ x → z ≠ Str.ofString "startpos" → m z = m₀ z) ∧ ellGo g e (ps.drop i) st = ellGo g e ps 0
theorem ellGo_at {g : Str} {e : Int} {ps : List Str} {i : Nat} {n : Str} (h : ps[i]? = some n) (st : Int) : ellGo g e (ps.drop i) st = if find4 g n st e < 0 then false else ellGo g e (ps.drop (i + 1)) (find4 g n st e + n.length) := by
  have hlt : i < ps.length := by
    rcases Nat.lt_or_ge i ps.length with h1 | h1
    · exact h1
    · rw [List.getElem?_eq_none h1] at h; cases h
  have e1 : ps.drop i = n :: ps.drop (i + 1) := by
    rw [List.drop_eq_getElem_cons hlt]
    rw [List.getElem?_eq_getElem hlt] at h
    rw [Option.some.inj h]
  rw [e1]
  rfl
section
variable {prog : Program} {w : World} {A : Around} {E : Value → Shared → Prop} {s : Shared} {env : Env} {h₀ : Heap} {x : Str} {body : List Stmt} {Q : Flow → Shared → Prop}
theorem ell_fr {L : Addr} {h : Heap} {m₀ m₁ : Str → Option Value} {st : Int} {ts : Tok} {f : Str → Option Value} (hs : m₁ (Str.ofString "startpos") = some (.int st ts)) (hz : ∀ z, z ≠ x → z ≠ Str.ofString "startpos" → m₁ z = m₀ z)
    (F : Fr h₀ L h (fun y => if y = x then f y else m₁ y)) : Fr h₀ L h (fun y => if y = x then f y else if y = Str.ofString "startpos" then some (.int st ts) else m₀ y) := by
  have e : (fun y => if y = x then f y else m₁ y) = fun y => if y = x then f y else if y = Str.ofString "startpos" then some (.int st ts) else m₀ y := by
    funext y
    by_cases h1 : y = x
    · rw [if_pos h1, if_pos h1]
    · rw [if_neg h1, if_neg h1]
      by_cases h2 : y = Str.ofString "startpos"
      · rw [if_pos h2, h2, hs]
      · rw [if_neg h2, hz y h1 h2]
  rw [← e]
  exact F
theorem ell_frOut {L : Addr} {h : Heap} {m₁ : Str → Option Value} (F : Fr h₀ L h m₁) : Fr h₀ L h (fun y => if y = x then m₁ y else m₁ y) := by
  have e : (fun y => if y = x then m₁ y else m₁ y) = m₁ := by funext y; split <;> rfl
  rw [e]
  exact F
theorem ell_loop {l : Addr} {vs : List Value} {ps : List Str} {nn : Nat} {m₀ : Str → Option Value} {news : Led} {t0 : Tok} (g : Str) (e : Int) (hh : A.handled = none) (hl : (l, listOf vs.toArray nn) ∈ news) (hi : StrsAre vs ps) (F : Fr h₀ env.locals s.heap m₀) (N : News h₀ env.locals s.heap news)
    (h0 : m₀ (Str.ofString "startpos") = some (.int 0 t0))
    (turn : ∀ i n st t ts h tk own, ps[i]? = some n → ellGo g e (ps.drop i) st = ellGo g e ps 0 → (∀ q ∈ own, ∀ p ∈ news, p.1 ≠ q.1) → Fr h₀ env.locals h (fun y => if y = x then some (.str n t) else if y = Str.ofString "startpos" then some (.int st ts) else m₀ y) → News h₀ env.locals h (news ++ own) →
      wpAny (model prog w) A (execs body env) (TurnPost h₀ env.locals (fun m' nx => nx = news ∧ EllJ x m₀ g e ps (i + 1) m') own { s with heap := h, toks := tk } Q) E { s with heap := h, toks := tk })
    (done : ∀ (u : Str → Option Value) st ts h tk, ellGo g e ps 0 = true → Fr h₀ env.locals h (fun y => if y = x then u y else if y = Str.ofString "startpos" then some (.int st ts) else m₀ y) → News h₀ env.locals h news → Q .next { s with heap := h, toks := tk }) :
    wpAny (model prog w) A (pyIter (.ref l)) (fun it s₂ => LoopAtV prog w A h₀ env x body Q E it s₂) E s := by
  refine loop_texts (fun i m => EllJ x m₀ g e ps i m) hh hl hi F N ⟨0, t0, h0, fun _ _ _ => rfl, rfl⟩ ?_ ?_
  · rintro i n t m₁ h tk own hn ⟨st, ts, hs, hz, hg⟩ hoff F₁ N₁
    exact turn i n st t ts h tk own hn hg hoff (ell_fr hs hz F₁) N₁
  · rintro m₁ h tk ⟨st, ts, hs, hz, hg⟩ F₁ N₁
    have e1 : ps.drop ps.length = [] := List.drop_length
    rw [e1] at hg
    exact done m₁ st ts h tk hg.symm (ell_fr hs hz (ell_frOut F₁)) N₁
theorem ell_end {L : Addr} {m₀ m' : Str → Option Value} {g : Str} {e : Int} {ps : List Str} {i : Nat} {n : Str} {st : Int} {ts : Tok} {news own : Led} {s₁ : Shared} {h' : Heap} {tk : Nat} (F : Fr h₀ L h' m') (N : News h₀ L h' (news ++ own)) (off : ∀ q ∈ own, ∀ p ∈ news, p.1 ≠ q.1) (hn : ps[i]? = some n) (hg : ellGo g e (ps.drop i) st = ellGo g e ps 0) (hf : ¬ find4 g n st e < 0)
    (h1 : m' (Str.ofString "startpos") = some (.int (find4 g n st e + n.length) ts)) (hz : ∀ z, z ≠ x → z ≠ Str.ofString "startpos" → m' z = m₀ z) : TurnPost h₀ L (fun m' nx => nx = news ∧ EllJ x m₀ g e ps (i + 1) m') own s₁ Q .next { s₁ with heap := h', toks := tk } := by
  refine ⟨h', tk, m', news, rfl, F, N, off, rfl, _, ts, h1, hz, ?_⟩
  rw [ellGo_at hn, if_neg hf] at hg
  exact hg
theorem ell_fail {g : Str} {e : Int} {ps : List Str} {i : Nat} {n : Str} {st : Int} (hn : ps[i]? = some n) (hg : ellGo g e (ps.drop i) st = ellGo g e ps 0) (hf : find4 g n st e < 0) : false = ellGo g e ps 0 := by
  rw [ellGo_at hn, if_pos hf] at hg
  exact hg
end

end
section
theorem fresh_Ell : True := by
  w_top off
  k_with_none
  k_with "m mine enter" => (k_dflt (refine' code_def ?z91k1 ?z91k2 ?z91k3 ?z91k4 ?z91k5 ?z91kA ?z91kF ?z91kK ?z91k6 ?z91k7 ?z91k8 ?z91k9 ?z91kB ?_ ?z91c2 ?z91c3 ?z91c4 ?z91c5; (case z91kA => exact rfl); (case z91kF => exact rfl); (case z91kK => assumption); (case z91k1 => k_asm); (case z91k2 => k_asm); (case z91k3 => k_asm); (case z91k4 => k_asm); (case z91k5 => k_asm); (case z91k6 => k_is); (case z91k7 => k_is); (case z91k8 => ktr_room); (case z91k9 => first | exact BindsTo.of_eq rfl | exact binds_K (by k_in) rfl (by k_is) rfl rfl rfl | (refine' kp_binds ?z91kx ?z91ke; (case z91kx => k_in); (case z91ke => exact fun _ => rfl))); (case z91c5 => decide); (case z91kB => exact locs rfl); (case z91c2 => exact rfl); (case z91c3 => exact rfl); (case z91c4 => exact rfl); k_whole; intro zg' zL' zh' zFG' zF' zN' zB' zX' zT'; (try dsimp only); (try k_lift zB'); (try k_fold)))
  k_with "m k_all" => ((refine Mine.allLt_ne ?_; first | assumption | exact And.right (by assumption) | exact And.right (And.right (by assumption)) | exact And.right (And.right (And.right (by assumption))) | exact And.right (And.right (And.right (And.right (by assumption)))) | exact And.right (And.right (And.right (And.right (And.right (by assumption)))))))
  k_with "m mine pull" => (first | (refine' Mine.Pull.head ?z93a; (case z93a => k_all)) | (refine' Mine.Pull.tail ?z93a ?z93b; (case z93a => k_ne); (case z93b => walk_at "mine pull")))
  k_with "m k_all" => ((refine Mine.all_append ?z94a ?z94b; (case z94a => k_all); (case z94b => k_all)))
  k_with "m getItem ref int" => ((k_here; (with_reducible show wpAny _ _ (getItem (Value.ref _) (Value.int (List.getD _ _ _) _)) _ _ _); k_dflt (refine' Mine.kinds_get ?z95k1 ?z95k2 ?z95k3 ?z95k4 ?z95k5 ?_; (case z95k1 => k_asm); (case z95k2 => k_mem); (case z95k3 => with_reducible assumption); (case z95k4 => assumption); (case z95k5 => assumption)); intro zt9 zb9 zc9; walk_say "KINDS"))
  k_with "m mine for" => (((with_reducible rename Fr _ _ _ _ => zlF'); (with_unfolding_all refine' For_invVF zlF' ?z96k1 ?z96k2 ?_; (case z96k1 => exact rfl); (case z96k2 => exact rfl); k_whole)))
  k_with "m mine enterC" => (k_dflt (refine' code_defC ?z97k1 ?z97k2 ?z97k3 ?z97k4 ?z97k5 ?z97kA ?z97kF ?z97kK ?z97k6 ?z97k7 ?z97k8 ?z97k9 ?z97kB ?z97kD ?_ ?z97c2 ?z97c3 ?z97c4; (case z97kA => exact rfl); (case z97kF => exact rfl); (case z97kK => assumption); (case z97k1 => k_asm); (case z97k2 => k_asm); (case z97k3 => k_asm); (case z97k4 => k_asm); (case z97k5 => k_asm); (case z97k6 => k_is); (case z97k7 => k_is); (case z97k8 => ktr_room); (case z97k9 => first | exact BindsTo.of_eq rfl | exact binds_K (by k_in) rfl (by k_is) rfl rfl rfl | (refine' kp_binds ?z97kx ?z97ke; (case z97kx => k_in); (case z97ke => exact fun _ => rfl))); (case z97kB => exact rfl); (case z97kD => decide +kernel); (case z97c2 => exact rfl); (case z97c3 => exact rfl); (case z97c4 => exact rfl); k_whole; intro zg' zL' zh' ztk' zcells' zFG' zF' zN' zY' zB' zX' zT' zl1; (try k_lt zl1); k_cells zY'; (try simp only [List.cons_append, List.nil_append] at zN'); (try dsimp only); (try k_lift zB'); (try k_fold)))
  k_with "m mine news" => (((with_reducible rename News _ _ _ _ => znX9); with_reducible (first | exact znX9 | exact Mine.news_tl znX9 | exact Mine.news_tl (Mine.news_tl znX9) | exact Mine.news_tl (Mine.news_tl (Mine.news_tl znX9)) | exact Mine.news_tl (Mine.news_tl (Mine.news_tl (Mine.news_tl znX9))) | exact Mine.news_tl (Mine.news_tl (Mine.news_tl (Mine.news_tl (Mine.news_tl znX9)))) | exact Mine.news_tl (Mine.news_tl (Mine.news_tl (Mine.news_tl (Mine.news_tl (Mine.news_tl znX9))))))))
  k_with "m k_all" => (with_reducible assumption)
  exact trivial
theorem rules_Ell_1 : True := by
  k_with "m call builtin:str.split" => ((k_here; (with_reducible show wpAny _ _ (call (Value.builtin "str.split") _) _ _ _); (refine split_as (by k_asm) (by k_asm) (by decide +kernel) (by with_reducible assumption) (by with_reducible assumption) ?_); intro zD' zv' zh' zk' za' zF' zN' zl1; walk_say "SPLIT"))
  k_with "m subscriptTail Name Constant ref int" => ((k_here; (with_reducible show wpAny _ _ (subscriptTail _ _ (Value.ref _) (Value.int _ _)) _ _ _); (with_reducible rename News _ _ _ _ => znX); (with_reducible rename StrsAre _ _ => zsX); (with_unfolding_all refine strs_first znX (.tail _ (.head _)) zsX (by assumption) ?_); intro zt9; walk_say "ITEM"))
  k_with "m subscriptTail" => ((k_here; (with_reducible show wpAny _ _ (subscriptTail _ _ (Value.ref _) (Value.int _ _)) _ _ _); (with_reducible rename News _ _ _ _ => znX); (with_reducible rename StrsAre _ _ => zsX); (with_unfolding_all refine strs_last znX (.tail _ (.head _)) zsX (by assumption) (by omega) ?_); intro zt9; walk_say "ITEM"))
  k_with "m call builtin:len" => ((k_here; (with_reducible show wpAny _ _ (call (Value.builtin "len") [Value.ref _]) _ _ _); (with_reducible rename News _ _ _ _ => znX); (with_reducible rename StrsAre _ _ => zsX); (with_unfolding_all refine len_strs znX (.head _) zsX (by omega) ?_); intro zt9; walk_say "LEN"))
  exact trivial
theorem len_fit {x : Str} (h : x.length ≤ 4000) : ¬ (x.length : Int) ≥ 2 ^ 63 := by omega
theorem rules_Ell_2 : True := by
  k_with "m call builtin:len" => ((k_here; (with_reducible show wpAny _ _ (call (Value.builtin "len") [Value.str _ _]) _ _ _); (refine PyProof.Rows.len_str (len_fit (by with_reducible assumption)) ?_); walk_say "LEN STR"))
  k_with "m call builtin:str.find" => ((k_here; (with_reducible show wpAny _ _ (call (Value.builtin "str.find") [Value.str _ _, Value.str _ _, Value.int _ _, Value.int _ _]) _ _ _); (refine call_find4 ?_); walk_say "FIND4"))
  exact trivial
set_option maxHeartbeats 8000000 in
theorem c_ell (w : World) (want got : Str) (t u : Tok) (ps : List Str) (hin : (Builtin.Str.occurrences want (Str.ofString "...") 0 want.length 1).isEmpty = false) (hsp : Txt.split want (Str.ofString "...") = ps) (h2 : 2 ≤ ps.length ∧ ps.length ≤ 100) (hf : ps[0]? = some Str.empty) (hla : ps[ps.length - 1]? = some Str.empty) (hw : want.length + 2 ≤ sizeLine) (hg : got.length ≤ 4000) (hps : ∀ p ∈ ps, p.length ≤ 4000) (rest : Led) :
    Ctr 2 w 63 [.str want t, .str got u] rest (fun v nw => nw = rest ∧ v = .bool (ellGo got got.length ps 0)) := by
  unfold Ctr
  k_fill
  intro mean mg mb dp un gd cn cs a ccd cl outer A₀ base h₀ L m s Q E B F X N T hk hd hu hret
  refine wpAny_call ?_
  walk_at "mine enter"
  k_steps
  walk_at "mine for"
  walk1
  with_reducible rename Fr _ _ _ _ => lF9
  with_reducible rename News _ _ _ _ => lN9
  with_reducible rename StrsAre _ _ => sX9
  with_unfolding_all refine' ell_loop got (got.length : Int) rfl (.tail _ (.head _)) sX9 lF9 lN9 rfl ?_ ?_
  · intro i n st t' ts h tk own hn hgo hoff kFr kNews
    have hnl : n.length ≤ 4000 := hps n (List.mem_of_getElem? hn)
    clear lF9 lN9
    try k_fold
    k_steps
    · dsimp only [TurnPost]
      k_steps
      have kE := ell_fail hn hgo (by assumption)
      with_reducible rename Fr h₀ L _ _ => lF5
      with_reducible rename News h₀ L _ _ => lN5
      exact hret _ _ _ _ ⟨rfl, congrArg Value.bool kE⟩ lF5 (news_tl (news_tl (news_left lN5)))
    · with_reducible rename Fr _ _ _ _ => lF8
      with_reducible rename News _ _ _ _ => lN8
      exact ell_end lF8 lN8 hoff hn hgo (by assumption) (by with_unfolding_all rfl) (by intro z z0 z1; simp only [z0, z1, if_false])
  · intro u st ts h tk hgo kFr kNews
    clear lF9 lN9
    try k_fold
    k_steps
    with_reducible rename Fr h₀ L _ _ => lF5
    with_reducible rename News h₀ L _ _ => lN5
    exact hret _ _ _ _ ⟨rfl, congrArg Value.bool hgo.symm⟩ lF5 (news_tl (news_tl lN5))

end
section
section
variable {prog : Program} {w : World} {A : Around} {h₀ : Heap} {L : Addr} {m : Str → Option Value} {env : Env} {elt : Expr} {x : Str} {scope : Scope} {cl : List (Str × Addr)} {s : Shared} {S : Led → Prop} {P : Nat → Value → Prop} {Fin : List Value → Led → Prop} {news : Led}
/-- a comprehension without a test, whatever its elements and its ledger -/
theorem comp_inv {n : Nat} (Inv : Nat → List Value → Led → Prop) (h0 : Inv 0 [] news)
    (turn : ∀ i v ys nw I oI C oC D m₂ h tk (E' : Value → Shared → Prop), i < n → P i v → Inv i ys nw → LCg.NsObj oC m₂ → m₂ x = some v → Fr h₀ L h m → News h₀ L h ((I, oI) :: (C, oC) :: (D, LCg.lst ys) :: nw) → LCg.Off3 I C D nw → ((@Ne Nat I C) ∧ (@Ne Nat I D) ∧ (@Ne Nat C D)) →
      wpAny (model prog w) A (eval elt (compEnvC scope cl C env)) (LCg.CompEnd h₀ L m { s with heap := h, toks := tk } I oI C oC D (LCg.lst ys) S (fun y nw' => Inv (i + 1) (ys ++ [y]) nw')) E' { s with heap := h, toks := tk })
    (fin : ∀ ys nw, Inv n ys nw → Fin ys nw) : LCg.CompRest prog w A h₀ L m env elt x scope cl s S P Fin n 0 [] news := by
  have key : ∀ (j i : Nat) (ys : List Value) (nw : Led), i + j = n → Inv i ys nw → LCg.CompRest prog w A h₀ L m env elt x scope cl s S P Fin j i ys nw := by
    intro j
    induction j with
    | zero =>
      intro i ys nw hi hy
      have e : i = n := by omega
      subst e
      exact LCg.CompRest.zero (fin ys nw hy)
    | succ j ih =>
      intro i ys nw hi hy
      refine LCg.CompRest.succ ?_
      intro v I oI C oC D m₂ h tk E' hv hC hx F N off ne
      refine wpAny_mono (turn i v ys nw I oI C oC D m₂ h tk E' (by omega) hv hy hC hx F N off ne) (fun y s₂ hq => ?_) fun _ _ e => e
      obtain ⟨h', tk', nw', e, F', N', off', hS, hn⟩ := hq
      exact ⟨h', tk', nw', e, F', N', off', hS, ih (i + 1) _ nw' (by omega) hn⟩
  exact key n 0 [] news (by omega) h0
noncomputable def TxInv (news : Led) (xs : List Str) (g : Str → Str) (i : Nat) (ys : List Value) (nw : Led) : Prop := nw = news ∧ StrsAre ys ((xs.take i).map g)
theorem strs_end9 {x : Str} {t : Tok} : ∀ {vs : List Value} {xs : List Str}, StrsAre vs xs → StrsAre (vs ++ [.str x t]) (xs ++ [x])
  | _, _, .nil => .cons _ _ .nil
  | _, _, .cons y t' r => .cons y t' (strs_end9 r)
/-- texts from a list of texts -/
theorem comp_texts {vs : List Value} {xs : List Str} (g : Str → Str) (hi : StrsAre vs xs)
    (turn : ∀ n t ys I oI C oC D m₂ h tk (E' : Value → Shared → Prop), n ∈ xs → LCg.NsObj oC m₂ → m₂ x = some (.str n t) → Fr h₀ L h m → News h₀ L h ((I, oI) :: (C, oC) :: (D, LCg.lst ys) :: news) → LCg.Off3 I C D news → ((@Ne Nat I C) ∧ (@Ne Nat I D) ∧ (@Ne Nat C D)) →
      wpAny (model prog w) A (eval elt (compEnvC scope cl C env)) (LCg.CompEnd h₀ L m { s with heap := h, toks := tk } I oI C oC D (LCg.lst ys) S (fun y nw' => nw' = news ∧ ∃ t', y = .str (g n) t')) E' { s with heap := h, toks := tk })
    (fin : ∀ ys, StrsAre ys (xs.map g) → Fin ys news) : LCg.CompRest prog w A h₀ L m env elt x scope cl s S (fun i v => vs.toArray[i]? = some v) Fin vs.toArray.size 0 [] news := by
  refine comp_inv (TxInv news xs g) ⟨rfl, .nil⟩ ?_ ?_
  · rintro i v ys nw I oI C oC D m₂ h tk E' hlt hv ⟨rfl, hys⟩ hC hx F N off ne
    have hlt' : i < xs.length := by rw [List.size_toArray, hi.length] at hlt; exact hlt
    obtain ⟨t, hx'⟩ := hi.get i xs[i] (by simp [hlt'])
    have hv' : v = .str xs[i] t := by
      have hP' : vs[i]? = some v := by simpa using hv
      rw [hx'] at hP'; exact (Option.some.inj hP').symm
    subst hv'
    refine wpAny_mono (turn xs[i] t ys I oI C oC D m₂ h tk E' (List.getElem_mem hlt') hC hx F N off ne) (fun y s₂ hq => ?_) fun _ _ e => e
    obtain ⟨h', tk', nw', e, F', N', off', hS, hn, t', rfl⟩ := hq
    refine ⟨h', tk', nw', e, F', N', off', hS, hn, ?_⟩
    have e1 : (xs.take (i + 1)).map g = (xs.take i).map g ++ [g xs[i]] := by
      rw [List.take_add_one, List.map_append]
      simp [hlt']
    rw [e1]
    exact strs_end9 hys
  · rintro ys nw ⟨rfl, h⟩
    have hl : xs.take vs.toArray.size = xs := by rw [List.size_toArray, hi.length]; exact List.take_length
    rw [hl] at h
    exact fin ys h
end

end
section
noncomputable def comma (x : Str) : Str := Str.ofString "," ++ x ++ Str.ofString ","
noncomputable def askF (xs : List Str) : Str := Str.ofString "..." ++ Txt.join (Str.ofString "...") (xs.map comma) ++ Str.ofString "..."
noncomputable def gotF (ys : List Str) : Str := Txt.join (Str.ofString "") (ys.map comma)
noncomputable def askParts (xs : List Str) : List Str := Str.empty :: (xs.map comma ++ [Str.empty])
noncomputable def AskOk (xs : List Str) : Prop := (Builtin.Str.occurrences (askF xs) (Str.ofString "...") 0 (askF xs).length 1).isEmpty = false ∧ Txt.split (askF xs) (Str.ofString "...") = askParts xs
noncomputable def holdsF (xs ys : List Str) : Bool := ellGo (gotF ys) (gotF ys).length (askParts xs) 0
noncomputable def WordsOk (xs : List Str) : Prop := xs.length ≤ 8 ∧ ∀ x ∈ xs, x.length ≤ 20
theorem comma_len (x : Str) : (comma x).length = x.length + 2 := by
  unfold comma
  rw [Str.length_append, Str.length_append]
  have : (Str.ofString ",").length = 1 := by decide +kernel
  omega
theorem lens_le {k : Nat} : ∀ {xs : List Str}, (∀ x ∈ xs, x.length ≤ k) → (xs.map (·.length)).sum ≤ xs.length * k
  | [], _ => Nat.zero_le _
  | x :: r, h => by
    have h1 := lens_le fun y hy => h y (.tail _ hy)
    have h2 := h x (.head _)
    rw [List.map_cons, List.sum_cons, List.length_cons, Nat.succ_mul]
    omega
theorem comma_all {xs : List Str} (h : WordsOk xs) : ∀ x ∈ xs.map comma, x.length ≤ 22 := fun x hx => by
  obtain ⟨y, hy, rfl⟩ := List.mem_map.mp hx
  have := h.2 y hy
  rw [comma_len]; omega
theorem comma_room {xs : List Str} (h : WordsOk xs) : ((xs.map comma).map (·.length)).sum + (xs.map comma).length * 64 ≤ 16777216 := by
  have h1 := lens_le (comma_all h)
  have h2 : (xs.map comma).length ≤ 8 := by rw [List.length_map]; exact h.1
  generalize (xs.map comma).length = n at *
  omega
theorem comma_join {xs : List Str} {sep : Str} (h : WordsOk xs) (hs : sep.length ≤ 8) : (Txt.join sep (xs.map comma)).length ≤ 300 := by
  have h1 := lens_le (comma_all h)
  have h2 : (xs.map comma).length ≤ 8 := by rw [List.length_map]; exact h.1
  have h3 := size_glued sep (xs.map comma)
  have h4 : (Txt.join sep (xs.map comma)).length = ((xs.map comma).map (·.length)).sum + ((xs.map comma).length - 1) * sep.length := h3
  have h5 : ((xs.map comma).length - 1) * sep.length ≤ 7 * 8 := Nat.mul_le_mul (by omega) hs
  omega
theorem got_len {ys : List Str} (h : WordsOk ys) : (gotF ys).length ≤ 4000 := Nat.le_trans (comma_join h (by decide +kernel)) (by decide)
theorem ask_len {xs : List Str} (h : WordsOk xs) : (askF xs).length + 2 ≤ sizeLine := by
  unfold askF
  rw [Str.length_append, Str.length_append, sizeLine_eq]
  have h1 := comma_join h (sep := Str.ofString "...") (by decide +kernel)
  have : (Str.ofString "...").length = 3 := by decide +kernel
  omega
theorem parts_len {xs : List Str} : (askParts xs).length = xs.length + 2 := by
  unfold askParts
  simp
theorem parts_ok {xs : List Str} (h : WordsOk xs) : (2 ≤ (askParts xs).length ∧ (askParts xs).length ≤ 100) ∧ (askParts xs)[0]? = some Str.empty ∧ (askParts xs)[(askParts xs).length - 1]? = some Str.empty ∧ ∀ p ∈ askParts xs, p.length ≤ 4000 := by
  rw [parts_len]
  refine ⟨⟨by omega, by have := h.1; omega⟩, rfl, ?_, ?_⟩
  · have e : xs.length + 2 - 1 = xs.length + 1 := by omega
    rw [e]
    unfold askParts
    rw [List.getElem?_cons_succ, List.getElem?_append_right (by simp)]
    simp
  · intro p hp
    unfold askParts at hp
    rcases List.mem_cons.mp hp with rfl | hp
    · decide
    · rcases List.mem_append.mp hp with hp | hp
      · have := comma_all h p hp; omega
      · rw [List.mem_singleton.mp hp]; decide
theorem add_line {x y : Str} (hx : x.length ≤ 400) (hy : y.length ≤ 400) : x.length + y.length ≤ sizeLine := by rw [sizeLine_eq]; omega
theorem add_fit {x y : Str} (hx : x.length ≤ 400) (hy : y.length ≤ 400) : x.length + y.length ≤ 16777216 := by omega
theorem join_400 {xs : List Str} (h : WordsOk xs) : (Txt.join (Str.ofString "...") (xs.map comma)).length ≤ 400 := Nat.le_trans (comma_join h (by decide +kernel)) (by decide)
theorem dots_400 {xs : List Str} (h : WordsOk xs) : (Str.ofString "..." ++ Txt.join (Str.ofString "...") (xs.map comma)).length ≤ 400 := by
  rw [Str.length_append]
  have h1 := comma_join h (sep := Str.ofString "...") (by decide +kernel)
  have : (Str.ofString "...").length = 3 := by decide +kernel
  omega
theorem word_400 {x : Str} (h : x.length ≤ 20) : x.length ≤ 400 := by omega
theorem comma_400 {x : Str} (h : x.length ≤ 20) : (Str.ofString "," ++ x).length ≤ 400 := by
  rw [Str.length_append]
  have : (Str.ofString ",").length = 1 := by decide +kernel
  omega

end
section
theorem fresh_Holds : True := by
  w_top off
  k_with_none
  k_with "m mine enter" => (k_dflt (refine' code_def ?z106k1 ?z106k2 ?z106k3 ?z106k4 ?z106k5 ?z106kA ?z106kF ?z106kK ?z106k6 ?z106k7 ?z106k8 ?z106k9 ?z106kB ?_ ?z106c2 ?z106c3 ?z106c4 ?z106c5; (case z106kA => exact rfl); (case z106kF => exact rfl); (case z106kK => assumption); (case z106k1 => k_asm); (case z106k2 => k_asm); (case z106k3 => k_asm); (case z106k4 => k_asm); (case z106k5 => k_asm); (case z106k6 => k_is); (case z106k7 => k_is); (case z106k8 => ktr_room); (case z106k9 => first | exact BindsTo.of_eq rfl | exact binds_K (by k_in) rfl (by k_is) rfl rfl rfl | (refine' kp_binds ?z106kx ?z106ke; (case z106kx => k_in); (case z106ke => exact fun _ => rfl))); (case z106c5 => decide); (case z106kB => exact locs rfl); (case z106c2 => exact rfl); (case z106c3 => exact rfl); (case z106c4 => exact rfl); k_whole; intro zg' zL' zh' zFG' zF' zN' zB' zX' zT'; (try dsimp only); (try k_lift zB'); (try k_fold)))
  k_with "m k_all" => ((refine Mine.allLt_ne ?_; first | assumption | exact And.right (by assumption) | exact And.right (And.right (by assumption)) | exact And.right (And.right (And.right (by assumption))) | exact And.right (And.right (And.right (And.right (by assumption)))) | exact And.right (And.right (And.right (And.right (And.right (by assumption)))))))
  k_with "m mine pull" => (first | (refine' Mine.Pull.head ?z108a; (case z108a => k_all)) | (refine' Mine.Pull.tail ?z108a ?z108b; (case z108a => k_ne); (case z108b => walk_at "mine pull")))
  k_with "m k_all" => ((refine Mine.all_append ?z109a ?z109b; (case z109a => k_all); (case z109b => k_all)))
  k_with "m getItem ref int" => ((k_here; (with_reducible show wpAny _ _ (getItem (Value.ref _) (Value.int (List.getD _ _ _) _)) _ _ _); k_dflt (refine' Mine.kinds_get ?z110k1 ?z110k2 ?z110k3 ?z110k4 ?z110k5 ?_; (case z110k1 => k_asm); (case z110k2 => k_mem); (case z110k3 => with_reducible assumption); (case z110k4 => assumption); (case z110k5 => assumption)); intro zt9 zb9 zc9; walk_say "KINDS"))
  k_with "m mine for" => (((with_reducible rename Fr _ _ _ _ => zlF'); (with_unfolding_all refine' For_invVF zlF' ?z111k1 ?z111k2 ?_; (case z111k1 => exact rfl); (case z111k2 => exact rfl); k_whole)))
  k_with "m mine enterC" => (k_dflt (refine' code_defC ?z112k1 ?z112k2 ?z112k3 ?z112k4 ?z112k5 ?z112kA ?z112kF ?z112kK ?z112k6 ?z112k7 ?z112k8 ?z112k9 ?z112kB ?z112kD ?_ ?z112c2 ?z112c3 ?z112c4; (case z112kA => exact rfl); (case z112kF => exact rfl); (case z112kK => assumption); (case z112k1 => k_asm); (case z112k2 => k_asm); (case z112k3 => k_asm); (case z112k4 => k_asm); (case z112k5 => k_asm); (case z112k6 => k_is); (case z112k7 => k_is); (case z112k8 => ktr_room); (case z112k9 => first | exact BindsTo.of_eq rfl | exact binds_K (by k_in) rfl (by k_is) rfl rfl rfl | (refine' kp_binds ?z112kx ?z112ke; (case z112kx => k_in); (case z112ke => exact fun _ => rfl))); (case z112kB => exact rfl); (case z112kD => decide +kernel); (case z112c2 => exact rfl); (case z112c3 => exact rfl); (case z112c4 => exact rfl); k_whole; intro zg' zL' zh' ztk' zcells' zFG' zF' zN' zY' zB' zX' zT' zl1; (try k_lt zl1); k_cells zY'; (try simp only [List.cons_append, List.nil_append] at zN'); (try dsimp only); (try k_lift zB'); (try k_fold)))
  k_with "m mine news" => (((with_reducible rename News _ _ _ _ => znX9); with_reducible (first | exact znX9 | exact Mine.news_tl znX9 | exact Mine.news_tl (Mine.news_tl znX9) | exact Mine.news_tl (Mine.news_tl (Mine.news_tl znX9)) | exact Mine.news_tl (Mine.news_tl (Mine.news_tl (Mine.news_tl znX9))) | exact Mine.news_tl (Mine.news_tl (Mine.news_tl (Mine.news_tl (Mine.news_tl znX9)))) | exact Mine.news_tl (Mine.news_tl (Mine.news_tl (Mine.news_tl (Mine.news_tl (Mine.news_tl znX9))))))))
  k_with "m k_all" => (with_reducible assumption)
  exact trivial
theorem dots_len : (Str.ofString "...").length ≤ 400 := by decide +kernel
theorem comma_len1 : (Str.ofString ",").length ≤ 400 := by decide +kernel
theorem rules_Holds_1 : True := by
  k_with "m binaryOp Add str str" => ((k_here; (with_reducible show wpAny _ _ (binaryOp Operator.Add (Value.str _ _) (Value.str _ _)) _ _ _); (refine KOpn.add (add_fit ?z115x ?z115y) ?_; (case z115x => with_reducible (first | exact dots_len | exact comma_len1 | assumption)); (case z115y => with_reducible (first | exact dots_len | exact comma_len1 | assumption))); intro zt9 zk9 zl9; walk_say "ADD"))
  k_with "m call builtin:str.join" => ((k_here; (with_reducible show wpAny _ _ (call (Value.builtin _) [Value.str _ _, Value.ref _]) _ _ _); (with_reducible rename News _ _ _ _ => znJ); (with_reducible rename StrsAre _ _ => zsJ); (with_unfolding_all refine join_listC (znJ.isList (.head _)) zsJ (by decide +kernel) (comma_room (by with_reducible assumption)) ?_); intro zt9 zk9; walk_say "JOIN"))
  exact trivial
set_option maxHeartbeats 8000000 in
theorem c_holds (w : World) (lp lw : Addr) (pvs wvs : List Value) (xs ys : List Str) (pn wn : Nat) (hx : StrsAre pvs xs) (hy : StrsAre wvs ys) (hxl : WordsOk xs) (hyl : WordsOk ys) (hask : AskOk xs) (rest : Led) (hm1 : (lp, listOf pvs.toArray pn) ∈ rest) (hm2 : (lw, listOf wvs.toArray wn) ∈ rest) :
    Ctr 3 w 151 [.ref lp, .ref lw] rest (fun v nw => nw = rest ∧ v = .bool (holdsF xs ys)) := by
  unfold Ctr
  k_fill
  intro mean mg mb dp un gd cn cs a ccd cl outer A₀ base h₀ L m s Q E B F X N T hk hd hu hret
  refine wpAny_call ?_
  walk_at "mine enter"
  have hJ1 := join_400 hxl
  have hJ2 := dots_400 hxl
  iterate 10 walk1
  k_dflt (refine LCg.ListComp_U (F₀ := by k_asm) (by with_unfolding_all rfl) (by decide) (by rfl) (by decide) (by rfl) ?_)
  walk1
  k_dflt (refine LCg.CompSrc.ledger (by rfl) (by k_asm) (by k_asm) hm1 (by rw [List.size_toArray, hx.length, sizeLine_eq]; have := hxl.1; omega) ?_)
  intro g'
  refine comp_texts comma hx (fun n' t' ys' I' oI' C' oC' D' m' h' tk' E' hn' hC' hx' F' N' off' ne' => ?_) (fun ys' hys' => ?_)
  · have hnl := hxl.2 n' hn'
    have hn4 := word_400 hnl
    have hn5 := comma_400 hnl
    k_steps
    exact LCg.CompEnd.intro F' N' _ (fun p hp => hp) off' (.inr ⟨_, hm1, rfl, _, rfl⟩) ⟨rfl, _, rfl⟩
  iterate 21 walk1
  k_dflt (refine LCg.ListComp_U (F₀ := by k_asm) (by with_unfolding_all rfl) (by decide) (by rfl) (by decide) (by rfl) ?_)
  walk1
  k_dflt (refine LCg.CompSrc.ledger (by rfl) (by k_asm) (by k_asm) (.tail _ hm2) (by rw [List.size_toArray, hy.length, sizeLine_eq]; have := hyl.1; omega) ?_)
  intro g2'
  refine comp_texts comma hy (fun n' t' ys' I' oI' C' oC' D' m' h' tk' E' hn' hC' hx' F' N' off' ne' => ?_) (fun ys' hys' => ?_)
  · have hnl := hyl.2 n' hn'
    have hn4 := word_400 hnl
    have hn5 := comma_400 hnl
    k_steps
    exact LCg.CompEnd.intro F' N' _ (fun p hp => hp) off' (.inr ⟨_, .tail _ hm2, rfl, _, rfl⟩) ⟨rfl, _, rfl⟩
  iterate 4 walk1

  have hP := parts_ok hxl
  refine ⟨by k_in, ?_⟩
  k_here
  with_unfolding_all refine' ctr_use (c_ell w (askF xs) (gotF ys) _ _ (askParts xs) hask.1 hask.2 hP.1 hP.2.1 hP.2.2.1 (ask_len hxl) (got_len hyl) hP.2.2.2 _) ?k1 ?k2 ?k3 ?k4 ?k5 ?k6 ?k7 ?k8 ?_
  case k4 => k_asm
  case k1 => k_asm
  case k2 => k_asm
  case k3 => k_asm
  case k5 => k_asm
  case k6 => exact rfl
  case k7 => ktr_room
  case k8 => ktr_units
  rintro v9 nw9 h9 tk9 ⟨e9, f9⟩ F9 N9
  subst e9
  subst f9
  k_steps
  with_reducible rename Fr h₀ L _ _ => lF5
  with_reducible rename News h₀ L _ _ => lN5
  exact hret _ _ _ _ ⟨rfl, rfl⟩ lF5 (news_tl (news_tl lN5))

end
section
/-- the number whose words are told -/
noncomputable def numF (first k : Int) : Int := (8 + k) * 2 ^ first.toNat
noncomputable def wordF (first k : Int) : List Str := Txt.split (Txt.join (Str.ofString ", ") (prettyL (numF first k))) (Str.ofString ", ")
/-- the lists of the words, as they lie in the ledger -/
noncomputable abbrev WEnt := Addr × List Value
noncomputable def wLed (es : List WEnt) : Led := es.map fun e => (e.1, listOf e.2.toArray 0)
noncomputable def wRefs (es : List WEnt) : List Value := es.map fun e => .ref e.1
noncomputable def WT (first : Int) (es : List WEnt) : Prop := ∀ (j : Nat) (e : WEnt), es[j]? = some e → StrsAre e.2 (wordF first j)
noncomputable def WInv (first : Int) (cE : Addr × Obj) (rest : Led) (i : Nat) (ys : List Value) (nw : Led) : Prop := ∃ es : List WEnt, es.length = i ∧ ys = wRefs es ∧ nw = cE :: (wLed es.reverse ++ rest) ∧ WT first es
theorem WT.snoc {first : Int} {es : List WEnt} (h : WT first es) {d : Addr} {vs : List Value} (hv : StrsAre vs (wordF first es.length)) : WT first (es ++ [(d, vs)]) := by
  intro j e he
  by_cases hj : j < es.length
  · rw [List.getElem?_append_left hj] at he
    exact h j e he
  · have h2 : j - es.length = 0 := by
      rcases Nat.lt_or_ge (j - es.length) 1 with h3 | h3
      · omega
      · rw [List.getElem?_append_right (by omega), List.getElem?_eq_none (by simpa using h3)] at he
        cases he
    have h3 : j = es.length := by omega
    subst h3
    rw [List.getElem?_append_right (Nat.le_refl _), Nat.sub_self] at he
    have h4 := Option.some.inj he
    rw [← h4]
    exact hv
theorem WInv.start (first : Int) (cE : Addr × Obj) (rest : Led) : WInv first cE rest 0 [] (cE :: rest) := ⟨[], rfl, rfl, rfl, fun j e he => by simp at he⟩
theorem WInv.snoc {first : Int} {cE : Addr × Obj} {rest : Led} {i : Nat} {es : List WEnt} (hl : es.length = i) (h : WT first es) {d : Addr} {vs : List Value} (hv : StrsAre vs (wordF first i)) : WInv first cE rest (i + 1) (wRefs es ++ [.ref d]) (cE :: (d, listOf vs.toArray 0) :: (wLed es.reverse ++ rest)) := by
  subst hl
  refine ⟨es ++ [(d, vs)], by simp, by simp [wRefs], ?_, h.snoc hv⟩
  simp [wLed]
theorem num_ok {first k : Int} (h : 0 ≤ first ∧ first < 30) (hk : 0 ≤ k ∧ k < 8) : 0 ≤ numF first k ∧ numF first k < 2 ^ 40 := by
  unfold numF
  have h1 : (2 : Int) ^ first.toNat ≤ 2 ^ 30 := by
    have : first.toNat ≤ 30 := by omega
    have := Nat.pow_le_pow_right (n := 2) (by decide) this
    exact_mod_cast this
  have h0 : (0 : Int) < 2 ^ first.toNat := Int.pow_pos (by decide)
  generalize (2 : Int) ^ first.toNat = z at h0 h1
  constructor
  · exact Int.mul_nonneg (by omega) (by omega)
  · have h2 : (8 + k) * z ≤ 15 * z := Int.mul_le_mul_of_nonneg_right (by omega) (by omega)
    have e : (2 : Int) ^ 40 = 1099511627776 := by decide
    have e2 : (2 : Int) ^ 30 = 1073741824 := by decide
    omega
theorem perm_sub {a b c d e : Addr × Obj} {r : Led} : ∀ p ∈ b :: c :: d :: e :: a :: r, p ∈ a :: b :: c :: d :: e :: r := by
  intro p hp
  simp only [List.mem_cons] at hp ⊢
  rcases hp with h | h | h | h | h | h
  · exact .inr (.inl h)
  · exact .inr (.inr (.inl h))
  · exact .inr (.inr (.inr (.inl h)))
  · exact .inr (.inr (.inr (.inr (.inl h))))
  · exact .inl h
  · exact .inr (.inr (.inr (.inr (.inr h))))
theorem off_ins {I C D d : Addr} {o : Obj} {cE : Addr × Obj} {r : Led} (h : LCg.Off3 I C D (cE :: r)) (h1 : I < d ∧ C < d ∧ D < d) : LCg.Off3 I C D (cE :: (d, o) :: r) := ⟨h.1, ⟨fun e => Nat.lt_irrefl _ (e ▸ h1.1 : I < I), fun e => Nat.lt_irrefl _ (e ▸ h1.2.1 : C < C), fun e => Nat.lt_irrefl _ (e ▸ h1.2.2 : D < D)⟩, h.2⟩

end
section
theorem fresh_Words : True := by
  w_top off
  k_with_none
  k_with "m mine enter" => (k_dflt (refine' code_def ?z117k1 ?z117k2 ?z117k3 ?z117k4 ?z117k5 ?z117kA ?z117kF ?z117kK ?z117k6 ?z117k7 ?z117k8 ?z117k9 ?z117kB ?_ ?z117c2 ?z117c3 ?z117c4 ?z117c5; (case z117kA => exact rfl); (case z117kF => exact rfl); (case z117kK => assumption); (case z117k1 => k_asm); (case z117k2 => k_asm); (case z117k3 => k_asm); (case z117k4 => k_asm); (case z117k5 => k_asm); (case z117k6 => k_is); (case z117k7 => k_is); (case z117k8 => ktr_room); (case z117k9 => first | exact BindsTo.of_eq rfl | exact binds_K (by k_in) rfl (by k_is) rfl rfl rfl | (refine' kp_binds ?z117kx ?z117ke; (case z117kx => k_in); (case z117ke => exact fun _ => rfl))); (case z117c5 => decide); (case z117kB => exact locs rfl); (case z117c2 => exact rfl); (case z117c3 => exact rfl); (case z117c4 => exact rfl); k_whole; intro zg' zL' zh' zFG' zF' zN' zB' zX' zT'; (try dsimp only); (try k_lift zB'); (try k_fold)))
  k_with "m k_all" => ((refine Mine.allLt_ne ?_; first | assumption | exact And.right (by assumption) | exact And.right (And.right (by assumption)) | exact And.right (And.right (And.right (by assumption))) | exact And.right (And.right (And.right (And.right (by assumption)))) | exact And.right (And.right (And.right (And.right (And.right (by assumption)))))))
  k_with "m mine pull" => (first | (refine' Mine.Pull.head ?z119a; (case z119a => k_all)) | (refine' Mine.Pull.tail ?z119a ?z119b; (case z119a => k_ne); (case z119b => walk_at "mine pull")))
  k_with "m k_all" => ((refine Mine.all_append ?z120a ?z120b; (case z120a => k_all); (case z120b => k_all)))
  k_with "m getItem ref int" => ((k_here; (with_reducible show wpAny _ _ (getItem (Value.ref _) (Value.int (List.getD _ _ _) _)) _ _ _); k_dflt (refine' Mine.kinds_get ?z121k1 ?z121k2 ?z121k3 ?z121k4 ?z121k5 ?_; (case z121k1 => k_asm); (case z121k2 => k_mem); (case z121k3 => with_reducible assumption); (case z121k4 => assumption); (case z121k5 => assumption)); intro zt9 zb9 zc9; walk_say "KINDS"))
  k_with "m mine for" => (((with_reducible rename Fr _ _ _ _ => zlF'); (with_unfolding_all refine' For_invVF zlF' ?z122k1 ?z122k2 ?_; (case z122k1 => exact rfl); (case z122k2 => exact rfl); k_whole)))
  k_with "m mine enterC" => (k_dflt (refine' code_defC ?z123k1 ?z123k2 ?z123k3 ?z123k4 ?z123k5 ?z123kA ?z123kF ?z123kK ?z123k6 ?z123k7 ?z123k8 ?z123k9 ?z123kB ?z123kD ?_ ?z123c2 ?z123c3 ?z123c4; (case z123kA => exact rfl); (case z123kF => exact rfl); (case z123kK => assumption); (case z123k1 => k_asm); (case z123k2 => k_asm); (case z123k3 => k_asm); (case z123k4 => k_asm); (case z123k5 => k_asm); (case z123k6 => k_is); (case z123k7 => k_is); (case z123k8 => ktr_room); (case z123k9 => first | exact BindsTo.of_eq rfl | exact binds_K (by k_in) rfl (by k_is) rfl rfl rfl | (refine' kp_binds ?z123kx ?z123ke; (case z123kx => k_in); (case z123ke => exact fun _ => rfl))); (case z123kB => exact rfl); (case z123kD => decide +kernel); (case z123c2 => exact rfl); (case z123c3 => exact rfl); (case z123c4 => exact rfl); k_whole; intro zg' zL' zh' ztk' zcells' zFG' zF' zN' zY' zB' zX' zT' zl1; (try k_lt zl1); k_cells zY'; (try simp only [List.cons_append, List.nil_append] at zN'); (try dsimp only); (try k_lift zB'); (try k_fold)))
  k_with "m mine news" => (((with_reducible rename News _ _ _ _ => znX9); with_reducible (first | exact znX9 | exact Mine.news_tl znX9 | exact Mine.news_tl (Mine.news_tl znX9) | exact Mine.news_tl (Mine.news_tl (Mine.news_tl znX9)) | exact Mine.news_tl (Mine.news_tl (Mine.news_tl (Mine.news_tl znX9))) | exact Mine.news_tl (Mine.news_tl (Mine.news_tl (Mine.news_tl (Mine.news_tl znX9)))) | exact Mine.news_tl (Mine.news_tl (Mine.news_tl (Mine.news_tl (Mine.news_tl (Mine.news_tl znX9))))))))
  k_with "m k_all" => (with_reducible assumption)
  exact trivial
theorem rules_Words_1 : True := by
  k_with "m call ref" => ((k_here; (with_reducible show wpAny _ _ (call (Value.ref 29) _) _ _ _); k_dflt (refine' ctr_use (c_flags _ _ _ ?z126c1 _) ?z126k1 ?z126k2 ?z126k3 ?z126k4 ?z126k5 ?z126k6 ?z126k7 ?z126k8 ?_; (case z126k4 => k_asm); (case z126k1 => k_asm); (case z126k2 => k_asm); (case z126k3 => k_asm); (case z126k5 => k_asm); (case z126k6 => exact rfl); (case z126k7 => ktr_room); (case z126k8 => ktr_units); (case z126c1 => exact num_ok (by assumption) (by assumption)); rintro zv9 znw9 zh9 ztk9 ⟨ze9, zt9, zf9⟩ zF9 zN9; subst ze9; subst zf9; (try dsimp only); (try k_fold)); walk_say "FLAGS"))
  k_with "m call builtin:str.split" => ((k_here; (with_reducible show wpAny _ _ (call (Value.builtin "str.split") _) _ _ _); (refine split_as (by k_asm) (by k_asm) (by decide +kernel) rfl (by with_unfolding_all assumption) ?_); intro zD' zv' zh' zk' za' zF' zN' zl1; walk_say "SPLIT"))
  exact trivial
set_option maxHeartbeats 8000000 in
theorem c_words (w : World) (first : Int) (t : Tok) (hf : 0 ≤ first ∧ first < 30) (hsz : ∀ k : Int, 0 ≤ k ∧ k < 8 → (Txt.join (Str.ofString ", ") (prettyL (numF first k))).length + 2 ≤ sizeLine) (rest : Led) :
    Ctr 3 w 146 [.int first t] rest (fun v nw => ∃ d n es, v = .ref d ∧ nw = (d, listOf (wRefs es).toArray n) :: (wLed es.reverse ++ rest) ∧ es.length = 8 ∧ WT first es) := by
  unfold Ctr
  k_fill
  intro mean mg mb dp un gd cn cs a ccd cl outer A₀ base h₀ L m s Q E B F X N T hk hd hu hret
  refine wpAny_call ?_
  walk_at "mine enterC"
  iterate 2 walk1
  k_dflt (refine LCg.ListComp_U (F₀ := by k_asm) (by with_unfolding_all rfl) (by decide) (by rfl) (by decide) (by rfl) ?_)
  iterate 7 walk1
  k_dflt (refine LCg.CompSrc.range (by rfl) (by k_asm) (by k_asm) (by assumption) (by decide) (by rfl) (by exact Nat.le_of_ble_eq_true rfl) ?_)
  intro g'
  refine comp_inv (WInv first _ rest) (WInv.start first _ rest) ?_ ?_
  · rintro i v ys nw I oI C oC D m₂ h tk E' hlt ⟨t', rfl⟩ ⟨es, hl, rfl, rfl, hwt⟩ hC hx F' N' off ne
    have h8 : i < 8 := hlt
    have hki : 0 ≤ (0 : Int) + (i : Int) ∧ (0 : Int) + (i : Int) < 8 := by omega
    have hkz := hsz _ hki
    k_steps
    with_reducible rename Fr _ _ _ _ => lF8
    with_reducible rename News _ _ _ _ => lN8
    with_reducible rename ∀ _ ∈ _, _ < _ => l8
    with_reducible rename StrsAre _ _ => a8
    rw [Int.zero_add] at a8
    exact LCg.CompEnd.intro lF8 lN8 _ perm_sub (off_ins off ⟨l8 _ (.head _), l8 _ (.tail _ (.head _)), l8 _ (.tail _ (.tail _ (.head _)))⟩) trivial (WInv.snoc hl hwt a8)
  · rintro ys nw ⟨es, hl, rfl, rfl, hwt⟩
    k_steps
    with_reducible rename Fr h₀ L _ _ => lF5
    with_reducible rename News h₀ L _ _ => lN5
    exact hret _ _ _ _ ⟨_, _, es, rfl, rfl, hl, hwt⟩ lF5 (news_skip1 lN5)

end
section
/-- a call that only reads the ledger: it may stand in any order -/
theorem ctr_sub {k : Nat} {w : World} {f : Addr} {vs : List Value} {P : Value → Prop} {pre news : Led} (C : ∀ rest : Led, Ctr k w f vs (pre ++ rest) (fun v nw => nw = pre ++ rest ∧ P v)) (hm : ∀ p ∈ pre, p ∈ news) : Ctr k w f vs news (fun v nw => nw = news ∧ P v) := by
  intro mean mg mb dp un gd cn cs a ccd cl outer A₀ base h₀ L m s Q E B F X N T hk hd hu hret
  refine C news mean mg mb dp un gd cn cs a ccd cl outer A₀ base h₀ L m s Q E B F X (fun p hp => ?_) T hk hd hu ?_
  · rcases List.mem_append.mp hp with hp | hp
    · exact N _ (hm _ hp)
    · exact N _ hp
  · rintro v nw h' tk' ⟨rfl, hP⟩ F' N'
    exact hret v news h' tk' ⟨rfl, hP⟩ F' fun p hp => N' p (List.mem_append.mpr (.inr hp))
noncomputable abbrev AccS := List Value × List Int × Nat
noncomputable def accLed (D : Addr) (B : Led) (c : AccS) : Led := (D, listOf c.1.toArray c.2.2) :: B
noncomputable def AccPost (h₀ : Heap) (L D : Addr) (B : Led) (x : Str) (stored : List Str) (m₀ : Str → Option Value) (g : Int → Int) (pre : List Int) (k : Int) (own : Led) (s₁ : Shared) (Q : Flow → Shared → Prop) : Flow → Shared → Prop := InvPostN h₀ L (KstS (accLed D B) (fun _ => []) (fun c => IntsAre c.1 c.2.1) x stored m₀ (fun pre c => c.2.1 = pre.map g) (pre ++ [k])) own (D :: B.map (·.1)) s₁ Q
section
variable {prog : Program} {w : World} {A : Around} {E : Value → Shared → Prop} {s : Shared} {env : Env} {h₀ : Heap} {x : Str} {body : List Stmt} {Q : Flow → Shared → Prop}
theorem acc_loop {r D : Addr} {t₀ u₀ v₀ : Tok} {n nn : Nat} {m₀ : Str → Option Value} {B : Led} (g : Int → Int) (stored : List Str) (hh : A.handled = none) (hr : IsRange s.heap r 0 n 1 t₀ u₀ v₀) (hsmall : Builtin.Range.small 0 n 1 = true) (hn : Builtin.Range.rangeSize 0 n 1 = (n : Int))
    (F : Fr h₀ env.locals s.heap m₀) (N : News h₀ env.locals s.heap ((D, listOf ([] : List Value).toArray nn) :: B))
    (turn : ∀ (pre : List Int) (k : Int) t (u : Str → Option Value) h tk own vs nn, k = (pre.length : Int) → pre.length < n → OwnOff own (D :: B.map (·.1)) → IntsAre vs (pre.map g) →
      Fr h₀ env.locals h (fun y => if y = x then some (.int k t) else if stored.contains y then u y else m₀ y) → News h₀ env.locals h ((D, listOf vs.toArray nn) :: (B ++ own)) →
      wpAny (model prog w) A (execs body env) (AccPost h₀ env.locals D B x stored m₀ g pre k own { s with heap := h, toks := tk } Q) E { s with heap := h, toks := tk })
    (done : ∀ (u : Str → Option Value) h tk vs nn, IntsAre vs ((rangeKs 0 n).map g) → Fr h₀ env.locals h (fun y => if y = x then u y else if stored.contains y then u y else m₀ y) → News h₀ env.locals h ((D, listOf vs.toArray nn) :: B) → Q .next { s with heap := h, toks := tk }) :
    wpAny (model prog w) A (pyIter (.ref r)) (fun it s₂ => LoopAtV prog w A h₀ env x body Q E it s₂) E s := by
  refine kst_range (σ := AccS) (accLed D B) (fun _ => []) (fun c => IntsAre c.1 c.2.1) stored (fun pre c => c.2.1 = pre.map g) ([], [], nn) hh hr hsmall hn F N .nil (fun p hp => nomatch hp) rfl ?_ ?_
  · rintro ⟨vs, ns, n'⟩ pre k t u h tk own hk hlt hoff hi hp F' N'
    dsimp only at hp hi
    subst hp
    exact turn pre k t u h tk own vs n' (by omega) hlt hoff hi F' N'
  · rintro ⟨vs, ns, n'⟩ u h tk hi hp F' N'
    dsimp only at hp hi
    subst hp
    exact done u h tk vs n' hi F' N'
theorem acc_end {L D : Addr} {B : Led} {stored : List Str} {m₀ m' : Str → Option Value} {g : Int → Int} {pre : List Int} {k : Int} {own : Led} {s₁ : Shared} {h' : Heap} {tk : Nat} {vs : List Value} {nn : Nat} {t : Tok} (F : Fr h₀ L h' m') (N : News h₀ L h' ((D, listOf (vs ++ [Value.int (g k) t]).toArray nn) :: (B ++ own))) (hi : IntsAre vs (pre.map g))
    (hr : ∀ z, z ≠ x → stored.contains z = false → m' z = m₀ z) : AccPost h₀ L D B x stored m₀ g pre k own s₁ Q .next { s₁ with heap := h', toks := tk } := by
  refine kst_end (Led := accLed D B) (vs ++ [Value.int (g k) t], pre.map g ++ [g k], nn) F N ?_ ?_ rfl (IntsAre.append hi (.cons _ _ .nil)) (fun p hp => nomatch hp) (fun z z0 _ z2 => hr z z0 z2) (by simp)
  · intro p hp
    rcases List.mem_cons.mp hp with rfl | hp
    · exact .head _
    · exact .tail _ (List.mem_append.mpr (.inl hp))
  · exact fun p hp => .tail _ (List.mem_append.mpr (.inr hp))
end

end
section
noncomputable def wholeF (b nt : Int) (cs ps : List Int) (spare kind : Int) : Int := (b + prodF ps kind * (ilF cs (prodF ps kind) + nt) - spare).fdiv (prodF ps kind) - nt
noncomputable def wLen (first k : Int) : Int := ((wordF first k).length : Int)
noncomputable def colStep (first : Int) (ws : List Int) (kind c o : Int) : Int := if holdsF (wordF first kind) (wordF first o) = true then (if (wLen first o - wLen first kind).fmod 2 = 0 then c + ws.getD o.toNat 0 else c - ws.getD o.toNat 0) else c
noncomputable def colFold (first : Int) (ws : List Int) (kind : Int) (pre : List Int) : Int := pre.foldl (colStep first ws kind) 0
noncomputable def colF (first : Int) (ws : List Int) (kind : Int) : Int := colFold first ws kind (rangeKs 0 8)
noncomputable abbrev lead4 (w : World) (l : LeadAt) (rest : Led) : Led := (l.tn, tupObj [.ref l.tc, .int l.b l.tb]) :: (l.tc, tupObj l.cvs) :: (l.x, instObj 125 l.dx) :: (l.dx, leadDict w l) :: rest
noncomputable def ColOk (first : Int) : Prop := ∀ k : Int, 0 ≤ k ∧ k < 8 → WordsOk (wordF first k) ∧ AskOk (wordF first k)
theorem prod_ok {ps : List Int} {kind : Int} (h : PrimesOk ps) : 1 ≤ prodF ps kind ∧ prodF ps kind ≤ 343 := by
  have step : ∀ (p k : Int) (n : Nat), (k = 0 ∨ k = 1 ∨ k = 2) → 1 ≤ p ∧ p ≤ 7 ^ n → 1 ≤ prodStep ps kind p k ∧ prodStep ps kind p k ≤ 7 ^ (n + 1) := by
    intro p k n hk hp
    have h7 : (7 : Int) ^ (n + 1) = 7 ^ n * 7 := Int.pow_succ _ _
    have hpos : (0 : Int) < 7 ^ n := Int.pow_pos (by decide)
    unfold prodStep
    split
    · have hq := h.2 k.toNat (by omega)
      have a1 : 1 * 1 ≤ p * ps.getD k.toNat 0 := Int.mul_le_mul hp.1 (by omega) (by decide) (by omega)
      have a2 : p * ps.getD k.toNat 0 ≤ 7 ^ n * 7 := Int.mul_le_mul hp.2 hq.2 (by omega) (by omega)
      omega
    · omega
  have e : prodF ps kind = prodStep ps kind (prodStep ps kind (prodStep ps kind 1 0) 1) 2 := rfl
  have h1 := step 1 0 0 (.inl rfl) ⟨by decide, by decide⟩
  have h2 := step _ 1 1 (.inr (.inl rfl)) h1
  have h3 := step _ 2 2 (.inr (.inr rfl)) h2
  rw [e]
  exact ⟨h3.1, Int.le_trans h3.2 (by decide)⟩
theorem lead_sub {w : World} {l : LeadAt} {a : Addr × Obj} {R : Led} : ∀ p ∈ lead4 w l [], p ∈ a :: lead4 w l R := by
  intro p hp
  simp only [List.mem_cons, List.not_mem_nil, or_false] at hp ⊢
  rcases hp with h | h | h | h
  · exact .inr (.inl h)
  · exact .inr (.inr (.inl h))
  · exact .inr (.inr (.inr (.inl h)))
  · exact .inr (.inr (.inr (.inr (.inl h))))
theorem mem5 {x a b c d e : Addr × Obj} {R : Led} (h : x ∈ R) : x ∈ a :: b :: c :: d :: e :: R := .tail _ (.tail _ (.tail _ (.tail _ (.tail _ h))))
theorem mem6 {x a b c d e f : Addr × Obj} {R : Led} (h : x ∈ R) : x ∈ a :: b :: c :: d :: e :: f :: R := .tail _ (mem5 h)
theorem not_in1 {z a : Str} (h : [a].contains z = false) : z ≠ a := by
  intro e
  rw [e] at h
  simp at h
theorem not_in2 {z a b : Str} (h : [a, b].contains z = false) : z ≠ a ∧ z ≠ b := by
  constructor <;> (intro e; rw [e] at h; simp at h)
theorem ent_at {first : Int} {es : List WEnt} {rest : Led} (h8 : es.length = 8) (hwt : WT first es) (hes : ∀ e ∈ es, (e.1, listOf e.2.toArray 0) ∈ rest) {k : Int} (hk : 0 ≤ k ∧ k < 8) : ∃ e : WEnt, es[k.toNat]? = some e ∧ StrsAre e.2 (wordF first k) ∧ (e.1, listOf e.2.toArray 0) ∈ rest := by
  have hlt : k.toNat < es.length := by omega
  refine ⟨es[k.toNat], List.getElem?_eq_getElem hlt, ?_, hes _ (List.getElem_mem hlt)⟩
  have h := hwt k.toNat _ (List.getElem?_eq_getElem hlt)
  rw [Int.toNat_of_nonneg hk.1] at h
  exact h
section
variable {prog : Program} {w : World} {A : Around} {E : Value → Shared → Prop} {s : Shared} {h₀ : Heap} {L l : Addr} {news : Led} {es : List WEnt} {nn : Nat} {value slice : PySem.Expr} {k : Int} {u : Tok} {e : WEnt} {Q : Value → Shared → Prop}
theorem refs_item (N : News h₀ L s.heap news) (hm : (l, listOf (wRefs es).toArray nn) ∈ news) (hk : 0 ≤ k ∧ k < 8) (he : es[k.toNat]? = some e) (h : Q (.ref e.1) s)
    (hs : subscripted slice false (.ref l) (.int k u) = operate [.ref l, .int k u] (getItem (.ref l) (.int k u)) := by with_unfolding_all rfl) :
    wpAny (model prog w) A (subscriptTail value slice (.ref l) (.int k u)) Q E s := by
  have hl : s.heap.IsList l (wRefs es).toArray := ⟨_, (N _ hm).1, rfl, nn, rfl⟩
  have hx : (wRefs es).toArray[k.toNat]? = some (.ref e.1) := by
    have h1 : (wRefs es)[k.toNat]? = some (.ref e.1) := by
      unfold wRefs
      rw [List.getElem?_map, he]
      rfl
    simpa using h1
  exact tail_any hl.typeIs slot_list_getitem.lookup (wpAny_getItem_list hl hk.1 (by omega) hx h) hs
end
theorem col_start (first : Int) (ws : List Int) (kind : Int) : (0 : Int) = colFold first ws kind [] := rfl
theorem col_yes {first c kind o : Int} {ws pre : List Int} (h : c = colFold first ws kind pre) (h1 : holdsF (wordF first kind) (wordF first o) = true) (h2 : (((wordF first o).length : Int) - ((wordF first kind).length : Int)).fmod 2 = 0) : c + ws.getD o.toNat 0 = colFold first ws kind (pre ++ [o]) := by
  unfold colFold at *
  rw [List.foldl_append, List.foldl_cons, List.foldl_nil, ← h]
  unfold colStep
  rw [if_pos h1]
  exact (if_pos h2).symm
theorem col_no {first c kind o : Int} {ws pre : List Int} (h : c = colFold first ws kind pre) (h1 : holdsF (wordF first kind) (wordF first o) = true) (h2 : (((wordF first o).length : Int) - ((wordF first kind).length : Int)).fmod 2 ≠ 0) : c - ws.getD o.toNat 0 = colFold first ws kind (pre ++ [o]) := by
  unfold colFold at *
  rw [List.foldl_append, List.foldl_cons, List.foldl_nil, ← h]
  unfold colStep
  rw [if_pos h1]
  exact (if_neg h2).symm
theorem col_out {first c kind o : Int} {ws pre : List Int} (h : c = colFold first ws kind pre) (h1 : holdsF (wordF first kind) (wordF first o) = false) : c = colFold first ws kind (pre ++ [o]) := by
  unfold colFold at *
  rw [List.foldl_append, List.foldl_cons, List.foldl_nil, ← h]
  unfold colStep
  rw [if_neg (by rw [h1]; exact Bool.false_ne_true)]
section
variable {prog : Program} {w : World} {A : Around} {E : Value → Shared → Prop} {s : Shared} {h₀ : Heap} {L l : Addr} {news : Led} {vs : List Value} {ns : List Int} {nn : Nat} {value slice : PySem.Expr} {k : Int} {u : Tok} {Q : Value → Shared → Prop}
theorem ints_item (N : News h₀ L s.heap news) (hm : (l, listOf vs.toArray nn) ∈ news) (hi : IntsAre vs ns) (hl : ns.length = 8) (hk : 0 ≤ k ∧ k < 8) (h : ∀ t, Q (.int (ns.getD k.toNat 0) t) s)
    (hs : subscripted slice false (.ref l) (.int k u) = operate [.ref l, .int k u] (getItem (.ref l) (.int k u)) := by with_unfolding_all rfl) :
    wpAny (model prog w) A (subscriptTail value slice (.ref l) (.int k u)) Q E s := by
  have hls : s.heap.IsList l vs.toArray := ⟨_, (N _ hm).1, rfl, nn, rfl⟩
  have hlt : k.toNat < ns.length := by omega
  obtain ⟨t', e⟩ := hi.get k.toNat (ns.getD k.toNat 0) (by rw [List.getD_eq_getElem?_getD, List.getElem?_eq_getElem hlt]; rfl)
  exact tail_any hls.typeIs slot_list_getitem.lookup (wpAny_getItem_list hls hk.1 (by omega) (x := .int _ t') (by simpa using e) (h t')) hs
end
theorem cst_end {σ : Type} {x : Str} {h₀ : Heap} {Led : σ → List (Addr × Obj)} {ps : σ → List (Str × Value)} {Facts : σ → Prop} {stored : List Str} {m₀ : Str → Option Value} {P : List Int → σ → Prop} {pre : List Int} (c : σ) {L : Addr} {m' : Str → Option Value} {own : List (Addr × Obj)} {adr : List Addr} {s₁ : Shared} {h' : Heap} {tk : Nat}
    (F : Fr h₀ L h' m') (N : News h₀ L h' (Led c ++ own)) (ha : (Led c).map (·.1) = adr) (hf : Facts c) (hk : ∀ p ∈ ps c, m' p.1 = some p.2) (hr : ∀ z, z ≠ x → (∀ p ∈ ps c, z ≠ p.1) → stored.contains z = false → m' z = m₀ z) (hp : P pre c) :
    InvEndN h₀ L (KstS Led ps Facts x stored m₀ P pre) own adr s₁ { s₁ with heap := h', toks := tk } :=
  kst_end c F N (fun _ hp => List.mem_append.mpr (.inl hp)) (fun _ hp => List.mem_append.mpr (.inr hp)) ha hf hk hr hp
theorem ws_len (f : Int → Int) : ((rangeKs 0 8).map f).length = 8 := by rw [List.length_map]; exact rangeKs_length _ _

end
section
theorem fresh_Columns : True := by
  w_top off
  k_with_none
  k_with "m mine enter" => (k_dflt (refine' code_def ?z128k1 ?z128k2 ?z128k3 ?z128k4 ?z128k5 ?z128kA ?z128kF ?z128kK ?z128k6 ?z128k7 ?z128k8 ?z128k9 ?z128kB ?_ ?z128c2 ?z128c3 ?z128c4 ?z128c5; (case z128kA => exact rfl); (case z128kF => exact rfl); (case z128kK => assumption); (case z128k1 => k_asm); (case z128k2 => k_asm); (case z128k3 => k_asm); (case z128k4 => k_asm); (case z128k5 => k_asm); (case z128k6 => k_is); (case z128k7 => k_is); (case z128k8 => ktr_room); (case z128k9 => first | exact BindsTo.of_eq rfl | exact binds_K (by k_in) rfl (by k_is) rfl rfl rfl | (refine' kp_binds ?z128kx ?z128ke; (case z128kx => k_in); (case z128ke => exact fun _ => rfl))); (case z128c5 => decide); (case z128kB => exact locs rfl); (case z128c2 => exact rfl); (case z128c3 => exact rfl); (case z128c4 => exact rfl); k_whole; intro zg' zL' zh' zFG' zF' zN' zB' zX' zT'; (try dsimp only); (try k_lift zB'); (try k_fold)))
  k_with "m k_all" => ((refine Mine.allLt_ne ?_; first | assumption | exact And.right (by assumption) | exact And.right (And.right (by assumption)) | exact And.right (And.right (And.right (by assumption))) | exact And.right (And.right (And.right (And.right (by assumption)))) | exact And.right (And.right (And.right (And.right (And.right (by assumption)))))))
  k_with "m mine pull" => (first | (refine' Mine.Pull.head ?z130a; (case z130a => k_all)) | (refine' Mine.Pull.tail ?z130a ?z130b; (case z130a => k_ne); (case z130b => walk_at "mine pull")))
  k_with "m k_all" => ((refine Mine.all_append ?z131a ?z131b; (case z131a => k_all); (case z131b => k_all)))
  k_with "m getItem ref int" => ((k_here; (with_reducible show wpAny _ _ (getItem (Value.ref _) (Value.int (List.getD _ _ _) _)) _ _ _); k_dflt (refine' Mine.kinds_get ?z132k1 ?z132k2 ?z132k3 ?z132k4 ?z132k5 ?_; (case z132k1 => k_asm); (case z132k2 => k_mem); (case z132k3 => with_reducible assumption); (case z132k4 => assumption); (case z132k5 => assumption)); intro zt9 zb9 zc9; walk_say "KINDS"))
  k_with "m mine for" => (((with_reducible rename Fr _ _ _ _ => zlF'); (with_unfolding_all refine' For_invVF zlF' ?z133k1 ?z133k2 ?_; (case z133k1 => exact rfl); (case z133k2 => exact rfl); k_whole)))
  k_with "m mine enterC" => (k_dflt (refine' code_defC ?z134k1 ?z134k2 ?z134k3 ?z134k4 ?z134k5 ?z134kA ?z134kF ?z134kK ?z134k6 ?z134k7 ?z134k8 ?z134k9 ?z134kB ?z134kD ?_ ?z134c2 ?z134c3 ?z134c4; (case z134kA => exact rfl); (case z134kF => exact rfl); (case z134kK => assumption); (case z134k1 => k_asm); (case z134k2 => k_asm); (case z134k3 => k_asm); (case z134k4 => k_asm); (case z134k5 => k_asm); (case z134k6 => k_is); (case z134k7 => k_is); (case z134k8 => ktr_room); (case z134k9 => first | exact BindsTo.of_eq rfl | exact binds_K (by k_in) rfl (by k_is) rfl rfl rfl | (refine' kp_binds ?z134kx ?z134ke; (case z134kx => k_in); (case z134ke => exact fun _ => rfl))); (case z134kB => exact rfl); (case z134kD => decide +kernel); (case z134c2 => exact rfl); (case z134c3 => exact rfl); (case z134c4 => exact rfl); k_whole; intro zg' zL' zh' ztk' zcells' zFG' zF' zN' zY' zB' zX' zT' zl1; (try k_lt zl1); k_cells zY'; (try simp only [List.cons_append, List.nil_append] at zN'); (try dsimp only); (try k_lift zB'); (try k_fold)))
  k_with "m mine news" => (((with_reducible rename News _ _ _ _ => znX9); with_reducible (first | exact znX9 | exact Mine.news_tl znX9 | exact Mine.news_tl (Mine.news_tl znX9) | exact Mine.news_tl (Mine.news_tl (Mine.news_tl znX9)) | exact Mine.news_tl (Mine.news_tl (Mine.news_tl (Mine.news_tl znX9))) | exact Mine.news_tl (Mine.news_tl (Mine.news_tl (Mine.news_tl (Mine.news_tl znX9)))) | exact Mine.news_tl (Mine.news_tl (Mine.news_tl (Mine.news_tl (Mine.news_tl (Mine.news_tl znX9))))))))
  k_with "m k_all" => (with_reducible assumption)
  exact trivial
noncomputable def Leaf (p : Prop) : Prop := p
theorem leaf_in {p : Prop} (h : Leaf p) : p := h
theorem rules_Columns_1 : True := by
  k_with "m InvEndN" => ((k_here; refine leaf_in ?_; walk_say "LEAF"))
  k_with "m call ref" => ((k_here; (with_reducible show wpAny _ _ (call (Value.ref 94) _) _ _ _); k_dflt (refine' ctr_use (ctr_sub (pre := lead4 _ _ []) (c_indent _ _ _ _ _ ?z138c1 ?z138c2 ?z138c3 ?z138c4) ?z138km) ?z138k1 ?z138k2 ?z138k3 ?z138k4 ?z138k5 ?z138k6 ?z138k7 ?z138k8 ?_; (case z138k4 => k_asm); (case z138km => exact lead_sub); (case z138k1 => k_asm); (case z138k2 => k_asm); (case z138k3 => k_asm); (case z138k5 => k_asm); (case z138k6 => exact rfl); (case z138k7 => ktr_room); (case z138k8 => ktr_units); (case z138c1 => assumption); (case z138c2 => assumption); (case z138c3 => with_reducible assumption); (case z138c4 => with_reducible assumption); rintro zv9 znw9 zh9 ztk9 ⟨ze9, zt9, zf9⟩ zF9 zN9; subst ze9; subst zf9; (try dsimp only); (try k_fold)); walk_say "INDENT"))
  k_with "m subscriptTail Name Name ref int" => ((k_here; (with_reducible show wpAny _ _ (subscriptTail _ _ (Value.ref _) (Value.int _ _)) _ _ _); (with_reducible rename News _ _ _ _ => znX); (with_unfolding_all refine refs_item znX (mem6 (by with_reducible assumption)) (by with_reducible assumption) (by with_reducible assumption) ?_); walk_say "REFS"))
  k_with "m call builtin:len" => ((k_here; (with_reducible show wpAny _ _ (call (Value.builtin "len") [Value.ref _]) _ _ _); (with_reducible rename News _ _ _ _ => znX); (with_unfolding_all refine len_strs znX (mem6 (by with_reducible assumption)) (by with_reducible assumption) (by with_reducible assumption) ?_); intro zt9; walk_say "LEN"))
  k_with "m call ref" => ((k_here; (with_reducible show wpAny _ _ (call (Value.ref 151) _) _ _ _); k_dflt (refine' ctr_use (c_holds _ _ _ _ _ _ _ _ _ ?z141c1 ?z141c2 ?z141c3 ?z141c4 ?z141c5 _ ?z141c6 ?z141c7) ?z141k1 ?z141k2 ?z141k3 ?z141k4 ?z141k5 ?z141k6 ?z141k7 ?z141k8 ?_; (case z141k4 => k_asm); (case z141c6 => exact mem6 (by with_reducible assumption)); (case z141c7 => exact mem6 (by with_reducible assumption)); (case z141k1 => k_asm); (case z141k2 => k_asm); (case z141k3 => k_asm); (case z141k5 => k_asm); (case z141k6 => exact rfl); (case z141k7 => ktr_room); (case z141k8 => ktr_units); (case z141c1 => with_reducible assumption); (case z141c2 => with_reducible assumption); (case z141c3 => exact And.left (by with_reducible assumption)); (case z141c4 => exact And.left (by with_reducible assumption)); (case z141c5 => exact And.right (by with_reducible assumption)); rintro zv9 znw9 zh9 ztk9 ⟨ze9, zf9⟩ zF9 zN9; subst ze9; subst zf9; (try dsimp only); (try k_fold)); walk_say "HOLDS"))
  k_with "m subscriptTail Name Name ref int" => ((k_here; (with_reducible show wpAny _ _ (subscriptTail (Expr.Name (Str.ofString "wholes") _) _ (Value.ref _) (Value.int _ _)) _ _ _); (with_reducible rename News _ _ _ _ => znX); (with_unfolding_all refine ints_item znX (.tail _ (.head _)) (by with_reducible assumption) (ws_len _) (by with_reducible assumption) ?_); intro zt9; walk_say "WHOLES"))
  exact trivial
set_option maxHeartbeats 8000000 in
theorem c_columns (w : World) (l : LeadAt) (cs : List Int) (spare : Int) (ts : Tok) (lp : Addr) (pvs : List Value) (ps : List Int) (pn : Nat) (lw : Addr) (wn : Nat) (es : List WEnt) (first : Int) (hi : IntsAre l.cvs cs) (hcs : CountsOk cs) (hnt : 0 ≤ l.nt ∧ l.nt ≤ 400) (hpi : IntsAre pvs ps) (hps : PrimesOk ps) (rest : Led)
    (hlp : (lp, listOf pvs.toArray pn) ∈ rest) (hlw : (lw, listOf (wRefs es).toArray wn) ∈ rest) (hes : ∀ e ∈ es, (e.1, listOf e.2.toArray 0) ∈ rest) (h8 : es.length = 8) (hwt : WT first es) (hok : ColOk first) :
    Ctr 4 w 158 [.ref l.x, .int spare ts, .ref lp, .ref lw] (lead4 w l rest) (fun v nw => ∃ d vs n, v = .ref d ∧ nw = (d, listOf vs.toArray n) :: lead4 w l rest ∧ IntsAre vs ((rangeKs 0 8).map (colF first ((rangeKs 0 8).map (wholeF l.b l.nt cs ps spare))))) := by
  unfold Ctr
  k_fill
  intro mean mg mb dp un gd cn cs' a ccd cl outer A₀ base h₀ L m s Q E B F X N T hk hd hu hret
  refine wpAny_call ?_
  walk_at "mine enter"
  iterate 8 walk1
  walk_at "mine for"
  iterate 7 walk1
  with_reducible rename Fr _ _ _ _ => lF9
  with_reducible rename News _ _ _ _ => lN9
  with_unfolding_all refine' acc_loop (n := 8) (wholeF l.b l.nt cs ps spare) [Str.ofString "size"] rfl (by assumption) rfl rfl lF9 lN9 ?_ ?_
  · intro pre k t u h tk own vs nn hk hlt hoff hiv kFr kNews
    clear lF9 lN9
    have hk8 : 0 ≤ k ∧ k < 8 := by omega
    have hpk := prod_ok (kind := k) hps
    have hm1 : (lp, listOf pvs.toArray pn) ∈ rest ++ own := List.mem_append.mpr (.inl hlp)
    dsimp only [lead4] at kNews
    simp only [List.cons_append] at kNews
    try k_fold
    iterate 11 walk1
    k_here
    refine' ctr_use (ctr_mem (c_product w lp pvs ps pn k t hpi hps hk8) (mem5 hm1)) ?k1 ?k2 ?k3 ?k4 ?k5 ?k6 ?k7 ?k8 ?_
    case k4 => k_asm
    case k1 => k_asm
    case k2 => k_asm
    case k3 => k_asm
    case k5 => k_asm
    case k6 => exact rfl
    case k7 => ktr_room
    case k8 => ktr_units
    rintro v9 nw9 h9 tk9 ⟨e9, t9, f9⟩ F9 N9
    subst e9
    subst f9
    try dsimp only
    try k_fold
    k_steps
    with_reducible rename Fr _ _ _ _ => lF8
    with_reducible rename News _ _ _ _ => lN8
    simp only [List.push_toArray] at lN8
    exact acc_end (g := wholeF l.b l.nt cs ps spare) lF8 lN8 hiv (by intro z z0 z1; simp only [z0, z1, not_in1 z1, if_false, Bool.false_eq_true])
  · intro u h tk vs nn hiv kFr kNews
    clear lF9 lN9
    dsimp only [lead4] at kNews
    try k_fold
    iterate 8 walk1
    walk_at "mine for"
    iterate 7 walk1
    with_reducible rename Fr _ _ _ _ => lF9
    with_reducible rename News _ _ _ _ => lN9
    with_unfolding_all refine' acc_loop (n := 8) (B := (_, listOf vs.toArray nn) :: lead4 w l rest) (colF first ((rangeKs 0 8).map (wholeF l.b l.nt cs ps spare))) [Str.ofString "count", Str.ofString "other"] rfl (by assumption) rfl rfl lF9 lN9 ?_ ?_
    · intro pre k t u2 h2 tk2 own vs2 nn2 hk hlt hoff hiv2 kFr2 kNews2
      clear lF9 lN9
      have hk8 : 0 ≤ k ∧ k < 8 := by omega
      obtain ⟨ek, hek, hekS, hekM⟩ := ent_at h8 hwt hes hk8
      dsimp only [lead4] at kNews2
      simp only [List.cons_append] at kNews2
      try k_fold
      iterate 5 walk1
      walk_at "mine for"
      iterate 7 walk1
      with_reducible rename Fr _ _ _ _ => lF9
      with_reducible rename News _ _ _ _ => lN9
      with_unfolding_all refine' kst_range (σ := Int × Nat) (n := 8) (fun _ => _) (fun c => [(Str.ofString "count", .int c.1 c.2)]) (fun _ => True) [] (fun pre c => c.1 = colFold first ((rangeKs 0 8).map (wholeF l.b l.nt cs ps spare)) k pre) (0, _) ?hh ?hr ?hs ?hn lF9 lN9 trivial ?hk ?hp ?_ ?_
      case hh => rfl
      case hr => assumption
      case hs => rfl
      case hn => rfl
      case hk => intro p hp; rcases List.mem_singleton.mp hp with rfl; rfl
      case hp => exact col_start _ _ _
      · intro c kPre kN kT kU kH kTk kOwn kEq kLt kOff kFacts kInv kFr3 kNews3
        clear lF9 lN9
        obtain ⟨c0, tc0⟩ := c
        dsimp only at kInv
        dsimp only [kstB] at kFr3
        simp only [List.cons_append] at kNews3
        have hMk9 : KstMark := kstMark
        have ho8 : 0 ≤ kN ∧ kN < 8 := by omega
        obtain ⟨eo, heo, heoS, heoM⟩ := ent_at h8 hwt hes ho8
        have hM1 : (lw, listOf (wRefs es).toArray wn) ∈ (rest ++ own) ++ kOwn := List.mem_append.mpr (.inl (List.mem_append.mpr (.inl hlw)))
        have hM2 : (ek.1, listOf ek.2.toArray 0) ∈ (rest ++ own) ++ kOwn := List.mem_append.mpr (.inl (List.mem_append.mpr (.inl hekM)))
        have hM3 : (eo.1, listOf eo.2.toArray 0) ∈ (rest ++ own) ++ kOwn := List.mem_append.mpr (.inl (List.mem_append.mpr (.inl heoM)))
        have hW1 := hok k hk8
        have hW2 := hok kN ho8
        have hW3 : (wordF first k).length ≤ 1000 := Nat.le_trans hW1.1.1 (by decide)
        have hW4 : (wordF first kN).length ≤ 1000 := Nat.le_trans hW2.1.1 (by decide)
        try k_fold
        k_steps
        · with_reducible rename Fr _ _ _ _ => lF8
          with_reducible rename News _ _ _ _ => lN8
          unfold Leaf
          exact cst_end (c0 + _, _) lF8 lN8 rfl trivial (by intro p hp; rcases List.mem_singleton.mp hp with rfl; with_unfolding_all rfl) (by intro z z0 z1 z2; have z3 := z1 _ (.head _); dsimp only at z3; exact (if_neg z3).trans ((if_neg z0).trans ((if_neg z3).trans (if_neg Bool.false_ne_true)))) (col_yes kInv (by with_reducible assumption) (by with_reducible assumption))
        · with_reducible rename Fr _ _ _ _ => lF8
          with_reducible rename News _ _ _ _ => lN8
          unfold Leaf
          exact cst_end (c0 - _, _) lF8 lN8 rfl trivial (by intro p hp; rcases List.mem_singleton.mp hp with rfl; with_unfolding_all rfl) (by intro z z0 z1 z2; have z3 := z1 _ (.head _); dsimp only at z3; exact (if_neg z3).trans ((if_neg z0).trans ((if_neg z3).trans (if_neg Bool.false_ne_true)))) (col_no kInv (by with_reducible assumption) (by with_reducible assumption))
        · with_reducible rename Fr _ _ _ _ => lF8
          with_reducible rename News _ _ _ _ => lN8
          unfold Leaf
          exact cst_end (c0, _) lF8 lN8 rfl trivial (by intro p hp; rcases List.mem_singleton.mp hp with rfl; with_unfolding_all rfl) (by intro z z0 z1 z2; have z3 := z1 _ (.head _); dsimp only at z3; exact (if_neg z0).trans ((if_neg z3).trans (if_neg Bool.false_ne_true))) (col_out kInv (by with_reducible assumption))
      · intro c kU kH kTk kFacts kInv kFr3 kNews3
        clear lF9 lN9
        obtain ⟨c0, tc0⟩ := c
        dsimp only at kInv
        subst kInv
        dsimp only [kstB] at kFr3
        try k_fold
        k_steps
        with_reducible rename Fr _ _ _ _ => lF8
        with_reducible rename News _ _ _ _ => lN8
        simp only [List.push_toArray] at lN8
        exact acc_end (g := colF first ((rangeKs 0 8).map (wholeF l.b l.nt cs ps spare))) lF8 lN8 hiv2 (by intro z z0 z1; simp only [z0, z1, (not_in2 z1).1, (not_in2 z1).2, List.contains_nil, if_false, Bool.false_eq_true])
    · intro u2 h2 tk2 vs2 nn2 hiv2 kFr2 kNews2
      clear lF9 lN9
      dsimp only [lead4] at kNews2
      try k_fold
      k_steps
      with_reducible rename Fr h₀ L _ _ => lF5
      with_reducible rename News h₀ L _ _ => lN5
      exact hret _ _ _ _ ⟨_, _, _, rfl, rfl, hiv2⟩ lF5 (news_skip1 lN5)

end
section
/-- the signs of a text -/
noncomputable abbrev sg (x : Str) : List Nat := x.cps.toList
theorem str_ext {x y : Str} (h : sg x = sg y) : x = y := by
  cases x; cases y
  congr
  exact Array.toList_inj.mp h
theorem sg_app (x y : Str) : sg (x ++ y) = sg x ++ sg y := Array.toList_append
theorem sg_len (x : Str) : (sg x).length = x.length := rfl
theorem at_iff (x y : Str) (k : Nat) : StrLaws.At x y x.length k ↔ ∃ p q, sg x = p ++ sg y ++ q ∧ p.length = k := by
  unfold StrLaws.At
  rw [StrLaws.subAt_eq, beq_iff_eq]
  constructor
  · rintro ⟨h1, h2⟩
    refine ⟨(sg x).take k, ((sg x).drop k).drop y.length, ?_, ?_⟩
    · have h3 : sg y = ((sg x).drop k).take y.length := h2.symm
      rw [h3, List.append_assoc, List.take_append_drop, List.take_append_drop]
    · rw [List.length_take, sg_len]; omega
  · rintro ⟨p, q, h, rfl⟩
    have hl : x.length = p.length + y.length + q.length := by
      rw [← sg_len, h, List.length_append, List.length_append, sg_len]
    refine ⟨by omega, ?_⟩
    show ((sg x).drop p.length).take y.length = sg y
    rw [h, List.append_assoc, List.drop_left, ← sg_len y, List.take_left]
theorem sg_sub (s : Str) (i j : Nat) : sg (Builtin.Str.strSub s i j) = ((sg s).drop i).take (j - i) := StrLaws.strSub_toList s i j
/-- no match at a place whose sign is not the first one that is sought -/
theorem at_head {x y : Str} {c : Nat} {r p q : List Nat} (hy : sg y = c :: r) {j : Nat} (h : sg x = p ++ q) (ha : StrLaws.At x y x.length (p.length + j)) : q[j]? = some c := by
  obtain ⟨p', q', e, hl⟩ := (at_iff x y _).mp ha
  have h1 : (sg x)[p.length + j]? = some c := by
    rw [e, hy, ← hl, List.append_assoc, List.getElem?_append_right (Nat.le_refl _), Nat.sub_self]
    rfl
  rw [h, List.getElem?_append_right (by omega)] at h1
  rwa [show p.length + j - p.length = j from by omega] at h1
/-- the texts with the separator's signs between them -/
noncomputable def joinL (s : List Nat) : List Str → List Nat
  | [] => []
  | [x] => sg x
  | x :: y :: r => sg x ++ s ++ joinL s (y :: r)
theorem sg_join (sep : Str) : ∀ xs, sg (Str.join sep xs) = joinL (sg sep) xs
  | [] => rfl
  | [x] => rfl
  | x :: y :: r => by
    show sg (x ++ sep ++ Str.join sep (y :: r)) = _
    rw [sg_app, sg_app, sg_join sep (y :: r)]
    rfl
theorem parts_back {T sep : Str} {c : Nat} {s' : List Nat} (hs : sg sep = c :: s') : ∀ (xs : List Str) (P : List Nat) (cuts : List Nat) (f : Nat), xs ≠ [] → (∀ x ∈ xs, c ∉ sg x) → sg T = P ++ joinL (sg sep) xs →
    StrLaws.ChainG T sep T.length P.length cuts f → (∀ k, f ≤ k → ¬ StrLaws.At T sep T.length k) → StrLaws.partsFrom T sep.length P.length cuts = xs
  | [], _, _, _, h, _, _, _, _ => absurd rfl h
  | [x], P, cuts, f, _, hx, hT, hG, hn => by
    have hx' := hx x (.head _)
    cases cuts with
    | nil =>
      show [Builtin.Str.strSub T P.length T.length] = [x]
      congr 1
      apply str_ext
      rw [sg_sub]
      rw [hT, List.drop_left]
      apply List.take_of_length_le
      have hl : T.length = P.length + (joinL (sg sep) [x]).length := by rw [← sg_len, hT, List.length_append]
      omega
    | cons d r =>
      exfalso
      obtain ⟨j, hj⟩ : ∃ j, d = P.length + j := ⟨d - P.length, by have := hG.1; omega⟩
      have h1 := at_head hs hT (j := j) (hj ▸ hG.2.1)
      exact hx' (List.mem_of_getElem? h1)
  | x :: y :: r, P, cuts, f, _, hx, hT, hG, hn => by
    have hx' := hx x (.head _)
    have hT' : sg T = (P ++ sg x ++ sg sep) ++ joinL (sg sep) (y :: r) := by
      rw [hT]
      show P ++ (sg x ++ sg sep ++ joinL (sg sep) (y :: r)) = _
      simp only [List.append_assoc]
    have hA : StrLaws.At T sep T.length (P.length + x.length) := (at_iff _ _ _).mpr ⟨P ++ sg x, joinL (sg sep) (y :: r), hT', by rw [List.length_append, sg_len]⟩
    have hno : ∀ k, P.length ≤ k → k < P.length + x.length → ¬ StrLaws.At T sep T.length k := by
      intro k h1 h2 h3
      obtain ⟨j, hj⟩ : ∃ j, k = P.length + j := ⟨k - P.length, by omega⟩
      have h4 := at_head hs hT (j := j) (hj ▸ h3)
      have h5 : (joinL (sg sep) (x :: y :: r))[j]? = (sg x)[j]? := by
        show (sg x ++ sg sep ++ joinL (sg sep) (y :: r))[j]? = _
        rw [List.append_assoc, List.getElem?_append_left (by rw [sg_len]; omega)]
      rw [h5] at h4
      exact hx' (List.mem_of_getElem? h4)
    cases cuts with
    | nil =>
      have e : f = P.length := hG
      exact absurd hA (hn _ (by omega))
    | cons d rr =>
      obtain ⟨g1, g2, g3, g4⟩ := hG
      have hd : d = P.length + x.length := by
        rcases Nat.lt_trichotomy d (P.length + x.length) with h | h | h
        · exact absurd g2 (hno d g1 h)
        · exact h
        · exact absurd hA (g3 _ (by omega) h)
      have hP : (P ++ sg x ++ sg sep).length = d + sep.length := by rw [List.length_append, List.length_append, sg_len, sg_len, hd]
      have ih := parts_back hs (y :: r) (P ++ sg x ++ sg sep) rr f (by simp) (fun z hz => hx z (.tail _ hz)) hT' (by rw [hP]; exact g4) hn
      show Builtin.Str.strSub T P.length d :: StrLaws.partsFrom T sep.length (d + sep.length) rr = _
      rw [← hP, ih]
      congr 1
      apply str_ext
      rw [sg_sub]
      rw [hT, List.drop_left]
      show (sg x ++ sg sep ++ joinL (sg sep) (y :: r)).take _ = _
      rw [List.append_assoc, hd, show P.length + x.length - P.length = (sg x).length from by rw [sg_len]; omega, List.take_left]
theorem kind_low {sep : Str} (h : Builtin.Str.strKind sep = 1) (x : Str) : ¬ Builtin.Str.strKind x < Builtin.Str.strKind sep := by
  rw [h]
  unfold Builtin.Str.strKind
  split
  · omega
  · split <;> omega
/-- what was joined falls into its pieces again -/
theorem split_join {sep : Str} {c : Nat} {s' : List Nat} (hs : sg sep = c :: s') (hk : Builtin.Str.strKind sep = 1) {xs : List Str} (hne : xs ≠ []) (hx : ∀ x ∈ xs, c ∉ sg x) : Txt.split (Txt.join sep xs) sep = xs := by
  have hT : sg (Txt.join sep xs) = [] ++ joinL (sg sep) xs := by
    show sg (Builtin.Str.glued sep xs) = _
    rw [StrLaws.glued_eq_join, sg_join]; rfl
  generalize Txt.join sep xs = T at hT
  have hw : 1 ≤ sep.length := by rw [← sg_len, hs]; simp
  obtain ⟨f, hG, hn⟩ := StrLaws.occ_tight T sep hw
  have main := parts_back hs xs [] _ f hne hx hT hG hn
  have hw1 : StrLaws.partsFrom T sep.length 0 [] = [Builtin.Str.strSub T 0 T.length] := rfl
  have hwhole : Builtin.Str.strSub T 0 T.length = T := StrLaws.sub_whole T
  have single : (∀ k, ¬ StrLaws.At T sep T.length k) → xs = [T] := by
    intro h0
    have h1 := parts_back hs xs [] [] 0 hne hx hT rfl fun k _ => h0 k
    rw [← h1]
    show [Builtin.Str.strSub T 0 T.length] = _
    rw [hwhole]
  unfold Txt.split
  split
  · rename_i hc
    rw [Bool.or_eq_true, decide_eq_true_eq, decide_eq_true_eq] at hc
    rcases hc with h | h
    · exact (single fun k hA => by have := hA.1; omega).symm
    · exact absurd h (kind_low hk T)
  · split
    · rename_i he
      rw [List.isEmpty_iff.mp he] at main
      have main' : [Builtin.Str.strSub T 0 T.length] = xs := main
      rw [hwhole] at main'
      exact main'
    · rw [StrLaws.partsBetween_eq]
      exact main
/-- the first place from lo on -/
theorem find4_hit {x y : Str} {i : Nat} {p : Nat} (hi : i ≤ x.length) (h1 : i ≤ p) (hA : StrLaws.At x y x.length p) (hn : ∀ k, i ≤ k → k < p → ¬ StrLaws.At x y x.length k) : find4 x y i x.length = p := by
  have e1 : fromIndex x.length (i : Int) = i := by unfold fromIndex; rw [if_neg (by omega)]; omega
  have e2 : min (fromIndex x.length (x.length : Int)) x.length = x.length := by
    unfold fromIndex; rw [if_neg (by omega)]; omega
  unfold find4
  rw [e1, e2, StrLaws.occ_eq]
  rcases StrLaws.occ_first x y x.length 1 (Nat.le_refl _) (List.range' i (x.length + 1 - i)) i (fun k hk => by simp [List.mem_range'] at hk; omega) with ⟨h0, hno⟩ | ⟨pre, a, post, e, h0, ha, hno⟩
  · exact absurd hA (hno p (by have := hA.1; simp [List.mem_range']; exact ⟨p - i, by omega, by omega⟩))
  · have ea : a = p := by
      have hap : a ∈ List.range' i (x.length + 1 - i) := by rw [e]; simp
      have hia : i ≤ a := by simp [List.mem_range'] at hap; omega
      rcases Nat.lt_trichotomy a p with h | h | h
      · exact absurd ha (hn a hia h)
      · exact h
      · have hlen : pre.length = a - i := by
          have h3 : (List.range' i (x.length + 1 - i))[pre.length]? = some a := by rw [e]; simp
          obtain ⟨hlt, h4⟩ := List.getElem?_eq_some_iff.mp h3
          rw [List.getElem_range'] at h4
          omega
        have hp : p ∈ pre := by
          have h3 : (List.range' i (x.length + 1 - i))[p - i]? = pre[p - i]? := by rw [e, List.getElem?_append_left (by omega)]
          rw [List.getElem?_range' (by have := hA.1; omega)] at h3
          exact List.mem_of_getElem? (h3.symm.trans (by congr 1; omega))
        exact absurd hA (hno p hp)
    subst ea
    cases hL : (forIn (List.range' i (x.length + 1 - i)) ((#[] : Array Nat), i) (StrLaws.occBody x y x.length 1)).run.fst.toList with
    | nil =>
      have : (forIn (List.range' i (x.length + 1 - i)) ((#[] : Array Nat), i) (StrLaws.occBody x y x.length 1)).run.fst = #[] := by
        apply Array.toList_inj.mp; rw [hL]
      rw [this] at h0
      simp at h0
    | cons b r =>
      have h5 : (forIn (List.range' i (x.length + 1 - i)) ((#[] : Array Nat), i) (StrLaws.occBody x y x.length 1)).run.fst.toList[0]? = some a := by
        rw [Array.getElem?_toList]; exact h0
      rw [hL] at h5
      injection h5 with h5
      show (b : Int) = _
      rw [h5]
theorem find4_miss {x y : Str} {i : Nat} (hi : i ≤ x.length) (hn : ∀ k, i ≤ k → ¬ StrLaws.At x y x.length k) : find4 x y i x.length = -1 := by
  have e1 : fromIndex x.length (i : Int) = i := by unfold fromIndex; rw [if_neg (by omega)]; omega
  have e2 : min (fromIndex x.length (x.length : Int)) x.length = x.length := by
    unfold fromIndex; rw [if_neg (by omega)]; omega
  unfold find4
  rw [e1, e2, StrLaws.occ_eq]
  rcases StrLaws.occ_first x y x.length 1 (Nat.le_refl _) (List.range' i (x.length + 1 - i)) i (fun k hk => by simp [List.mem_range'] at hk; omega) with ⟨h0, hno⟩ | ⟨pre, a, post, e, h0, ha, hno⟩
  · rw [h0]
  · exact absurd ha (hn a (by
      have hap : a ∈ List.range' i (x.length + 1 - i) := by rw [e]; simp
      simp [List.mem_range'] at hap; omega))
/-- words between commas, one behind the other -/
noncomputable def blocks : List Str → List Nat
  | [] => []
  | y :: r => 44 :: (sg y ++ 44 :: blocks r)
noncomputable def WordOk (x : Str) : Prop := 44 ∉ sg x ∧ sg x ≠ []
noncomputable def subF : List Str → List Str → Bool
  | [], _ => true
  | _ :: _, [] => false
  | x :: r, y :: q => if x = y then subF r q else subF (x :: r) q
theorem sg_comma (x : Str) : sg (comma x) = 44 :: (sg x ++ [44]) := by
  unfold comma
  rw [sg_app, sg_app, show sg (Str.ofString ",") = [44] from by decide +kernel]
  rfl
theorem prefix_free {a b u v : List Nat} (ha : 44 ∉ a) (hb : 44 ∉ b) (h : a ++ 44 :: u = b ++ 44 :: v) : a = b := by
  induction a generalizing b with
  | nil =>
    cases b with
    | nil => rfl
    | cons z w =>
      injection h with h1 h2
      exact absurd (h1 ▸ List.mem_cons_self ..) hb
  | cons z w ih =>
    cases b with
    | nil =>
      injection h with h1 h2
      exact absurd (h1 ▸ List.mem_cons_self ..) ha
    | cons z' w' =>
      injection h with h1 h2
      rw [h1, ih (fun hh => ha (.tail _ hh)) (fun hh => hb (.tail _ hh)) h2]
theorem blocks_next {ys : List Str} {a : Nat} {t : List Nat} (h : blocks ys = a :: t) : a = 44 := by
  cases ys with
  | nil => cases h
  | cons y r => injection h with h1 _; exact h1.symm
/-- no word but the block's own stands in a block -/
theorem block_no {G x y : Str} {P : List Nat} {r : List Str} (hx : WordOk x) (hy : WordOk y) (hG : sg G = P ++ blocks (y :: r)) (hne : x ≠ y) {k : Nat} (h1 : P.length ≤ k) (h2 : k < P.length + (y.length + 2)) : ¬ StrLaws.At G (comma x) G.length k := by
  intro hA
  obtain ⟨p, q, e, hl⟩ := (at_iff _ _ _).mp hA
  rw [hG, sg_comma] at e
  rcases Nat.lt_or_ge P.length k with h3 | h3
  · obtain ⟨j, rfl⟩ : ∃ j, k = P.length + 1 + j := ⟨k - P.length - 1, by omega⟩
    rcases Nat.lt_or_ge j y.length with h4 | h4
    · have h5 := at_head (c := 44) (r := sg x ++ [44]) (sg_comma x) (p := P ++ [44]) (q := sg y ++ 44 :: blocks r) (by rw [hG]; simp [blocks]) (j := j) (by simpa using hA)
      rw [List.getElem?_append_left (by rw [sg_len]; omega)] at h5
      exact hy.1 (List.mem_of_getElem? h5)
    · have h6 : j = y.length := by omega
      subst h6
      have e2 : P ++ blocks (y :: r) = (P ++ 44 :: sg y) ++ (44 :: blocks r) := by simp [blocks]
      have e3 : p ++ (44 :: (sg x ++ [44])) ++ q = p ++ (44 :: (sg x ++ (44 :: q))) := by simp
      rw [e2, e3] at e
      have h7 := List.append_inj e (by rw [hl, List.length_append, List.length_cons, sg_len]; omega)
      have h8 := h7.2
      injection h8 with _ h9
      cases hs : sg x with
      | nil => exact hx.2 hs
      | cons a t =>
        rw [hs] at h9
        have h10 := blocks_next h9
        exact hx.1 (by rw [hs, h10]; exact List.mem_cons_self ..)
  · have h4 : k = P.length := by omega
    subst h4
    rw [List.append_assoc] at e
    have h7 := (List.append_inj e hl.symm).2
    have h8 : (44 :: (sg y ++ 44 :: blocks r)) = 44 :: (sg x ++ 44 :: q) := by
      rw [show (44 :: (sg x ++ [44])) ++ q = 44 :: (sg x ++ 44 :: q) from by simp] at h7
      exact h7
    injection h8 with _ h9
    exact hne (str_ext (prefix_free hx.1 hy.1 h9.symm))
theorem ell_sub {G : Str} : ∀ (xs ys : List Str) (P : List Nat), (∀ x ∈ xs, WordOk x) → (∀ y ∈ ys, WordOk y) → sg G = P ++ blocks ys → ellGo G G.length (xs.map comma ++ [Str.empty]) P.length = subF xs ys
  | [], ys, P, _, _, hG => by
    have hl : P.length ≤ G.length := by rw [← sg_len, hG, List.length_append]; omega
    have hA : StrLaws.At G Str.empty G.length P.length := (at_iff _ _ _).mpr ⟨P, blocks ys, by rw [hG]; simp [sg, Str.empty], rfl⟩
    rw [show subF [] ys = true from by cases ys <;> rfl]
    show ellGo G G.length [Str.empty] P.length = true
    unfold ellGo
    rw [find4_hit hl (Nat.le_refl _) hA (fun k h1 h2 => by omega), if_neg (by omega)]
    rfl
  | x :: r, [], P, hx, _, hG => by
    have hl : P.length ≤ G.length := by rw [← sg_len, hG, List.length_append]; omega
    have hn : ∀ k, P.length ≤ k → ¬ StrLaws.At G (comma x) G.length k := by
      intro k h1 hA
      have h2 : G.length = P.length := by rw [← sg_len, hG]; simp [blocks]
      have h3 := hA.1
      have h4 := comma_len x
      omega
    show ellGo G G.length (comma x :: (r.map comma ++ [Str.empty])) P.length = false
    unfold ellGo
    rw [find4_miss hl hn, if_pos (by decide)]
  | x :: r, y :: q, P, hx, hy, hG => by
    have hl : P.length ≤ G.length := by rw [← sg_len, hG, List.length_append]; omega
    have hG' : sg G = (P ++ 44 :: (sg y ++ [44])) ++ blocks q := by rw [hG]; simp [blocks]
    have hlen : (P ++ 44 :: (sg y ++ [44])).length = P.length + (y.length + 2) := by rw [List.length_append, List.length_cons, List.length_append, List.length_singleton, sg_len]
    have hl' : (P ++ 44 :: (sg y ++ [44])).length ≤ G.length := by
      have h0 : (sg G).length = _ := congrArg List.length hG'
      rw [List.length_append, sg_len] at h0
      omega
    by_cases e : x = y
    · subst e
      have hA : StrLaws.At G (comma x) G.length P.length := (at_iff _ _ _).mpr ⟨P, blocks q, by rw [sg_comma, hG'], rfl⟩
      have ih := ell_sub r q (P ++ 44 :: (sg x ++ [44])) (fun z hz => hx z (.tail _ hz)) (fun z hz => hy z (.tail _ hz)) hG'
      show ellGo G G.length (comma x :: (r.map comma ++ [Str.empty])) P.length = if x = x then subF r q else subF (x :: r) q
      rw [if_pos rfl, ← ih]
      conv => lhs; unfold ellGo
      rw [find4_hit hl (Nat.le_refl _) hA (fun k h1 h2 => by omega), if_neg (by omega)]
      congr 1
      have h4 := comma_len x
      rw [hlen, h4]
      omega
    · have ih := ell_sub (x :: r) q (P ++ 44 :: (sg y ++ [44])) hx (fun z hz => hy z (.tail _ hz)) hG'
      show ellGo G G.length (comma x :: (r.map comma ++ [Str.empty])) P.length = if x = y then subF r q else subF (x :: r) q
      rw [if_neg e, ← ih]
      show ellGo G G.length (comma x :: (r.map comma ++ [Str.empty])) P.length = ellGo G G.length (comma x :: (r.map comma ++ [Str.empty])) _
      have hf : find4 G (comma x) (P.length : Nat) G.length = find4 G (comma x) ((P ++ 44 :: (sg y ++ [44])).length : Nat) G.length := by
        have hb : ∀ k, P.length ≤ k → k < (P ++ 44 :: (sg y ++ [44])).length → ¬ StrLaws.At G (comma x) G.length k := by
          intro k h1 h2
          rw [hlen] at h2
          exact block_no (hx x (.head _)) (hy y (.head _)) hG e h1 h2
        by_cases hex : ∃ k, (P ++ 44 :: (sg y ++ [44])).length ≤ k ∧ StrLaws.At G (comma x) G.length k
        · obtain ⟨k0, hk0⟩ := hex
          have hmin : ∃ k, ((P ++ 44 :: (sg y ++ [44])).length ≤ k ∧ StrLaws.At G (comma x) G.length k) ∧ ∀ j, j < k → ¬ ((P ++ 44 :: (sg y ++ [44])).length ≤ j ∧ StrLaws.At G (comma x) G.length j) := by
            have : ∀ n, (∃ k, k ≤ n ∧ ((P ++ 44 :: (sg y ++ [44])).length ≤ k ∧ StrLaws.At G (comma x) G.length k)) → ∃ k, ((P ++ 44 :: (sg y ++ [44])).length ≤ k ∧ StrLaws.At G (comma x) G.length k) ∧ ∀ j, j < k → ¬ ((P ++ 44 :: (sg y ++ [44])).length ≤ j ∧ StrLaws.At G (comma x) G.length j) := by
              intro n
              induction n with
              | zero =>
                rintro ⟨k, hk, h⟩
                exact ⟨k, h, fun j hj => by omega⟩
              | succ n ih =>
                rintro ⟨k, hk, h⟩
                by_cases h' : ∃ k, k ≤ n ∧ ((P ++ 44 :: (sg y ++ [44])).length ≤ k ∧ StrLaws.At G (comma x) G.length k)
                · exact ih h'
                · refine ⟨k, h, fun j hj hh => h' ⟨j, by omega, hh⟩⟩
            exact this k0 ⟨k0, Nat.le_refl _, hk0⟩
          obtain ⟨k, ⟨h1, h2⟩, h3⟩ := hmin
          rw [find4_hit hl (by omega) h2 (fun j j1 j2 hA => by
              rcases Nat.lt_or_ge j (P ++ 44 :: (sg y ++ [44])).length with h | h
              · exact hb j j1 h hA
              · exact h3 j j2 ⟨h, hA⟩),
            find4_hit hl' h1 h2 (fun j j1 j2 hA => h3 j j2 ⟨j1, hA⟩)]
        · have hn : ∀ k, (P ++ 44 :: (sg y ++ [44])).length ≤ k → ¬ StrLaws.At G (comma x) G.length k := fun k h1 h2 => hex ⟨k, h1, h2⟩
          rw [find4_miss hl' hn, find4_miss hl (fun k h1 hA => by
            rcases Nat.lt_or_ge k (P ++ 44 :: (sg y ++ [44])).length with h | h
            · exact hb k h1 h hA
            · exact hn k h hA)]
      unfold ellGo
      rw [hf]
theorem sg_got (ys : List Str) : sg (gotF ys) = blocks ys := by
  unfold gotF
  show sg (Builtin.Str.glued _ _) = _
  rw [StrLaws.glued_eq_join, sg_join, show sg (Str.ofString "") = [] from by decide +kernel]
  induction ys with
  | nil => rfl
  | cons y r ih =>
    cases r with
    | nil =>
      show sg (comma y) = _
      rw [sg_comma]; rfl
    | cons z q =>
      show sg (comma y) ++ [] ++ joinL [] ((z :: q).map comma) = _
      rw [ih, sg_comma]
      simp [blocks]
/-- one list of words holds the other: the words stand in it, in their order -/
theorem holds_sub {xs ys : List Str} (hx : ∀ x ∈ xs, WordOk x) (hy : ∀ y ∈ ys, WordOk y) : holdsF xs ys = subF xs ys := by
  unfold holdsF askParts
  have h0 := ell_sub (G := gotF ys) xs ys [] hx hy (by rw [sg_got]; rfl)
  rw [← h0]
  have hA : StrLaws.At (gotF ys) Str.empty (gotF ys).length 0 := (at_iff _ _ _).mpr ⟨[], sg (gotF ys), rfl, rfl⟩
  have hf := find4_hit (x := gotF ys) (y := Str.empty) (i := 0) (p := 0) (Nat.zero_le _) (Nat.le_refl _) hA (fun k h1 h2 => by omega)
  conv => lhs; unfold ellGo
  have hf' : find4 (gotF ys) Str.empty 0 (gotF ys).length = 0 := hf
  rw [hf', if_neg (by decide)]
  rfl
theorem ask_ok {xs : List Str} (hne : xs ≠ []) (hx : ∀ x ∈ xs, 46 ∉ sg x) : AskOk xs := by
  have hd : sg (Str.ofString "...") = [46, 46, 46] := by decide +kernel
  have hj : askF xs = Txt.join (Str.ofString "...") (askParts xs) := by
    apply str_ext
    have e1 : sg (Txt.join (Str.ofString "...") (askParts xs)) = joinL [46, 46, 46] (askParts xs) := by
      show sg (Builtin.Str.glued _ _) = _
      rw [StrLaws.glued_eq_join, sg_join, hd]
    have e2 : sg (Txt.join (Str.ofString "...") (xs.map comma)) = joinL [46, 46, 46] (xs.map comma) := by
      show sg (Builtin.Str.glued _ _) = _
      rw [StrLaws.glued_eq_join, sg_join, hd]
    unfold askF
    rw [sg_app, sg_app, e1, e2, hd]
    have tail : ∀ zs : List Str, zs ≠ [] → joinL [46, 46, 46] (zs ++ [Str.empty]) = joinL [46, 46, 46] zs ++ [46, 46, 46] := by
      intro zs
      induction zs with
      | nil => intro h; exact absurd rfl h
      | cons z r ih =>
        intro _
        cases r with
        | nil =>
          show sg z ++ [46, 46, 46] ++ sg Str.empty = sg z ++ [46, 46, 46]
          simp [sg, Str.empty]
        | cons z' r' =>
          show sg z ++ [46, 46, 46] ++ joinL [46, 46, 46] ((z' :: r') ++ [Str.empty]) = sg z ++ [46, 46, 46] ++ joinL [46, 46, 46] (z' :: r') ++ [46, 46, 46]
          rw [ih (by simp)]
          simp only [List.append_assoc]
    have hm : xs.map comma ≠ [] := by simpa using hne
    unfold askParts
    rw [show joinL [46, 46, 46] (Str.empty :: (xs.map comma ++ [Str.empty])) = [46, 46, 46] ++ joinL [46, 46, 46] (xs.map comma ++ [Str.empty]) from by
      cases hz : xs.map comma ++ [Str.empty] with
      | nil => simp at hz
      | cons a b => rfl, tail _ hm]
    simp only [List.append_assoc]
  constructor
  · have h := (StrLaws.found_iff (askF xs) (Str.ofString "...")).mpr ⟨0, (at_iff _ _ _).mpr ⟨[], sg (Txt.join (Str.ofString "...") (xs.map comma)) ++ sg (Str.ofString "..."), by unfold askF; rw [sg_app, sg_app]; simp, rfl⟩⟩
    simpa using h
  · rw [hj]
    refine split_join hd (by decide +kernel) (by simp [askParts]) ?_
    intro x hm
    unfold askParts at hm
    rcases List.mem_cons.mp hm with rfl | hm
    · simp [sg, Str.empty]
    · rcases List.mem_append.mp hm with hm | hm
      · obtain ⟨z, hz, rfl⟩ := List.mem_map.mp hm
        rw [sg_comma]
        have := hx z hz
        simp [this]
      · rw [List.mem_singleton.mp hm]
        simp [sg, Str.empty]

end
section
/-- the places of the flags that are told, by their number -/
noncomputable def pfI : Nat → Nat → Int → List Nat
  | 0, i, f => if f = 1 * 2 ^ i then [i] else [999]
  | k + 1, i, f => if Builtin.bitAnd f (flagI i) = 0 then pfI k (i + 1) f else if Builtin.bitXor f (flagI i) = 0 then [i] else i :: pfI k (i + 1) (Builtin.bitXor f (flagI i))
theorem flag_32 : flagName 32 = baseText "0x" 16 (1 * 2 ^ 32) := by decide +kernel
theorem pf_places : ∀ (k i : Nat) (f : Int) (xs : List Str), i + k = 32 → 999 ∉ pfI k i f → pfGo k i f xs = xs ++ (pfI k i f).map flagName
  | 0, i, f, xs, hi, h => by
    unfold pfI at h ⊢
    unfold pfGo
    by_cases e : f = 1 * 2 ^ i
    · rw [if_pos e]
      have e2 : i = 32 := by omega
      rw [e, e2]
      show _ = xs ++ [flagName 32]
      rw [flag_32]
    · rw [if_neg e] at h
      exact absurd (List.mem_cons_self ..) h
  | k + 1, i, f, xs, hi, h => by
    unfold pfI at h ⊢
    unfold pfGo
    by_cases e1 : Builtin.bitAnd f (flagI i) = 0
    · rw [if_pos e1] at h ⊢
      rw [if_pos e1]
      exact pf_places k (i + 1) f xs (by omega) h
    · rw [if_neg e1] at h ⊢
      rw [if_neg e1]
      by_cases e2 : Builtin.bitXor f (flagI i) = 0
      · rw [if_pos e2, if_pos e2]
        rfl
      · rw [if_neg e2] at h ⊢
        rw [if_neg e2, pf_places k (i + 1) _ _ (by omega) (fun hh => h (.tail _ hh))]
        simp
/-- the places, counted from the first one -/
noncomputable def idxF (k : Nat) : List Nat := (if k % 2 = 1 then [0] else []) ++ (if k / 2 % 2 = 1 then [1] else []) ++ (if k / 4 % 2 = 1 then [2] else []) ++ [3]
set_option maxHeartbeats 8000000 in
theorem places_tab : ∀ first : Fin 30, ∀ k : Fin 8, pfI 32 0 (numF ((first.val : Nat) : Int) ((k.val : Nat) : Int)) = (idxF k.val).map (fun j => first.val + j) := by decide +kernel
theorem idx_small : ∀ k : Fin 8, ∀ j ∈ idxF k.val, j < 4 := by decide
theorem idx_ne (k : Nat) : idxF k ≠ [] := by unfold idxF; simp
theorem idx_len : ∀ k : Fin 8, (idxF k.val).length ≤ 4 := by decide
/-- the words of a number -/
noncomputable def wordsL (first k : Nat) : List Str := (idxF k).map fun j => flagName (first + j)
theorem pretty_words {first k : Int} (h : 0 ≤ first ∧ first < 30) (hk : 0 ≤ k ∧ k < 8) : prettyL (numF first k) = wordsL first.toNat k.toNat := by
  obtain ⟨f, rfl⟩ : ∃ f : Nat, first = f := ⟨first.toNat, by omega⟩
  obtain ⟨n, rfl⟩ : ∃ n : Nat, k = n := ⟨k.toNat, by omega⟩
  have e := places_tab ⟨f, by omega⟩ ⟨n, by omega⟩
  dsimp only at e
  unfold prettyL
  rw [pf_places 32 0 _ _ rfl (by
    rw [e]
    intro hm
    obtain ⟨j, hj, ej⟩ := List.mem_map.mp hm
    have := idx_small ⟨n, by omega⟩ j hj
    omega), e]
  show [] ++ _ = _
  rw [List.nil_append, List.map_map]
  rfl
set_option maxHeartbeats 8000000 in
theorem names_ok : ∀ i : Fin 33, (44 ∉ sg (flagName i.val) ∧ 46 ∉ sg (flagName i.val) ∧ sg (flagName i.val) ≠ []) := by decide +kernel
set_option maxHeartbeats 8000000 in
theorem names_ne : ∀ i : Fin 30, ∀ j : Fin 4, ∀ k : Fin 4, flagName (i.val + j.val) = flagName (i.val + k.val) → j = k := by decide +kernel
theorem name_20 {i : Nat} (h : i < 33) : (flagName i).length ≤ 20 := by
  rcases Nat.lt_or_ge i 32 with h1 | h1
  · exact Nat.le_trans (name_size h1) (by decide)
  · have : i = 32 := by omega
    subst this
    decide +kernel
theorem words_mem {first k : Int} (h : 0 ≤ first ∧ first < 30) (hk : 0 ≤ k ∧ k < 8) : ∀ x ∈ wordsL first.toNat k.toNat, ∃ i : Nat, i < 33 ∧ x = flagName i := by
  intro x hx
  obtain ⟨j, hj, rfl⟩ := List.mem_map.mp hx
  have := idx_small ⟨k.toNat, by omega⟩ j hj
  exact ⟨first.toNat + j, by omega, rfl⟩
theorem words_ne (first k : Nat) : wordsL first k ≠ [] := by
  unfold wordsL
  intro h
  exact idx_ne k (List.map_eq_nil_iff.mp h)
theorem word_is {first k : Int} (h : 0 ≤ first ∧ first < 30) (hk : 0 ≤ k ∧ k < 8) : wordF first k = wordsL first.toNat k.toNat := by
  unfold wordF
  rw [pretty_words h hk]
  refine split_join (c := 44) (s' := [32]) (by decide +kernel) (by decide +kernel) (words_ne _ _) ?_
  intro x hx
  obtain ⟨i, hi, rfl⟩ := words_mem h hk x hx
  exact (names_ok ⟨i, hi⟩).1
theorem words_len {first k : Int} (hk : 0 ≤ k ∧ k < 8) : (wordsL first.toNat k.toNat).length ≤ 4 := by
  unfold wordsL
  rw [List.length_map]
  exact idx_len ⟨k.toNat, by omega⟩
theorem words_size {first : Int} (h : 0 ≤ first ∧ first < 30) : ∀ k : Int, 0 ≤ k ∧ k < 8 → (Txt.join (Str.ofString ", ") (prettyL (numF first k))).length + 2 ≤ sizeLine := by
  intro k hk
  rw [pretty_words h hk]
  have h0 := StrLaws.join_length_le (Str.ofString ", ") (wordsL first.toNat k.toNat)
  have e : Txt.join (Str.ofString ", ") (wordsL first.toNat k.toNat) = Str.join (Str.ofString ", ") (wordsL first.toNat k.toNat) := StrLaws.glued_eq_join _ _
  rw [e]
  have h1 : ((wordsL first.toNat k.toNat).map (·.length)).sum ≤ (wordsL first.toNat k.toNat).length * 20 := by
    have : ∀ l : List Str, (∀ x ∈ l, x.length ≤ 20) → (l.map (·.length)).sum ≤ l.length * 20 := by
      intro l
      induction l with
      | nil => intro _; exact Nat.le_refl _
      | cons a r ih =>
        intro hl
        have h1 := hl a (.head _)
        have h2 := ih fun x hx => hl x (.tail _ hx)
        simp only [List.map_cons, List.sum_cons, List.length_cons]
        omega
    refine this _ fun x hx => ?_
    obtain ⟨i, hi, rfl⟩ := words_mem h hk x hx
    exact name_20 hi
  have h2 := words_len (first := first) hk
  have h3 : (Str.ofString ", ").length = 2 := by decide +kernel
  rw [h3] at h0
  rw [sizeLine_eq]
  omega
theorem col_ok {first : Int} (h : 0 ≤ first ∧ first < 30) : ColOk first := by
  intro k hk
  rw [word_is h hk]
  refine ⟨⟨Nat.le_trans (words_len (first := first) hk) (by decide), ?_⟩, ask_ok (words_ne _ _) ?_⟩
  · intro x hx
    obtain ⟨i, hi, rfl⟩ := words_mem h hk x hx
    exact name_20 hi
  · intro x hx
    obtain ⟨i, hi, rfl⟩ := words_mem h hk x hx
    exact (names_ok ⟨i, hi⟩).2.1
noncomputable def subN : List Nat → List Nat → Bool
  | [], _ => true
  | _ :: _, [] => false
  | x :: r, y :: q => if x = y then subN r q else subN (x :: r) q
theorem sub_map {f : Nat → Str} : ∀ (xs ys : List Nat), (∀ a ∈ xs, ∀ b ∈ ys, f a = f b → a = b) → subF (xs.map f) (ys.map f) = subN xs ys
  | [], ys, _ => by cases ys <;> rfl
  | x :: r, [], _ => rfl
  | x :: r, y :: q, h => by
    show (if f x = f y then subF (r.map f) (q.map f) else subF ((x :: r).map f) (q.map f)) = if x = y then subN r q else subN (x :: r) q
    by_cases e : x = y
    · rw [if_pos e, if_pos (e ▸ rfl)]
      exact sub_map r q fun a ha b hb => h a (.tail _ ha) b (.tail _ hb)
    · rw [if_neg e, if_neg fun hh => e (h x (.head _) y (.head _) hh)]
      exact sub_map (x :: r) q fun a ha b hb => h a ha b (.tail _ hb)
theorem holds_is {first k o : Int} (h : 0 ≤ first ∧ first < 30) (hk : 0 ≤ k ∧ k < 8) (ho : 0 ≤ o ∧ o < 8) : holdsF (wordF first k) (wordF first o) = subN (idxF k.toNat) (idxF o.toNat) := by
  rw [word_is h hk, word_is h ho]
  have wok : ∀ k : Int, 0 ≤ k ∧ k < 8 → ∀ x ∈ wordsL first.toNat k.toNat, WordOk x := by
    intro k hk x hx
    obtain ⟨i, hi, rfl⟩ := words_mem h hk x hx
    have := names_ok ⟨i, hi⟩
    exact ⟨this.1, this.2.2⟩
  rw [holds_sub (wok k hk) (wok o ho)]
  unfold wordsL
  refine sub_map (f := fun j => flagName (first.toNat + j)) _ _ ?_
  intro a ha b hb e
  have h1 := idx_small ⟨k.toNat, by omega⟩ a ha
  have h2 := idx_small ⟨o.toNat, by omega⟩ b hb
  have := names_ne ⟨first.toNat, by omega⟩ ⟨a, h1⟩ ⟨b, h2⟩ e
  exact congrArg Fin.val this
theorem len_is {first k : Int} (h : 0 ≤ first ∧ first < 30) (hk : 0 ≤ k ∧ k < 8) : (wordF first k).length = (idxF k.toNat).length := by
  rw [word_is h hk]
  unfold wordsL
  rw [List.length_map]

end
section
noncomputable def sumTo (g : Nat → Int) : Nat → Int
  | 0 => 0
  | n + 1 => sumTo g n + g n
theorem sumTo_ext {g h : Nat → Int} : ∀ {n : Nat}, (∀ i, i < n → g i = h i) → sumTo g n = sumTo h n
  | 0, _ => rfl
  | n + 1, e => by
    show sumTo g n + g n = sumTo h n + h n
    rw [sumTo_ext fun i hi => e i (by omega), e n (by omega)]
theorem sumTo_zero {g : Nat → Int} {n : Nat} (e : ∀ i, i < n → g i = 0) : sumTo g n = 0 := by
  induction n with
  | zero => rfl
  | succ n ih =>
    show sumTo g n + g n = 0
    rw [ih fun i hi => e i (by omega), e n (by omega)]; rfl
theorem sumTo_tail {g : Nat → Int} {m n : Nat} (h : m ≤ n) (e : ∀ i, m ≤ i → g i = 0) : sumTo g n = sumTo g m := by
  induction n with
  | zero => rw [show m = 0 from by omega]
  | succ n ih =>
    rcases Nat.lt_or_ge n m with h1 | h1
    · rw [show m = n + 1 from by omega]
    · show sumTo g n + g n = _
      rw [ih h1, e n h1]; omega
theorem sumTo_add (g h : Nat → Int) : ∀ n, sumTo (fun i => g i + h i) n = sumTo g n + sumTo h n
  | 0 => rfl
  | n + 1 => by
    show sumTo (fun i => g i + h i) n + (g n + h n) = (sumTo g n + g n) + (sumTo h n + h n)
    rw [sumTo_add g h n]; omega
theorem sumTo_one {f : Nat → Int} {r : Nat} : ∀ {n : Nat}, r < n → sumTo (fun i => if i = r then f i else 0) n = f r
  | 0, h => absurd h (Nat.not_lt_zero _)
  | n + 1, h => by
    show sumTo (fun i => if i = r then f i else 0) n + (if n = r then f n else 0) = f r
    by_cases e : n = r
    · rw [if_pos e, sumTo_zero fun i hi => if_neg (by omega), e]; omega
    · rw [if_neg e, sumTo_one (by omega)]; omega
theorem rangeKs_snoc (a : Int) (n : Nat) : rangeKs a (n + 1) = rangeKs a n ++ [a + (n : Int)] := by
  unfold rangeKs
  rw [List.range_succ, List.map_append]
  rfl
theorem ilFold_sum (cs : List Int) (P : Nat) (hP : 1 ≤ P) : ∀ n : Nat, ilFold cs (P : Int) (rangeKs P n) = sumTo (fun i => ((i : Int).fdiv (P : Int)) * cs.getD i 0) (P + n)
  | 0 => by
    have h : sumTo (fun i => ((i : Int).fdiv (P : Int)) * cs.getD i 0) P = 0 := sumTo_zero fun i hi => by
      rw [Int.fdiv_eq_zero_of_lt (by omega) (by omega), Int.zero_mul]
    rw [Nat.add_zero, h]
    rfl
  | n + 1 => by
    rw [rangeKs_snoc]
    unfold ilFold
    rw [List.foldl_append, List.foldl_cons, List.foldl_nil]
    have ih := ilFold_sum cs P hP n
    unfold ilFold at ih
    rw [ih]
    show ilStep cs P _ ((P : Int) + (n : Int)) = sumTo _ (P + n) + ((P + n : Nat) : Int).fdiv (P : Int) * cs.getD (P + n) 0
    unfold ilStep
    rw [show ((P : Int) + (n : Int)).toNat = P + n from by omega, show (P : Int) + (n : Int) = ((P + n : Nat) : Int) from by omega]
theorem getD_out {cs : List Int} {i : Nat} (h : cs.length ≤ i) : cs.getD i 0 = 0 := by
  rw [List.getD_eq_getElem?_getD, List.getElem?_eq_none h]
  rfl
/-- the whole sizes in all the runs -/
theorem il_sum {cs : List Int} {P : Int} (hP : 1 ≤ P) {N : Nat} (hN : cs.length ≤ N) : ilF cs P = sumTo (fun i => (i : Int).fdiv P * cs.getD i 0) N := by
  obtain ⟨p, rfl⟩ : ∃ p : Nat, P = p := ⟨P.toNat, by omega⟩
  unfold ilF
  rw [ilFold_sum cs p (by omega)]
  have hz : ∀ i, cs.length ≤ i → (fun i : Nat => (i : Int).fdiv (p : Int) * cs.getD i 0) i = 0 := fun i hi => by
    show _ * cs.getD i 0 = 0
    rw [getD_out hi, Int.mul_zero]
  rcases Nat.lt_or_ge cs.length p with h | h
  · rw [show p + ((cs.length : Int) - (p : Int)).toNat = p from by omega]
    rw [sumTo_tail hN hz, sumTo_tail (Nat.le_of_lt h) hz]
  · rw [show p + ((cs.length : Int) - (p : Int)).toNat = cs.length from by omega]
    exact (sumTo_tail hN hz).symm
theorem flat_zero : ∀ k : Nat, (List.replicate k [(0 : Int)]).flatten = List.replicate k 0
  | 0 => rfl
  | k + 1 => by
    rw [List.replicate_succ, List.flatten_cons, flat_zero k]
    rfl
theorem bump_length {cs : List Int} {r : Int} (hr : 0 ≤ r) : (wsBump cs r).length = max cs.length (r.toNat + 1) := by
  unfold wsBump wsGrow
  rw [List.length_set]
  split
  · rw [List.length_append, flat_length]; omega
  · omega
theorem grow_getD (cs : List Int) (r : Int) (i : Nat) : (wsGrow cs r).getD i 0 = cs.getD i 0 := by
  unfold wsGrow
  split
  · rw [flat_zero, List.getD_eq_getElem?_getD, List.getD_eq_getElem?_getD]
    rcases Nat.lt_or_ge i cs.length with h | h
    · rw [List.getElem?_append_left h]
    · rw [List.getElem?_append_right h, List.getElem?_eq_none h, List.getElem?_replicate]
      split <;> rfl
  · rfl
theorem bump_getD {cs : List Int} {r : Int} (hr : 0 ≤ r) (i : Nat) : (wsBump cs r).getD i 0 = cs.getD i 0 + (if i = r.toNat then 1 else 0) := by
  have hl : r.toNat < (wsGrow cs r).length := by
    have := bump_length (cs := cs) hr
    unfold wsBump at this
    rw [List.length_set] at this
    omega
  unfold wsBump
  by_cases e : i = r.toNat
  · subst e
    rw [if_pos rfl, List.getD_eq_getElem?_getD, List.getElem?_set_self hl, ← grow_getD cs r]
    rfl
  · rw [if_neg e, List.getD_eq_getElem?_getD, List.getElem?_set_ne (by omega), ← List.getD_eq_getElem?_getD, grow_getD]
    omega
/-- the lead's signs: for each run so many blanks and a tab, then the spare blanks -/
noncomputable def runL (r : Int) : List Int := List.replicate r.toNat 32 ++ [9]
noncomputable def leadL (rs : List Int) (spare : Int) : List Int := rs.flatMap runL ++ List.replicate spare.toNat 32
theorem ws_blanks (s : WsS) : ∀ n : Nat, (List.replicate n (32 : Int)).foldl wsStep s = ⟨s.cs, s.b + n, s.n + n, s.nt⟩
  | 0 => by
    show s = _
    cases s; simp
  | n + 1 => by
    rw [List.replicate_succ, List.foldl_cons]
    have e : wsStep s 32 = ⟨s.cs, s.b + 1, s.n + 1, s.nt⟩ := if_pos rfl
    rw [e, ws_blanks _ n]
    show (⟨s.cs, s.b + 1 + n, s.n + 1 + n, s.nt⟩ : WsS) = ⟨s.cs, s.b + (n + 1 : Nat), s.n + (n + 1 : Nat), s.nt⟩
    congr 1 <;> omega
theorem ws_run (s : WsS) {r : Int} (hb : s.b = 0) (hr : 0 ≤ r) : (runL r).foldl wsStep s = ⟨wsBump s.cs r, 0, s.n + r + 1, s.nt + 1⟩ := by
  unfold runL
  rw [List.foldl_append, ws_blanks, List.foldl_cons, List.foldl_nil]
  have e : ∀ t : WsS, wsStep t 9 = ⟨wsBump t.cs t.b, 0, t.n + 1, t.nt + 1⟩ := fun t => if_neg (by decide)
  rw [e]
  show (⟨wsBump s.cs (s.b + (r.toNat : Int)), 0, s.n + (r.toNat : Int) + 1, s.nt + 1⟩ : WsS) = _
  rw [show s.b + (r.toNat : Int) = r from by omega, show s.n + (r.toNat : Int) = s.n + r from by omega]
noncomputable def bumps (rs : List Int) (cs : List Int) : List Int := rs.foldl wsBump cs
theorem ws_runs : ∀ (rs : List Int) (s : WsS), s.b = 0 → (∀ r ∈ rs, 0 ≤ r) → ∃ n, (rs.flatMap runL).foldl wsStep s = ⟨bumps rs s.cs, 0, n, s.nt + rs.length⟩
  | [], s, hb, _ => ⟨s.n, by
    show s = (⟨s.cs, 0, s.n, s.nt + 0⟩ : WsS)
    cases s
    simp at hb
    subst hb
    simp⟩
  | r :: q, s, hb, h => by
    rw [List.flatMap_cons, List.foldl_append, ws_run s hb (h r (.head _))]
    obtain ⟨n, e⟩ := ws_runs q ⟨wsBump s.cs r, 0, s.n + r + 1, s.nt + 1⟩ rfl fun z hz => h z (.tail _ hz)
    refine ⟨n, e.trans ?_⟩
    show (⟨bumps q (wsBump s.cs r), 0, n, s.nt + 1 + (q.length : Int)⟩ : WsS) = ⟨bumps (r :: q) s.cs, 0, n, s.nt + ((q.length + 1 : Nat) : Int)⟩
    congr 1
    omega
theorem ws_lead {rs : List Int} {spare : Int} (hs : 0 ≤ spare) (h : ∀ r ∈ rs, 0 ≤ r) : (wsFold (leadL rs spare)).cs = bumps rs [] ∧ (wsFold (leadL rs spare)).b = spare ∧ (wsFold (leadL rs spare)).nt = rs.length := by
  unfold wsFold leadL
  rw [List.foldl_append]
  obtain ⟨n, e⟩ := ws_runs rs ⟨[], 0, 0, 0⟩ rfl h
  rw [e, ws_blanks]
  refine ⟨rfl, ?_, ?_⟩
  · show (0 : Int) + (spare.toNat : Int) = spare
    omega
  · show (0 : Int) + (rs.length : Int) = _
    omega
theorem bumps_ok : ∀ (rs cs : List Int), (∀ r ∈ rs, 0 ≤ r ∧ r ≤ 31) → cs.length ≤ 32 → (bumps rs cs).length ≤ 32
  | [], _, _, h => h
  | r :: q, cs, h, hl => by
    have hr := h r (.head _)
    exact bumps_ok q (wsBump cs r) (fun z hz => h z (.tail _ hz)) (by rw [bump_length hr.1]; omega)
theorem bumps_getD : ∀ (rs cs : List Int), (∀ r ∈ rs, 0 ≤ r) → ∀ i, (bumps rs cs).getD i 0 = cs.getD i 0 + (rs.map fun r => if i = r.toNat then (1 : Int) else 0).sum
  | [], _, _, i => by
    show _ = _ + ([] : List Int).sum
    simp [bumps]
  | r :: q, cs, h, i => by
    show (bumps q (wsBump cs r)).getD i 0 = _
    rw [bumps_getD q _ (fun z hz => h z (.tail _ hz)) i, bump_getD (h r (.head _)), List.map_cons, List.sum_cons]
    omega
theorem ones_range (i : Nat) : ∀ (rs : List Int), 0 ≤ (rs.map fun r => if i = r.toNat then (1 : Int) else 0).sum ∧ (rs.map fun r => if i = r.toNat then (1 : Int) else 0).sum ≤ rs.length
  | [] => ⟨Int.le_refl _, Int.le_refl _⟩
  | r :: q => by
    have ih := ones_range i q
    rw [List.map_cons, List.sum_cons, List.length_cons]
    split <;> omega
theorem counts_ok {rs : List Int} (h : ∀ r ∈ rs, 0 ≤ r ∧ r ≤ 31) (hl : rs.length ≤ 4) : CountsOk (bumps rs []) := by
  refine ⟨Nat.le_trans (bumps_ok rs [] h (by decide)) (by decide), fun i => ?_⟩
  rw [bumps_getD rs [] (fun r hr => (h r hr).1) i]
  have h1 := ones_range i rs
  have h2 : ([] : List Int).getD i 0 = 0 := getD_out (Nat.zero_le _)
  omega
/-- the whole sizes, run by run -/
noncomputable def sizesF (P : Int) (rs : List Int) : Int := (rs.map fun r => r.fdiv P).sum
theorem il_bumps {P : Int} (hP : 1 ≤ P) : ∀ (rs cs : List Int), (∀ r ∈ rs, 0 ≤ r ∧ r ≤ 31) → cs.length ≤ 32 → ilF (bumps rs cs) P = ilF cs P + sizesF P rs
  | [], cs, _, _ => by
    show ilF cs P = ilF cs P + ([] : List Int).sum
    simp
  | r :: q, cs, h, hl => by
    have hr := h r (.head _)
    have hb : (wsBump cs r).length ≤ 32 := by rw [bump_length hr.1]; omega
    show ilF (bumps q (wsBump cs r)) P = _
    rw [il_bumps hP q _ (fun z hz => h z (.tail _ hz)) hb]
    have e : ilF (wsBump cs r) P = ilF cs P + r.fdiv P := by
      rw [il_sum hP hb, il_sum hP hl]
      have e1 : sumTo (fun i => (i : Int).fdiv P * (wsBump cs r).getD i 0) 32 = sumTo (fun i => (i : Int).fdiv P * cs.getD i 0 + (if i = r.toNat then (i : Int).fdiv P else 0)) 32 := sumTo_ext fun i _ => by
        rw [bump_getD hr.1, Int.mul_add]
        split
        · rw [Int.mul_one]
        · rw [Int.mul_zero]
      rw [e1, sumTo_add, sumTo_one (f := fun i => (i : Int).fdiv P) (by omega)]
      show _ + ((r.toNat : Nat) : Int).fdiv P = _
      rw [Int.toNat_of_nonneg hr.1]
    rw [e]
    unfold sizesF
    rw [List.map_cons, List.sum_cons]
    omega
theorem whole_is {rs ps : List Int} {spare kind : Int} (hs : 0 ≤ spare) (h : ∀ r ∈ rs, 0 ≤ r ∧ r ≤ 31) (hp : PrimesOk ps) : wholeF (wsFold (leadL rs spare)).b (wsFold (leadL rs spare)).nt (wsFold (leadL rs spare)).cs ps spare kind = sizesF (prodF ps kind) rs := by
  obtain ⟨e1, e2, e3⟩ := ws_lead hs fun r hr => (h r hr).1
  have hP := (prod_ok (kind := kind) hp).1
  unfold wholeF
  rw [e1, e2, e3, il_bumps hP rs [] h (by decide)]
  have e0 : ilF [] (prodF ps kind) = 0 := by
    rw [il_sum hP (Nat.le_refl _)]; rfl
  rw [e0]
  have e4 : spare + prodF ps kind * (0 + sizesF (prodF ps kind) rs + rs.length) - spare = prodF ps kind * (0 + sizesF (prodF ps kind) rs + rs.length) := by omega
  rw [e4, Int.mul_fdiv_cancel_left _ (by omega)]
  omega

end
section
noncomputable def addsF (ks : List Int) (i : Nat) (v : Int → Int) (pre : List Int) : Int := (pre.map fun n => if (ks.getD n.toNat 0).toNat = i then v n else 0).sum
theorem tally_getD {ks told : List Int} {n v : Int} {i : Nat} (hi : i < told.length) : (tally ks told n v).getD i 0 = told.getD i 0 + (if (ks.getD n.toNat 0).toNat = i then v else 0) := by
  unfold tally
  by_cases e : (ks.getD n.toNat 0).toNat = i
  · rw [if_pos e, e, List.getD_eq_getElem?_getD, List.getElem?_set_self hi]
    rfl
  · rw [if_neg e, List.getD_eq_getElem?_getD, List.getElem?_set_ne e, ← List.getD_eq_getElem?_getD]
    omega
theorem fold_getD (ks : List Int) (v : Int → Int) (i : Nat) : ∀ (pre told : List Int), i < told.length → (pre.foldl (fun t n => tally ks t n (v n)) told).getD i 0 = told.getD i 0 + addsF ks i v pre
  | [], told, _ => by
    show told.getD i 0 = told.getD i 0 + ([] : List Int).sum
    simp
  | n :: r, told, h => by
    rw [List.foldl_cons, fold_getD ks v i r _ (by rw [tally_length]; exact h), tally_getD h]
    unfold addsF
    rw [List.map_cons, List.sum_cons]
    omega
theorem fold_length (ks : List Int) (v : Int → Int) : ∀ (pre told : List Int), (pre.foldl (fun t n => tally ks t n (v n)) told).length = told.length
  | [], _ => rfl
  | n :: r, told => by rw [List.foldl_cons, fold_length ks v r, tally_length]
noncomputable def zeros8 : List Int := List.replicate 8 0
theorem zeros_getD (i : Nat) : zeros8.getD i 0 = 0 := by
  unfold zeros8
  rw [List.getD_eq_getElem?_getD, List.getElem?_replicate]
  split <;> rfl
theorem half_getD (rs ks pre : List Int) {i : Nat} (hi : i < 8) : (halfFold rs ks pre).getD i 0 = addsF ks i (fun n => (cntGe rs n : Int)) pre := by
  unfold halfFold
  have h := fold_getD ks (fun n => (cntGe rs n : Int)) i pre zeros8 (by show i < 8; exact hi)
  rw [zeros_getD] at h
  have h' := h.trans (Int.zero_add _)
  exact h'
theorem half_length (rs ks pre : List Int) : (halfFold rs ks pre).length = 8 := fold_length ks (fun n => (cntGe rs n : Int)) pre _
theorem one_getD (ks : List Int) {i : Nat} (hi : i < 8) : ∀ (rs told : List Int), told.length = 8 → (rs.foldl (fun told r => oneTurn ks told (rangeKs 1 r.toNat)) told).getD i 0 = told.getD i 0 + (rs.map fun r => addsF ks i (fun _ => 1) (rangeKs 1 r.toNat)).sum
  | [], told, _ => by
    show told.getD i 0 = told.getD i 0 + ([] : List Int).sum
    simp
  | r :: q, told, h => by
    rw [List.foldl_cons, one_getD ks hi q _ (by rw [oneTurn_length]; exact h)]
    have e : (oneTurn ks told (rangeKs 1 r.toNat)).getD i 0 = told.getD i 0 + addsF ks i (fun _ => 1) (rangeKs 1 r.toNat) := fold_getD ks (fun _ => 1) i _ _ (by omega)
    rw [e, List.map_cons, List.sum_cons]
    omega
theorem one_length (rs ks : List Int) : (oneFold rs ks).length = 8 := by
  unfold oneFold
  have : ∀ (rs told : List Int), (rs.foldl (fun told r => oneTurn ks told (rangeKs 1 r.toNat)) told).length = told.length := by
    intro rs
    induction rs with
    | nil => intro _; rfl
    | cons r q ih => intro told; rw [List.foldl_cons, ih, oneTurn_length]
  rw [this]; rfl
theorem ext8 {a b : List Int} (ha : a.length = 8) (hb : b.length = 8) (h : ∀ i, i < 8 → a.getD i 0 = b.getD i 0) : a = b := by
  apply List.ext_getElem (by omega)
  intro i h1 h2
  have := h i (by omega)
  rw [List.getD_eq_getElem?_getD, List.getD_eq_getElem?_getD, List.getElem?_eq_getElem h1, List.getElem?_eq_getElem h2] at this
  exact this
/-- what one run tells of a set -/
noncomputable def turnF (ks : List Int) (i : Nat) (r : Int) : Int := addsF ks i (fun _ => 1) (rangeKs 1 r.toNat)
theorem one_sum (rs ks : List Int) {i : Nat} (hi : i < 8) : (oneFold rs ks).getD i 0 = (rs.map (turnF ks i)).sum := by
  unfold oneFold
  have h := one_getD ks hi rs zeros8 rfl
  rw [zeros_getD] at h
  exact h.trans (Int.zero_add _)
theorem adds_plus (ks : List Int) (i : Nat) (u v : Int → Int) : ∀ pre : List Int, addsF ks i (fun n => u n + v n) pre = addsF ks i u pre + addsF ks i v pre
  | [] => rfl
  | n :: r => by
    have ih := adds_plus ks i u v r
    unfold addsF at *
    rw [List.map_cons, List.sum_cons, ih, List.map_cons, List.sum_cons, List.map_cons, List.sum_cons]
    dsimp only
    split <;> omega
theorem adds_ext (ks : List Int) (i : Nat) {u v : Int → Int} (h : ∀ n, u n = v n) (pre : List Int) : addsF ks i u pre = addsF ks i v pre := by
  rw [funext h]
theorem adds_zero (ks : List Int) (i : Nat) : ∀ pre : List Int, addsF ks i (fun _ => 0) pre = 0
  | [] => rfl
  | n :: r => by
    have ih := adds_zero ks i r
    unfold addsF at *
    rw [List.map_cons, List.sum_cons, ih]
    split <;> rfl
theorem half_sum (ks pre : List Int) (i : Nat) : ∀ rs : List Int, addsF ks i (fun n => (cntGe rs n : Int)) pre = (rs.map fun r => addsF ks i (fun n => if n ≤ r then 1 else 0) pre).sum
  | [] => adds_zero ks i pre
  | r :: q => by
    rw [List.map_cons, List.sum_cons, ← half_sum ks pre i q, ← adds_plus]
    refine adds_ext ks i (fun n => ?_) pre
    unfold cntGe
    rw [List.countP_cons]
    by_cases e : n ≤ r
    · simp [e]; omega
    · simp [e]
theorem map_ext_sum {f g : Int → Int} : ∀ {rs : List Int}, (∀ r ∈ rs, f r = g r) → (rs.map f).sum = (rs.map g).sum
  | [], _ => rfl
  | r :: q, h => by
    rw [List.map_cons, List.map_cons, List.sum_cons, List.sum_cons, h r (.head _), map_ext_sum fun z hz => h z (.tail _ hz)]
/-- the three primes -/
noncomputable def primesL : Nat → List Int
  | 0 => [3, 5, 7]
  | 1 => [2, 5, 7]
  | 2 => [2, 3, 7]
  | _ => [2, 3, 5]
theorem primes_ok : ∀ q : Fin 4, PrimesOk (primesL q.val) := by
  intro q
  unfold PrimesOk
  revert q
  decide
noncomputable def kindsL (ps : List Int) : List Int := (rangeKs 0 32).map (kindF ps)
theorem kinds_len (ps : List Int) : (kindsL ps).length = 32 := by
  unfold kindsL
  rw [List.length_map]; exact rangeKs_length _ _
set_option maxHeartbeats 8000000 in
theorem kinds_low : ∀ q : Fin 4, ∀ i : Fin 32, 0 ≤ (kindsL (primesL q.val)).getD i.val 0 ∧ (kindsL (primesL q.val)).getD i.val 0 < 8 := by decide +kernel
theorem kinds_ok (q : Fin 4) (i : Nat) : 0 ≤ (kindsL (primesL q.val)).getD i 0 ∧ (kindsL (primesL q.val)).getD i 0 < 8 := by
  by_cases h : i < 32
  · exact kinds_low q ⟨i, h⟩
  · rw [List.getD_eq_getElem?_getD, List.getElem?_eq_none (by rw [kinds_len]; omega)]
    decide
/-- the kinds as they are -/
noncomputable def kindsT : Nat → List Int
  | 0 => kindsL [3, 5, 7]
  | 1 => kindsL [2, 5, 7]
  | 2 => kindsL [2, 3, 7]
  | _ => kindsL [2, 3, 5]
theorem adds_snoc (ks : List Int) (i : Nat) (v : Int → Int) (pre : List Int) (x : Int) : addsF ks i v (pre ++ [x]) = addsF ks i v pre + (if (ks.getD x.toNat 0).toNat = i then v x else 0) := by
  unfold addsF
  rw [List.map_append, List.sum_append, List.map_cons, List.map_nil, List.sum_cons, List.sum_nil, Int.add_zero]
/-- the numbers up to a run, among all: the numbers from 1 up to it -/
theorem half_upto (ks : List Int) (i r : Nat) : ∀ m : Nat, addsF ks i (fun n => if n ≤ (r : Int) then 1 else 0) (rangeKs 1 m) = addsF ks i (fun _ => 1) (rangeKs 1 (min m r))
  | 0 => by rw [Nat.zero_min]; rfl
  | m + 1 => by
    rw [rangeKs_snoc, adds_snoc, half_upto ks i r m]
    by_cases h : m + 1 ≤ r
    · rw [Nat.min_eq_left h, Nat.min_eq_left (by omega), rangeKs_snoc, adds_snoc, if_pos (show (1 : Int) + (m : Int) ≤ (r : Int) by omega)]
    · rw [Nat.min_eq_right (by omega), Nat.min_eq_right (by omega), if_neg (show ¬ (1 : Int) + (m : Int) ≤ (r : Int) by omega), ite_self, Int.add_zero]
theorem half_tab (ks : List Int) (i : Nat) {r : Nat} (h : r < 32) : addsF ks i (fun n => if n ≤ (r : Int) then 1 else 0) (rangeKs 1 31) = turnF ks i (r : Int) := by
  have e := half_upto ks i r 31
  rw [Nat.min_eq_right (by omega)] at e
  exact e
/-- by halving: as one by one -/
theorem law_half (q : Fin 4) {rs : List Int} (h : ∀ r ∈ rs, 0 ≤ r ∧ r ≤ 31) : halfFold rs (kindsL (primesL q.val)) (rangeKs 1 31) = oneFold rs (kindsL (primesL q.val)) := by
  refine ext8 (half_length _ _ _) (one_length _ _) fun i hi => ?_
  rw [half_getD rs _ _ hi, half_sum, one_sum rs _ hi]
  refine map_ext_sum fun r hr => ?_
  obtain ⟨n, rfl⟩ : ∃ n : Nat, r = n := ⟨r.toNat, by have := h r hr; omega⟩
  exact half_tab _ i (by have := h _ hr; omega)
noncomputable def sgF (k o : Nat) : Int := if subN (idxF k) (idxF o) = true then (if (((idxF o).length : Int) - ((idxF k).length : Int)).fmod 2 = 0 then 1 else -1) else 0
theorem col_step {first : Int} (hf : 0 ≤ first ∧ first < 30) {ws : List Int} {k o : Nat} (hk : k < 8) (ho : o < 8) (c : Int) : colStep first ws k c o = c + sgF k o * ws.getD o 0 := by
  unfold colStep sgF wLen
  rw [holds_is hf (k := k) (o := o) (by omega) (by omega), len_is hf (k := k) (by omega), len_is hf (k := o) (by omega)]
  rw [show ((k : Int)).toNat = k from rfl, show ((o : Int)).toNat = o from rfl]
  split
  · split <;> omega
  · omega
theorem col_sum {first : Int} (hf : 0 ≤ first ∧ first < 30) (ws : List Int) {k : Nat} (hk : k < 8) : ∀ n : Nat, n ≤ 8 → colFold first ws k (rangeKs 0 n) = sumTo (fun o => sgF k o * ws.getD o 0) n
  | 0, _ => rfl
  | n + 1, hn => by
    rw [rangeKs_snoc]
    unfold colFold
    rw [List.foldl_append, List.foldl_cons, List.foldl_nil]
    have ih := col_sum hf ws hk n (by omega)
    unfold colFold at ih
    rw [ih, show (0 : Int) + (n : Int) = n from by omega, col_step hf hk (by omega)]
    rfl
theorem cols_lin (s : Nat → Int) (g : Nat → Int → Int) (n : Nat) : ∀ rs : List Int, sumTo (fun o => s o * (rs.map (g o)).sum) n = (rs.map fun r => sumTo (fun o => s o * g o r) n).sum
  | [] => sumTo_zero fun o _ => by
    show s o * ([] : List Int).sum = 0
    simp
  | r :: q => by
    rw [List.map_cons, List.sum_cons, ← cols_lin s g n q, ← sumTo_add]
    refine sumTo_ext fun o _ => ?_
    rw [List.map_cons, List.sum_cons, Int.mul_add]
set_option maxHeartbeats 8000000 in
theorem cols_tab0 : ∀ k : Fin 8, ∀ r : Fin 32, sumTo (fun o => sgF k.val o * ((r.val : Nat) : Int).fdiv (prodF (primesL 0) ((o : Nat) : Int))) 8 = turnF (kindsL (primesL 0)) k.val ((r.val : Nat) : Int) := by decide +kernel
set_option maxHeartbeats 8000000 in
theorem cols_tab1 : ∀ k : Fin 8, ∀ r : Fin 32, sumTo (fun o => sgF k.val o * ((r.val : Nat) : Int).fdiv (prodF (primesL 1) ((o : Nat) : Int))) 8 = turnF (kindsL (primesL 1)) k.val ((r.val : Nat) : Int) := by decide +kernel
set_option maxHeartbeats 8000000 in
theorem cols_tab2 : ∀ k : Fin 8, ∀ r : Fin 32, sumTo (fun o => sgF k.val o * ((r.val : Nat) : Int).fdiv (prodF (primesL 2) ((o : Nat) : Int))) 8 = turnF (kindsL (primesL 2)) k.val ((r.val : Nat) : Int) := by decide +kernel
set_option maxHeartbeats 8000000 in
theorem cols_tab3 : ∀ k : Fin 8, ∀ r : Fin 32, sumTo (fun o => sgF k.val o * ((r.val : Nat) : Int).fdiv (prodF (primesL 3) ((o : Nat) : Int))) 8 = turnF (kindsL (primesL 3)) k.val ((r.val : Nat) : Int) := by decide +kernel
theorem cols_tab : ∀ q : Fin 4, ∀ k : Fin 8, ∀ r : Fin 32, sumTo (fun o => sgF k.val o * ((r.val : Nat) : Int).fdiv (prodF (primesL q.val) ((o : Nat) : Int))) 8 = turnF (kindsL (primesL q.val)) k.val ((r.val : Nat) : Int)
  | ⟨0, _⟩ => cols_tab0
  | ⟨1, _⟩ => cols_tab1
  | ⟨2, _⟩ => cols_tab2
  | ⟨3, _⟩ => cols_tab3
theorem map8_getD (f : Int → Int) {i : Nat} (hi : i < 8) : ((rangeKs 0 8).map f).getD i 0 = f i := by
  unfold rangeKs
  rw [List.map_map, List.getD_eq_getElem?_getD, List.getElem?_map, List.getElem?_range hi]
  show f (0 + (i : Int)) = f i
  rw [Int.zero_add]
/-- by tab sizes and words: as one by one -/
theorem law_cols (q : Fin 4) {first spare : Int} (hf : 0 ≤ first ∧ first < 30) (hs : 0 ≤ spare) {rs : List Int} (h : ∀ r ∈ rs, 0 ≤ r ∧ r ≤ 31) :
    (rangeKs 0 8).map (colF first ((rangeKs 0 8).map (wholeF (wsFold (leadL rs spare)).b (wsFold (leadL rs spare)).nt (wsFold (leadL rs spare)).cs (primesL q.val) spare))) = oneFold rs (kindsL (primesL q.val)) := by
  refine ext8 (ws_len _) (one_length _ _) fun i hi => ?_
  rw [map8_getD _ hi, one_sum rs _ hi]
  unfold colF
  rw [col_sum hf _ hi 8 (Nat.le_refl _)]
  have e : sumTo (fun o => sgF i o * ((rangeKs 0 8).map (wholeF (wsFold (leadL rs spare)).b (wsFold (leadL rs spare)).nt (wsFold (leadL rs spare)).cs (primesL q.val) spare)).getD o 0) 8 = sumTo (fun o => sgF i o * (rs.map (fun r => r.fdiv (prodF (primesL q.val) ((o : Nat) : Int)))).sum) 8 := sumTo_ext fun o ho => by
    rw [map8_getD _ ho, whole_is hs h (primes_ok q)]
    rfl
  rw [e, cols_lin]
  refine map_ext_sum fun r hr => ?_
  obtain ⟨n, rfl⟩ : ∃ n : Nat, r = n := ⟨r.toNat, by have := h r hr; omega⟩
  exact cols_tab q ⟨i, hi⟩ ⟨n, by have := h _ hr; omega⟩

end
section
section
variable {prog : Program} {w : World} {A : Around} {E : Value → Shared → Prop} {s : Shared} {h₀ : Heap} {L : Addr} {m : Str → Option Value} {env : Env}
/-- how a turn of a comprehension over an enumerate ends -/
noncomputable def EnEnd (h₀ : Heap) (L : Addr) (m : Str → Option Value) (s₁ : Shared) (nw : Led) (rest : Prop) (s₂ : Shared) : Prop := ∃ h' tk, s₂ = { s₁ with heap := h', toks := tk } ∧ Fr h₀ L h' m ∧ News h₀ L h' nw ∧ rest
noncomputable def EnTurn (prog : Program) (w : World) (A : Around) (h₀ : Heap) (L : Addr) (m : Str → Option Value) (env : Env) (c elt : PySem.Expr) (a b : Str) (scope : Scope) (cl : List (Str × Addr)) (s : Shared) (items : Array Value) (news : Led) (P : Nat → List Value → Prop) : Prop :=
  ∀ (i : Nat) (x : Value) (ys : List Value), items[i]? = some x → P i ys → ∀ (t : Tok) (e : Addr) (oe : Obj) (it : Addr) (oit : Obj) (C : Addr) (oC : Obj) (D : Addr) (m₂ : Str → Option Value) (h : Heap) (tk : Nat) (E' : Value → Shared → Prop),
    LCg.NsObj oC m₂ → m₂ a = some (.int (i : Int) t) → m₂ b = some x → Fr h₀ L h m → News h₀ L h ((e, oe) :: (it, oit) :: (C, oC) :: (D, LCg.lst ys) :: news) →
      wpAny (model prog w) A (isTrue c (compEnvC scope cl C env) (eval c (compEnvC scope cl C env))) (fun ok s₃ => if ok = true then
        wpAny (model prog w) A (eval elt (compEnvC scope cl C env)) (fun y s₄ => EnEnd h₀ L m { s with heap := h, toks := tk } ((e, oe) :: (it, oit) :: (C, oC) :: (D, LCg.lst ys) :: news) (P (i + 1) (ys ++ [y])) s₄) E' s₃
        else EnEnd h₀ L m { s with heap := h, toks := tk } ((e, oe) :: (it, oit) :: (C, oC) :: (D, LCg.lst ys) :: news) (P (i + 1) ys) s₃) E' { s with heap := h, toks := tk }
/-- an enumerate of a list of the ledger, ready to be walked -/
noncomputable def EnSrc (prog : Program) (w : World) (A : Around) (h₀ : Heap) (L : Addr) (m : Str → Option Value) (env : Env) (c elt : PySem.Expr) (a b : Str) (scope : Scope) (cl : List (Str × Addr)) (Q : Value → Shared → Prop) (xv : Value) (s₁ : Shared) : Prop :=
  ∃ (e it l : Addr) (items : Array Value) (k : Nat) (news : Led) (P : Nat → List Value → Prop), xv = .ref e ∧ A.handled = none ∧ Fr h₀ L s₁.heap m ∧ News h₀ L s₁.heap news ∧ (l, listOf items k) ∈ news ∧ items.size ≤ sizeLine ∧
    (∃ old, IsEnum s₁.heap e it 0 old) ∧ s₁.heap.IsListIter it l 0 ∧ e ≠ it ∧ l ≠ e ∧ l ≠ it ∧ L ≠ e ∧ L ≠ it ∧ h₀.get? e = none ∧ h₀.get? it = none ∧ (∀ p ∈ news, p.1 ≠ e ∧ p.1 ≠ it) ∧
    P 0 [] ∧ EnTurn prog w A h₀ L m env c elt a b scope cl s₁ items news P ∧
    ∀ (ys : List Value) (D : Addr) (h : Heap) (tk : Nat), P items.size ys → Fr h₀ L h m → News h₀ L h ((D, LCg.lst ys) :: news) → LCg.Off1 D news → Q (.ref D) { s₁ with heap := h, toks := tk }
theorem en_call {c elt : PySem.Expr} {a b : Str} {scope : Scope} {cl : List (Str × Addr)} {Q : Value → Shared → Prop} {l : Addr} {items : Array Value} {k : Nat} {news : Led} (P : Nat → List Value → Prop)
    (hh : A.handled = none) (F : Fr h₀ L s.heap m) (N : News h₀ L s.heap news) (hm : (l, listOf items k) ∈ news) (hsz : items.size ≤ sizeLine) (h0 : P 0 [])
    (turn : ∀ g, EnTurn prog w A h₀ L m env c elt a b scope cl { s with heap := g } items news P)
    (done : ∀ (ys : List Value) (D : Addr) (h : Heap) (tk : Nat), P items.size ys → Fr h₀ L h m → News h₀ L h ((D, LCg.lst ys) :: news) → LCg.Off1 D news → Q (.ref D) { s with heap := h, toks := tk }) :
    wpAny (model prog w) A (call (.type "enumerate") [.ref l]) (EnSrc prog w A h₀ L m env c elt a b scope cl Q) E s := by
  have hls : s.heap.IsList l items := ⟨_, (N _ hm).1, rfl, k, rfl⟩
  have hlt : l < s.heap.objs.size := Heap.lt_size (N _ hm).1
  have hLs : L < s.heap.objs.size := F.ns.lt
  refine call_enumerate_list hls fun h' he hit _ hk => ?_
  have up := F.above
  refine ⟨_, s.heap.objs.size, l, items, k, news, P, rfl, hh, ⟨F.ns.keeps hk, fun b o e => hk b o (F.keep b o e), F.above⟩, fun p hp => ⟨hk _ _ (N p hp).1, (N p hp).2⟩, hm, hsz, ⟨_, he⟩, hit, Nat.succ_ne_self _, ?_, Nat.ne_of_lt hlt, ?_, Nat.ne_of_lt hLs,
    Heap.get?_none_of_le ?_, Heap.get?_none_of_le ?_, fun p hp => ⟨Nat.ne_of_lt (Nat.lt_succ_of_lt (Heap.lt_size (N p hp).1)), Nat.ne_of_lt (Heap.lt_size (N p hp).1)⟩, h0, turn h', done⟩
  · exact Nat.ne_of_lt (Nat.lt_succ_of_lt hlt)
  · exact Nat.ne_of_lt (Nat.lt_succ_of_lt hLs)
  · exact Nat.le_trans up (Nat.le_of_lt (Nat.lt_succ_of_lt hLs))
  · exact Nat.le_trans up (Nat.le_of_lt hLs)
theorem en_block {elt iter c : PySem.Expr} {a b : Str} {pa pb tp : Pos} {kk : Nat} {scope : Scope} {cl : List (Str × Addr)} {pos : Pos} {s₂ : Shared} {e it l : Addr} {items : Array Value} {k : Nat} {news : Led} {P : Nat → List Value → Prop} {RR : Value → Addr → Result → Shared → Prop}
    (hh : A.handled = none) (F : Fr h₀ L s₂.heap m) (N : News h₀ L s₂.heap news) (hm : (l, listOf items k) ∈ news) (hsz : items.size ≤ sizeLine) (he : ∃ old, IsEnum s₂.heap e it 0 old) (hit : s₂.heap.IsListIter it l 0)
    (hei : e ≠ it) (hle : l ≠ e) (hli : l ≠ it) (hLe : L ≠ e) (hLi : L ≠ it) (he₀ : h₀.get? e = none) (hi₀ : h₀.get? it = none) (off : ∀ p ∈ news, p.1 ≠ e ∧ p.1 ≠ it) (h0 : P 0 [])
    (hcell : ∀ y ∈ scope.names, y.2 ≠ .cell) (hkind : scope.kind = .function) (hxa : scope.names.lookup a = some .local) (hxb : scope.names.lookup b = some .local) (hab : ¬ a = b)
    (turn : EnTurn prog w A h₀ L m env c elt a b scope cl s₂ items news P)
    (hRR : ∀ D C h tk m' ys, P items.size ys → Fr h₀ L h m → News h₀ L h ((D, LCg.lst ys) :: news) → LCg.Off1 D news → h.Ns C m' → h₀.get? C = none → C ≠ L → C ≠ D → (∀ p ∈ news, p.1 ≠ C) → RR (.ref D) C (.ok .next) { s₂ with heap := h, toks := tk }) :
    wpAny (model prog w) A (newList []) (fun acc s₃ => wpAny (model prog w) A (newFunctionEnv scope env.globals cl [] env.qual none .none (some env)) (fun cenv s₄ =>
      codeAny (model prog w) A (.compStart (.ListComp elt [⟨.Tuple [.Name a pa, .Name b pb] kk tp, iter, [c], 0⟩] scope pos) 0 (.ref e) acc { cenv with scope := relabel scope env }) (RR acc cenv.locals) s₄) E s₃) E s₂ := by
  have W := WalksT.enumerate (prog := prog) (w := w) hh e it l hei hle hli items
  refine wpAny_newObj_type (wpAny_newFunctionEnv hcell (by intro y hy; simp at hy) (fun h₁ hns₁ hsb₁ => ?_) hkind)
  dsimp only at hns₁ hsb₁ ⊢
  generalize hH2 : s₂.heap.push { cls := .type "list", dict := none, data := .seq ([] : List Value).toArray } = H2 at hns₁ hsb₁ ⊢
  have hC : H2.objs.size = s₂.heap.objs.size + 1 := by rw [← hH2, Heap.size_push]
  generalize hDd : s₂.heap.objs.size = D at *
  generalize hCc : H2.objs.size = C at *
  have hDC : D ≠ C := by rw [hC]; exact Nat.ne_of_lt (Nat.lt_succ_self _)
  have below : ∀ b, b < D → b ≠ C ∧ b ≠ D := fun b hb => ⟨by rw [hC]; exact Nat.ne_of_lt (Nat.lt_succ_of_lt hb), Nat.ne_of_lt hb⟩
  have lt : ∀ {b : Addr} {o : Obj}, s₂.heap.get? b = some o → b < D := fun h => hDd ▸ Heap.lt_size h
  have helt : e < D := by obtain ⟨_, h⟩ := he; exact lt h
  have hilt : it < D := by obtain ⟨_, h, _⟩ := hit; exact lt h
  have hllt : l < D := lt (N _ hm).1
  have hLlt : L < D := hDd ▸ F.ns.lt
  have old : ∀ b o, s₂.heap.get? b = some o → h₁.get? b = some o := fun b o h => hsb₁.extBut b o (below b (lt h)).1 (Heap.get?_push_of_some _ (hH2 ▸ Heap.get?_push_of_some _ h))
  have hacc : h₁.get? D = some (LCg.lst []) := hsb₁.extBut _ _ hDC (Heap.get?_push_of_some _ (hH2 ▸ hDd ▸ Heap.get?_push_size _ rfl))
  have fresh₀ : ∀ z, D ≤ z → h₀.get? z = none := fun z hz => by
    cases q : h₀.get? z with
    | none => rfl
    | some o' => exact absurd (lt (F.keep z o' q)) (Nat.not_lt.mpr hz)
  have hD₀ : h₀.get? D = none := fresh₀ _ (Nat.le_refl _)
  have hC₀ : h₀.get? C = none := fresh₀ _ (by rw [hC]; exact Nat.le_succ _)
  have hDL : D ≠ L := Ne.symm (below L hLlt).2
  have hCL : C ≠ L := Ne.symm (below L hLlt).1
  have offD : ∀ p ∈ news, p.1 ≠ D ∧ p.1 ≠ C := fun p hp => ⟨(below _ (lt (N p hp).1)).2, (below _ (lt (N p hp).1)).1⟩
  have off1 : LCg.Off1 D news := by
    have : ∀ nw : Led, (∀ p ∈ nw, p.1 ≠ D) → LCg.Off1 D nw := by
      intro nw
      induction nw with
      | nil => intro _; exact trivial
      | cons p r ih => intro h; exact ⟨h p (.head _), ih fun q hq => h q (.tail _ hq)⟩
    exact this news fun p hp => (offD p hp).1
  have loop : ∀ s₃ : Shared, s₃ = { s₂ with heap := h₁, toks := s₂.toks + ([] : List (Str × Value)).length } →
      codeAny (model prog w) A (.compLoop (.ListComp elt [⟨.Tuple [.Name a pa, .Name b pb] kk tp, iter, [c], 0⟩] scope pos) 0 (.ref e) (.ref D) (compEnvC scope cl C env)) (RR (.ref D) C) s₃ := by
    rintro s₃ rfl
    refine kct_loop
      (fun n s' => ∃ h' tk i ys m', s' = { s₂ with heap := h', toks := tk } ∧ i ≤ items.size ∧ n = items.size + 1 - i ∧ ys.length ≤ i ∧ P i ys ∧ ((∃ old, IsEnum h' e it (i : Int) old) ∧ h'.IsListIter it l i ∧ h'.IsList l items) ∧ Fr h₀ L h' m ∧ h'.Ns C m' ∧
        News h₀ L h' ((D, LCg.lst ys) :: news)) ?_ (items.size + 1)
      ⟨h₁, _, 0, [], _, rfl, Nat.zero_le _, rfl, Nat.le_refl _, h0, ⟨by obtain ⟨o, h⟩ := he; exact ⟨o, old _ _ h⟩, hit.at fun o h => old _ o h, ⟨_, old _ _ (N _ hm).1, rfl, k, rfl⟩⟩, F.keeps old, hns₁, fun p hp => ?_⟩
    · rintro n s' ⟨h', tk, i, ys, m', rfl, hi, rfl, hyl, hP, hst, F', hn', N'⟩
      by_cases hlt : i < items.size
      · refine W.item i _ _ _ hlt hst fun T vals h₂ tk₂ hPt hTf hT hMid hk₂ => ?_
        obtain ⟨t, x, hx, rfl⟩ := hPt
        refine W.go _ _ _ i T _ _ _ hMid fun h₃ hst₃ hk₃ => ?_
        have hTw := W.apart _ _ _ hMid
        have nI : ∀ z, z ≠ e → z ≠ it → z ∉ [e, it] := fun z h1 h2 hz => by
          rcases List.mem_cons.mp hz with h | h
          · exact h1 h
          · exact h2 (List.mem_singleton.mp h)
        have up₃ : ∀ z o, z ≠ e → z ≠ it → h'.get? z = some o → h₃.get? z = some o := fun z o h1 h2 h => hk₃ z o (nI z h1 h2) (hk₂ z o (nI z h1 h2) h)
        have hT₃ : h₃.IsTuple T #[.int (i : Int) t, x] := hT.at fun o h => hk₃ T o hTw h
        have hCe : C ≠ e := Ne.symm (below e helt).1
        have hCi : C ≠ it := Ne.symm (below it hilt).1
        refine kcp_assign (env := compEnvC scope cl C env) hh hT₃ (lookup_relabel_local hxa) (lookup_relabel_local hxb) (by simp [compEnvC, relabel, hkind]) (hn'.at' fun o h => up₃ _ o hCe hCi h) fun h₄ tk₄ hn₄ hs₄ => ?_
        have up : ∀ z o, z ≠ e → z ≠ it → z ≠ C → h'.get? z = some o → h₄.get? z = some o := fun z o h1 h2 h3 h => hs₄ z o h3 (up₃ z o h1 h2 h)
        have hst₄ : (∃ old, IsEnum h₄ e it ((i + 1 : Nat) : Int) old) ∧ h₄.IsListIter it l (i + 1) ∧ h₄.IsList l items := W.frame _ _ _ hst₃ fun z hz o h => hs₄ z o (fun q => by
          rcases List.mem_cons.mp hz with h1 | hz
          · exact hCe (q.symm.trans h1)
          · rcases List.mem_cons.mp hz with h1 | hz
            · exact hCi (q.symm.trans h1)
            · exact (below l hllt).1 ((List.mem_singleton.mp hz).symm.trans q)) h
        obtain ⟨oe, heE, hoe⟩ : ∃ oe : Obj, h₄.get? e = some oe ∧ ∀ h : Heap, h.get? e = some oe → ∃ old, IsEnum h e it ((i + 1 : Nat) : Int) old := by
          obtain ⟨o, h⟩ := hst₄.1
          exact ⟨_, h, fun _ q => ⟨o, q⟩⟩
        obtain ⟨oit, heI, hoit⟩ : ∃ o : Obj, h₄.get? it = some o ∧ ∀ h : Heap, h.get? it = some o → h.IsListIter it l (i + 1) := by
          obtain ⟨o, h, r⟩ := hst₄.2.1
          exact ⟨o, h, fun _ q => ⟨o, q, r⟩⟩
        obtain ⟨oC, heC, hoC⟩ := LCg.ns_obj hn₄
        have F₄ : Fr h₀ L h₄ m := ⟨F'.ns.at' fun o h => up _ o hLe hLi (Ne.symm hCL) h, fun z o h => up z o (fun q => by rw [q, he₀] at h; cases h) (fun q => by rw [q, hi₀] at h; cases h) (fun q => by rw [q, hC₀] at h; cases h) (F'.keep z o h), F'.above⟩
        have N₄ : News h₀ L h₄ ((e, oe) :: (it, oit) :: (C, oC) :: (D, LCg.lst ys) :: news) := fun q hq => by
          rcases List.mem_cons.mp hq with rfl | hq
          · exact ⟨heE, Ne.symm hLe, he₀⟩
          rcases List.mem_cons.mp hq with rfl | hq
          · exact ⟨heI, Ne.symm hLi, hi₀⟩
          rcases List.mem_cons.mp hq with rfl | hq
          · exact ⟨heC, hCL, hC₀⟩
          have z := N' q hq
          refine ⟨up _ _ ?_ ?_ ?_ z.1, z.2⟩
          · rcases List.mem_cons.mp hq with rfl | hq
            · exact Ne.symm (below e helt).2
            · exact (off q hq).1
          · rcases List.mem_cons.mp hq with rfl | hq
            · exact Ne.symm (below it hilt).2
            · exact (off q hq).2
          · rcases List.mem_cons.mp hq with rfl | hq
            · exact hDC
            · exact (offD q hq).2
        have fin : ∀ (ys' : List Value) (h₅ : Heap) (tk₅ : Nat), ys'.length ≤ i + 1 → P (i + 1) ys' → Fr h₀ L h₅ m → News h₀ L h₅ ((e, oe) :: (it, oit) :: (C, oC) :: (D, LCg.lst ys') :: news) →
            ∃ n', n' < items.size + 1 - i ∧ ∃ h' tk i ys m', ({ s₂ with heap := h₅, toks := tk₅ } : Shared) = { s₂ with heap := h', toks := tk } ∧ i ≤ items.size ∧ n' = items.size + 1 - i ∧ ys.length ≤ i ∧ P i ys ∧
              ((∃ old, IsEnum h' e it (i : Int) old) ∧ h'.IsListIter it l i ∧ h'.IsList l items) ∧ Fr h₀ L h' m ∧ h'.Ns C m' ∧ News h₀ L h' ((D, LCg.lst ys) :: news) := by
          intro ys' h₅ tk₅ hl hP' F₅ N₅
          have zE := (N₅ _ (.head _)).1
          have zI := (N₅ _ (.tail _ (.head _))).1
          have zC := (N₅ _ (.tail _ (.tail _ (.head _)))).1
          have zl := (N₅ _ (.tail _ (.tail _ (.tail _ (.tail _ hm))))).1
          exact ⟨items.size + 1 - (i + 1), by omega, h₅, tk₅, i + 1, ys', _, rfl, hlt, rfl, hl, hP', ⟨hoe h₅ zE, hoit h₅ zI, ⟨_, zl, rfl, k, rfl⟩⟩, F₅, hoC.ns zC, fun q hq => N₅ q (.tail _ (.tail _ (.tail _ hq)))⟩
        refine wpAny_mono (turn i x ys hx hP t e oe it oit C oC D _ h₄ _ _ hoC (by simp [hab]) (by simp) F₄ N₄) (fun okb s₅ h₅ => ?_) fun _ _ h => h
        cases okb with
        | false =>
          simp only [Bool.false_eq_true, if_false] at h₅ ⊢
          obtain ⟨h₅, tk₅, rfl, F₅, N₅, hP'⟩ := h₅
          exact fin ys h₅ tk₅ (Nat.le_succ_of_le hyl) hP' F₅ N₅
        | true =>
          simp only [if_true] at h₅ ⊢
          refine wpAny_mono h₅ (fun y s₆ h₆ => ?_) fun _ _ h => h
          obtain ⟨h₅, tk₅, rfl, F₅, N₅, hP'⟩ := h₆
          have zE := (N₅ _ (.head _))
          have zI := (N₅ _ (.tail _ (.head _)))
          have zC := (N₅ _ (.tail _ (.tail _ (.head _))))
          have zD := (N₅ _ (.tail _ (.tail _ (.tail _ (.head _)))))
          refine append_at (hsz := by show ys.toArray.size ≤ sizeLine; rw [List.size_toArray]; exact Nat.le_trans hyl (Nat.le_trans hi hsz)) zD.1 fun h₆ hs₆ hD₆ => ?_
          refine fin (ys ++ [y]) h₆ _ (by rw [List.length_append, List.length_singleton]; exact Nat.succ_le_succ hyl) hP' (F₅.change hs₆ hDL hD₀) (fun q hq => ?_)
          rcases List.mem_cons.mp hq with rfl | hq
          · exact ⟨hs₆.extBut _ _ (below e helt).2 zE.1, zE.2⟩
          rcases List.mem_cons.mp hq with rfl | hq
          · exact ⟨hs₆.extBut _ _ (below it hilt).2 zI.1, zI.2⟩
          rcases List.mem_cons.mp hq with rfl | hq
          · exact ⟨hs₆.extBut _ _ (Ne.symm hDC) zC.1, zC.2⟩
          rcases List.mem_cons.mp hq with rfl | hq
          · exact ⟨hD₆.trans (congrArg some (LCg.lst_snoc ys y)), hDL, hD₀⟩
          · have z := N₅ q (.tail _ (.tail _ (.tail _ (.tail _ hq))))
            exact ⟨hs₆.extBut _ _ (offD q hq).1 z.1, z.2⟩
      · have hin : i = items.size := Nat.le_antisymm hi (Nat.not_lt.mp hlt)
        subst hin
        refine W.done _ _ _ hst fun h₂ tk₂ hk₂ => ?_
        have nI : ∀ z, z ≠ e → z ≠ it → z ∉ [e, it] := fun z h1 h2 hz => by
          rcases List.mem_cons.mp hz with h | h
          · exact h1 h
          · exact h2 (List.mem_singleton.mp h)
        refine hRR D C h₂ tk₂ _ ys hP ⟨F'.ns.at' fun o h => hk₂ _ o (nI _ hLe hLi) h, fun z o h => hk₂ z o (nI _ (fun q => by rw [q, he₀] at h; cases h) fun q => by rw [q, hi₀] at h; cases h) (F'.keep z o h), F'.above⟩
          (fun p hp => ⟨hk₂ _ _ (nI _ ?_ ?_) (N' p hp).1, (N' p hp).2⟩) off1 (hn'.at' fun o h => hk₂ _ o (nI _ (Ne.symm (below e helt).1) (Ne.symm (below it hilt).1)) h) hC₀ hCL (Ne.symm hDC) fun p hp => (offD p hp).2
        · rcases List.mem_cons.mp hp with rfl | hp
          · exact Ne.symm (below e helt).2
          · exact (off p hp).1
        · rcases List.mem_cons.mp hp with rfl | hp
          · exact Ne.symm (below it hilt).2
          · exact (off p hp).2
    · rcases List.mem_cons.mp hp with rfl | hp
      · exact ⟨hacc, hDL, hD₀⟩
      · exact ⟨old _ _ (N p hp).1, (N p hp).2⟩
  refine codeAny_compStart_list (loop _ rfl) (W.self 0 _ _ _ ?_ (loop _ rfl))
  exact ⟨by obtain ⟨o, h⟩ := he; exact ⟨o, old _ _ h⟩, hit.at fun o h => old _ o h, ⟨_, old _ _ (N _ hm).1, rfl, k, rfl⟩⟩
/-- a list made of the pairs of an enumerate that a test lets through -/
theorem en_comp {elt iter c : PySem.Expr} {a b : Str} {pa pb tp : Pos} {kk : Nat} {scope : Scope} {cl : List (Str × Addr)} {pos : Pos} {Q : Value → Shared → Prop} (F₉ : Fr h₀ L s.heap m)
    (hclos : closureFor scope env = pure cl) (hcell : ∀ y ∈ scope.names, y.2 ≠ .cell) (hkind : scope.kind = .function)
    (hnames : ∀ y ∈ scope.names, y.2 = .local → scope.names.lookup y.1 = some .local) (hxa : scope.names.lookup a = some .local) (hxb : scope.names.lookup b = some .local) (hab : ¬ a = b)
    (h : wpAny (model prog w) A (eval iter env) (EnSrc prog w A h₀ L m env c elt a b scope cl Q) E s)
    (hs : ∀ x, foldedSetIterable iter env x = pure x := by intro _; rfl) :
    wpAny (model prog w) A (eval (.ListComp elt [⟨.Tuple [.Name a pa, .Name b pb] kk tp, iter, [c], 0⟩] scope pos) env) Q E s := by
  rw [eval_ListComp]
  refine wpAny_comprehension_free (use := none) rfl hs hclos hkind hnames (wpAny_mono h (fun xv s₁ h₁ => ?_) fun _ _ e => e)
  obtain ⟨e, it, l, items, k, news, P, rfl, hh, F, N, hm, hsz, he, hit, hei, hle, hli, hLe, hLi, he₀, hi₀, off, h0, turn, done⟩ := h₁
  obtain ⟨o0, he'⟩ := he
  refine wpAny_pyIter_enum he' ?_
  refine en_block hh F N hm hsz ⟨o0, he'⟩ hit hei hle hli hLe hLi he₀ hi₀ off h0 hcell hkind hxa hxb hab turn ?_
  intro D C h tk m' ys hP F' N' o1 hn hC₀ hCL hCD offC
  refine ⟨m', hn, fun h'' hs'' => done ys D h'' tk hP (F'.change hs'' hCL hC₀) (fun p hp => ?_) o1⟩
  refine ⟨hs''.extBut _ _ ?_ (N' p hp).1, (N' p hp).2⟩
  rcases List.mem_cons.mp hp with rfl | hp
  · exact Ne.symm hCD
  · exact offC p hp
end

end
section
/-- the primes that the sum leaves, one by one -/
noncomputable def enF (q : Int) : Nat → List Int
  | 0 => []
  | i + 1 => if (i : Int) = q then enF q i else enF q i ++ [([2, 3, 5, 7] : List Int).getD i 0]
theorem en_yes {q : Int} {i : Nat} (h : ¬ (i : Int) = q) : enF q i ++ [([2, 3, 5, 7] : List Int).getD i 0] = enF q (i + 1) := (if_neg h).symm
theorem en_no {q : Int} {i : Nat} (h : (i : Int) = q) : enF q i = enF q (i + 1) := (if_pos h).symm
theorem en_primes {t : Int} : ∃ q : Fin 4, enF ((t + 3).fmod 4) 4 = primesL q.val := by
  have h0 : 0 ≤ (t + 3).fmod 4 := Int.fmod_nonneg_of_pos _ (by decide)
  have h1 : (t + 3).fmod 4 < 4 := Int.fmod_lt_of_pos _ (by decide)
  generalize (t + 3).fmod 4 = q at h0 h1
  rcases (by omega : q = 0 ∨ q = 1 ∨ q = 2 ∨ q = 3) with rfl | rfl | rfl | rfl
  · exact ⟨0, by decide⟩
  · exact ⟨1, by decide⟩
  · exact ⟨2, by decide⟩
  · exact ⟨3, by decide⟩
theorem en_item {vs : List Value} {ns : List Int} {i : Nat} {x : Value} (h : IntsAre vs ns) (hx : vs.toArray[i]? = some x) : i < ns.length ∧ ∃ t, x = .int (ns.getD i 0) t := by
  have hx' : vs[i]? = some x := by simpa using hx
  have hl : i < vs.length := (List.getElem?_eq_some_iff.mp hx').1
  have hl' : i < ns.length := by have := h.length; omega
  obtain ⟨t, e⟩ := h.get i (ns.getD i 0) (by rw [List.getD_eq_getElem?_getD, List.getElem?_eq_getElem hl']; rfl)
  exact ⟨hl', t, Option.some.inj (hx'.symm.trans e)⟩
theorem ints_snoc {vs : List Value} {ns : List Int} {n : Int} {t : Tok} (h : IntsAre vs ns) : IntsAre (vs ++ [.int n t]) (ns ++ [n]) := h.append (IntsAre.cons n t IntsAre.nil)
/-- the text of one run, and the whole text -/
noncomputable def runText (k : Int) : Str := Txt.mul (Str.ofString " ") k ++ Str.ofString "\t"
noncomputable def runsText (rs : List Int) : Str := Txt.join (Str.ofString "") (rs.map runText)
noncomputable def leadText (rs : List Int) (spare : Int) : Str := runsText rs ++ Txt.mul (Str.ofString " ") spare ++ Str.ofString "x \t"
theorem sg_fold : ∀ (n : Nat) (acc x : Array Nat), ((List.replicate n x).foldl (· ++ ·) acc).toList = acc.toList ++ (List.replicate n x.toList).flatten
  | 0, acc, x => by simp
  | n + 1, acc, x => by
    rw [List.replicate_succ, List.foldl_cons, sg_fold n, Array.toList_append, List.replicate_succ, List.flatten_cons, List.append_assoc]
theorem sg_blank : sg (Str.ofString " ") = [32] := by decide +kernel
theorem sg_mul {k : Int} (hk : 0 ≤ k) : sg (Txt.mul (Str.ofString " ") k) = List.replicate k.toNat 32 := by
  unfold Txt.mul
  split
  · have : k = 0 := by omega
    subst this
    rfl
  · split
    · rename_i h1 h2
      have hl : (Str.ofString " ").length = 1 := by decide +kernel
      rw [hl] at h2
      have : k = 1 := by simpa using h2
      subst this
      exact sg_blank
    · show ((List.replicate k.toNat (Str.ofString " ").cps).foldl (· ++ ·) #[]).toList = _
      rw [sg_fold]
      have e : (Str.ofString " ").cps.toList = [32] := sg_blank
      rw [e]
      show [] ++ _ = _
      rw [List.nil_append]
      generalize k.toNat = n
      induction n with
      | zero => rfl
      | succ n ih => rw [List.replicate_succ, List.flatten_cons, ih, List.replicate_succ]; rfl
theorem sg_run {k : Int} (hk : 0 ≤ k) : sg (runText k) = List.replicate k.toNat 32 ++ [9] := by
  unfold runText
  rw [sg_app, sg_mul hk, show sg (Str.ofString "\t") = [9] from by decide +kernel]
theorem join_nil : ∀ xs : List Str, joinL [] xs = xs.flatMap sg
  | [] => rfl
  | [x] => by
    show sg x = _
    simp
  | x :: y :: r => by
    show sg x ++ [] ++ joinL [] (y :: r) = _
    rw [join_nil (y :: r), List.append_nil]
    exact (List.flatMap_cons).symm
theorem sg_runs (rs : List Int) : sg (runsText rs) = rs.flatMap fun r => sg (runText r) := by
  unfold runsText
  show sg (Builtin.Str.glued _ _) = _
  rw [StrLaws.glued_eq_join, sg_join, show sg (Str.ofString "") = [] from by decide +kernel, join_nil, List.flatMap_map]
theorem run_len {k : Int} (h : 0 ≤ k ∧ k ≤ 31) : (runText k).length ≤ 32 := by
  rw [← sg_len, sg_run h.1, List.length_append, List.length_replicate, List.length_singleton]
  omega
theorem flat_len : ∀ rs : List Int, (∀ r ∈ rs, 0 ≤ r ∧ r ≤ 31) → (rs.flatMap fun r => sg (runText r)).length ≤ rs.length * 32
  | [], _ => Nat.le_refl _
  | r :: q, h => by
    rw [List.flatMap_cons, List.length_append, List.length_cons]
    have h1 := flat_len q fun z hz => h z (.tail _ hz)
    have h2 := run_len (h r (.head _))
    rw [← sg_len] at h2
    omega
theorem runs_len {rs : List Int} (h : ∀ r ∈ rs, 0 ≤ r ∧ r ≤ 31) (hl : rs.length ≤ 4) : (runsText rs).length ≤ 128 := by
  rw [← sg_len, sg_runs]
  have := flat_len rs h
  omega
theorem mul_len {k : Int} (h : 0 ≤ k) : (Txt.mul (Str.ofString " ") k).length = k.toNat := by
  rw [← sg_len, sg_mul h, List.length_replicate]
theorem sg_lead {rs : List Int} {spare : Int} (hs : 0 ≤ spare) : sg (leadText rs spare) = (rs.flatMap fun r => sg (runText r)) ++ (List.replicate spare.toNat 32 ++ [120, 32, 9]) := by
  unfold leadText
  rw [sg_app, sg_app, sg_runs, sg_mul hs, show sg (Str.ofString "x \t") = [120, 32, 9] from by decide +kernel, List.append_assoc]
theorem lead_len {rs : List Int} {spare : Int} (h : ∀ r ∈ rs, 0 ≤ r ∧ r ≤ 31) (hl : rs.length ≤ 4) (hs : 0 ≤ spare ∧ spare < 5) : (leadText rs spare).length ≤ 400 := by
  rw [← sg_len, sg_lead hs.1, List.length_append, List.length_append, List.length_replicate]
  have := flat_len rs h
  show _ + (_ + 3) ≤ 400
  omega
theorem codes_eq (x : Str) : KStt.codes x = (sg x).map fun (c : Nat) => (c : Int) := rfl
theorem lead_codes {rs : List Int} {spare : Int} (h : ∀ r ∈ rs, 0 ≤ r) (hs : 0 ≤ spare) : KStt.codes (leadText rs spare) = leadL rs spare ++ 120 :: [32, 9] := by
  have e1 : ∀ q : List Int, (∀ r ∈ q, 0 ≤ r) → (q.flatMap fun r => sg (runText r)).map (fun (c : Nat) => (c : Int)) = q.flatMap runL := by
    intro q
    induction q with
    | nil => intro _; rfl
    | cons r q ih =>
      intro hq
      rw [List.flatMap_cons, List.map_append, ih fun z hz => hq z (.tail _ hz), sg_run (hq r (.head _)), List.flatMap_cons]
      unfold runL
      rw [List.map_append, List.map_replicate]
      rfl
  rw [codes_eq, sg_lead hs, List.map_append, e1 rs h, List.map_append, List.map_replicate]
  unfold leadL
  rw [List.append_assoc]
  rfl
theorem lead_signs {rs : List Int} {spare : Int} : ∀ c ∈ leadL rs spare, c = 32 ∨ c = 9 := by
  intro c hc
  rcases List.mem_append.mp hc with hc | hc
  · obtain ⟨r, _, hr⟩ := List.mem_flatMap.mp hc
    rcases List.mem_append.mp hr with h | h
    · exact .inl (List.eq_of_mem_replicate h)
    · exact .inr (List.mem_singleton.mp h)
  · exact .inl (List.eq_of_mem_replicate hc)
theorem lead_ascii {rs : List Int} {spare : Int} (h : ∀ r ∈ rs, 0 ≤ r) (hs : 0 ≤ spare) : (leadText rs spare).cps.all (· < 128) = true := by
  rw [← Array.all_toList, List.all_eq_true]
  intro c hc
  have hm : (c : Int) ∈ KStt.codes (leadText rs spare) := List.mem_map_of_mem (f := fun (c : Nat) => (c : Int)) hc
  rw [lead_codes h hs] at hm
  have : (c : Int) = 32 ∨ (c : Int) = 9 ∨ (c : Int) = 120 := by
    rcases List.mem_append.mp hm with hm | hm
    · rcases lead_signs _ hm with h | h
      · exact .inl h
      · exact .inr (.inl h)
    · simp only [List.mem_cons, List.not_mem_nil, or_false] at hm
      rcases hm with h | h | h
      · exact .inr (.inr h)
      · exact .inl h
      · exact .inr (.inl h)
  have h2 : c < 128 := by omega
  exact decide_eq_true h2
theorem runs_room {rs : List Int} (h : ∀ r ∈ rs, 0 ≤ r ∧ r ≤ 31) (hl : rs.length ≤ 4) : ((rs.map runText).map (·.length)).sum + (rs.map runText).length * 64 ≤ 16777216 := by
  have : ∀ q : List Int, (∀ r ∈ q, 0 ≤ r ∧ r ≤ 31) → ((q.map runText).map (·.length)).sum ≤ q.length * 32 := by
    intro q
    induction q with
    | nil => intro _; exact Nat.le_refl _
    | cons r q ih =>
      intro hq
      have h1 := run_len (hq r (.head _))
      have h2 := ih fun z hz => hq z (.tail _ hz)
      simp only [List.map_cons, List.sum_cons, List.length_cons]
      omega
  have := this rs h
  rw [List.length_map]
  omega
/-- the runs of a script -/
noncomputable def runsL (xs : List Int) : List Int := (xs.take 3).map (fun k => k.fmod 32) ++ [30]
theorem runs_low (xs : List Int) : ∀ r ∈ runsL xs, 0 ≤ r ∧ r ≤ 31 := by
  intro r hr
  rcases List.mem_append.mp hr with hr | hr
  · obtain ⟨z, _, rfl⟩ := List.mem_map.mp hr
    have h0 : 0 ≤ z.fmod 32 := Int.fmod_nonneg_of_pos _ (by decide)
    have h1 : z.fmod 32 < 32 := Int.fmod_lt_of_pos _ (by decide)
    omega
  · have := List.mem_singleton.mp hr
    omega
theorem runs_four (xs : List Int) : (runsL xs).length ≤ 4 := by
  unfold runsL
  rw [List.length_append, List.length_map, List.length_take, List.length_singleton]
  omega
section
variable {prog : Program} {w : World} {A : Around} {h₀ : Heap} {L : Addr} {m : Str → Option Value} {env : Env} {elt : PySem.Expr} {x : Str} {scope : Scope} {cl : List (Str × Addr)} {s : Shared} {S : Led → Prop} {P : Nat → Value → Prop} {Fin : List Value → Led → Prop} {news : Led}
/-- texts from a list of ints -/
theorem comp_its {vs : List Value} {ns : List Int} (g : Int → Str) (hi : IntsAre vs ns)
    (turn : ∀ n t ys I oI C oC D m₂ h tk (E' : Value → Shared → Prop), n ∈ ns → LCg.NsObj oC m₂ → m₂ x = some (.int n t) → Fr h₀ L h m → News h₀ L h ((I, oI) :: (C, oC) :: (D, LCg.lst ys) :: news) → LCg.Off3 I C D news → ((@Ne Nat I C) ∧ (@Ne Nat I D) ∧ (@Ne Nat C D)) →
      wpAny (model prog w) A (eval elt (compEnvC scope cl C env)) (LCg.CompEnd h₀ L m { s with heap := h, toks := tk } I oI C oC D (LCg.lst ys) S (fun y nw' => nw' = news ∧ ∃ t', y = .str (g n) t')) E' { s with heap := h, toks := tk })
    (fin : ∀ ys, StrsAre ys (ns.map g) → Fin ys news) : LCg.CompRest prog w A h₀ L m env elt x scope cl s S (fun i v => vs.toArray[i]? = some v) Fin vs.toArray.size 0 [] news := by
  refine comp_inv (fun i ys nw => nw = news ∧ StrsAre ys ((ns.take i).map g)) ⟨rfl, .nil⟩ ?_ ?_
  · rintro i v ys nw I oI C oC D m₂ h tk E' hlt hv ⟨rfl, hys⟩ hC hx F N off ne
    obtain ⟨hl, t, rfl⟩ := en_item hi hv
    have e0 : ns.getD i 0 = ns[i] := by rw [List.getD_eq_getElem?_getD, List.getElem?_eq_getElem hl]; rfl
    refine wpAny_mono (turn (ns.getD i 0) t ys I oI C oC D m₂ h tk E' (by rw [e0]; exact List.getElem_mem hl) hC hx F N off ne) (fun y s₂ hq => ?_) fun _ _ e => e
    obtain ⟨h', tk', nw', e, F', N', off', hS, hn, t', rfl⟩ := hq
    refine ⟨h', tk', nw', e, F', N', off', hS, hn, ?_⟩
    have e1 : (ns.take (i + 1)).map g = (ns.take i).map g ++ [g (ns.getD i 0)] := by
      rw [List.take_add_one, List.map_append]
      simp [hl]
    rw [e1]
    exact strs_end9 hys
  · rintro ys nw ⟨rfl, h⟩
    have hl : ns.take vs.toArray.size = ns := by rw [List.size_toArray, hi.length]; exact List.take_length
    rw [hl] at h
    exact fin ys h
/-- ints from a range -/
theorem comp_rng {n : Nat} (g : Int → Int)
    (turn : ∀ (i : Nat) t ys I oI C oC D m₂ h tk (E' : Value → Shared → Prop), i < n → LCg.NsObj oC m₂ → m₂ x = some (.int (0 + (i : Int)) t) → Fr h₀ L h m → News h₀ L h ((I, oI) :: (C, oC) :: (D, LCg.lst ys) :: news) → LCg.Off3 I C D news → ((@Ne Nat I C) ∧ (@Ne Nat I D) ∧ (@Ne Nat C D)) →
      wpAny (model prog w) A (eval elt (compEnvC scope cl C env)) (LCg.CompEnd h₀ L m { s with heap := h, toks := tk } I oI C oC D (LCg.lst ys) S (fun y nw' => nw' = news ∧ ∃ t', y = .int (g (0 + (i : Int))) t')) E' { s with heap := h, toks := tk })
    (fin : ∀ ys, IntsAre ys ((rangeKs 0 n).map g) → Fin ys news) : LCg.CompRest prog w A h₀ L m env elt x scope cl s S (fun i v => ∃ t, v = .int (0 + (i : Int)) t) Fin n 0 [] news := by
  refine comp_inv (fun i ys nw => nw = news ∧ IntsAre ys ((rangeKs 0 i).map g)) ⟨rfl, IntsAre.nil⟩ ?_ ?_
  · rintro i v ys nw I oI C oC D m₂ h tk E' hlt ⟨t, rfl⟩ ⟨rfl, hys⟩ hC hx F N off ne
    refine wpAny_mono (turn i t ys I oI C oC D m₂ h tk E' hlt hC hx F N off ne) (fun y s₂ hq => ?_) fun _ _ e => e
    obtain ⟨h', tk', nw', e, F', N', off', hS, hn, t', rfl⟩ := hq
    refine ⟨h', tk', nw', e, F', N', off', hS, hn, ?_⟩
    rw [rangeKs_snoc, List.map_append]
    exact ints_snoc hys
  · rintro ys nw ⟨rfl, h⟩
    exact fin ys h
end
theorem news_trim {h₀ h : Heap} {L : Addr} {a b c d e f g i : Addr × Obj} {r : Led} (N : News h₀ L h (a :: b :: c :: d :: e :: f :: g :: i :: r)) : News h₀ L h (b :: f :: r) := fun p hp => by
  rcases List.mem_cons.mp hp with rfl | hp
  · exact N _ (.tail _ (.head _))
  · rcases List.mem_cons.mp hp with rfl | hp
    · exact N _ (.tail _ (.tail _ (.tail _ (.tail _ (.tail _ (.head _))))))
    · exact N _ (.tail _ (.tail _ (.tail _ (.tail _ (.tail _ (.tail _ (.tail _ (.tail _ hp))))))))
noncomputable def Hold (p : Prop) : Prop := p
theorem hold_in {p : Prop} (h : Hold p) : p := h
theorem news_sub {h₀ h : Heap} {L : Addr} {a b : Led} (N : News h₀ L h a) (hs : ∀ p ∈ b, p ∈ a) : News h₀ L h b := fun p hp => N p (hs p hp)
theorem sub_one {k a b c d r x : Addr × Obj} {rest : Led} : ∀ p ∈ r :: k :: a :: b :: c :: d :: x :: rest, p ∈ k :: a :: b :: c :: d :: r :: x :: rest := by
  intro p hp
  simp only [List.mem_cons] at hp ⊢
  rcases hp with h | h | h | h | h | h | h | h <;> simp [h]
/-- the words' lists to the end -/
theorem sub_words {wd du r k a b c d x y z : Addr × Obj} {wl : Led} : ∀ p ∈ wd :: du :: r :: k :: a :: b :: c :: d :: x :: y :: z :: wl, p ∈ wd :: (wl ++ [du, r, k, a, b, c, d, x, y, z]) := by
  intro p hp
  simp only [List.mem_cons, List.mem_append, List.not_mem_nil, or_false] at hp ⊢
  rcases hp with h | h | h | h | h | h | h | h | h | h | h | h <;> simp [h]
/-- the lead to the front -/
theorem sub_cols {wd du r k a b c d : Addr × Obj} {rest : Led} : ∀ p ∈ a :: b :: c :: d :: wd :: du :: r :: k :: rest, p ∈ wd :: du :: r :: k :: a :: b :: c :: d :: rest := by
  intro p hp
  simp only [List.mem_cons] at hp ⊢
  rcases hp with h | h | h | h | h | h | h | h | h <;> simp [h]
/-- the runs and the kinds to the front, behind what was told by columns -/
theorem sub_half {cc wd du r k a b c d : Addr × Obj} {rest : Led} : ∀ p ∈ r :: k :: du :: rest, p ∈ cc :: a :: b :: c :: d :: wd :: du :: r :: k :: rest := by
  intro p hp
  simp only [List.mem_cons] at hp ⊢
  rcases hp with h | h | h | h <;> simp [h]
theorem wled_mem {es : List WEnt} {R : Led} (e : wLed es.reverse = R) : ∀ q ∈ es, (q.1, listOf q.2.toArray 0) ∈ R := by
  intro q hq
  rw [← e]
  unfold wLed
  exact List.mem_map.mpr ⟨q, List.mem_reverse.mpr hq, rfl⟩
/-- what the contract of the columns asks of a lead -/
theorem law_counts {rs : List Int} {spare : Int} (hs : 0 ≤ spare) (h : ∀ r ∈ rs, 0 ≤ r ∧ r ≤ 31) (hl : rs.length ≤ 4) : CountsOk (wsFold (leadL rs spare)).cs := by
  rw [(ws_lead hs fun r hr => (h r hr).1).1]
  exact counts_ok h hl
theorem law_nt {rs : List Int} {spare nt : Int} (e : nt = (wsFold (leadL rs spare)).nt) (hs : 0 ≤ spare) (h : ∀ r ∈ rs, 0 ≤ r ∧ r ≤ 31) (hl : rs.length ≤ 4) : 0 ≤ nt ∧ nt ≤ 400 := by
  rw [e, (ws_lead hs fun r hr => (h r hr).1).2.2]
  omega

end
section
theorem fresh_Law : True := by
  w_top off
  k_with_none
  k_with "m mine enter" => (k_dflt (refine' code_def ?z143k1 ?z143k2 ?z143k3 ?z143k4 ?z143k5 ?z143kA ?z143kF ?z143kK ?z143k6 ?z143k7 ?z143k8 ?z143k9 ?z143kB ?_ ?z143c2 ?z143c3 ?z143c4 ?z143c5; (case z143kA => exact rfl); (case z143kF => exact rfl); (case z143kK => assumption); (case z143k1 => k_asm); (case z143k2 => k_asm); (case z143k3 => k_asm); (case z143k4 => k_asm); (case z143k5 => k_asm); (case z143k6 => k_is); (case z143k7 => k_is); (case z143k8 => ktr_room); (case z143k9 => first | exact BindsTo.of_eq rfl | exact binds_K (by k_in) rfl (by k_is) rfl rfl rfl | (refine' kp_binds ?z143kx ?z143ke; (case z143kx => k_in); (case z143ke => exact fun _ => rfl))); (case z143c5 => decide); (case z143kB => exact locs rfl); (case z143c2 => exact rfl); (case z143c3 => exact rfl); (case z143c4 => exact rfl); k_whole; intro zg' zL' zh' zFG' zF' zN' zB' zX' zT'; (try dsimp only); (try k_lift zB'); (try k_fold)))
  k_with "m k_all" => ((refine Mine.allLt_ne ?_; first | assumption | exact And.right (by assumption) | exact And.right (And.right (by assumption)) | exact And.right (And.right (And.right (by assumption))) | exact And.right (And.right (And.right (And.right (by assumption)))) | exact And.right (And.right (And.right (And.right (And.right (by assumption)))))))
  k_with "m mine pull" => (first | (refine' Mine.Pull.head ?z145a; (case z145a => k_all)) | (refine' Mine.Pull.tail ?z145a ?z145b; (case z145a => k_ne); (case z145b => walk_at "mine pull")))
  k_with "m k_all" => ((refine Mine.all_append ?z146a ?z146b; (case z146a => k_all); (case z146b => k_all)))
  k_with "m getItem ref int" => ((k_here; (with_reducible show wpAny _ _ (getItem (Value.ref _) (Value.int (List.getD _ _ _) _)) _ _ _); k_dflt (refine' Mine.kinds_get ?z147k1 ?z147k2 ?z147k3 ?z147k4 ?z147k5 ?_; (case z147k1 => k_asm); (case z147k2 => k_mem); (case z147k3 => with_reducible assumption); (case z147k4 => assumption); (case z147k5 => assumption)); intro zt9 zb9 zc9; walk_say "KINDS"))
  k_with "m mine for" => (((with_reducible rename Fr _ _ _ _ => zlF'); (with_unfolding_all refine' For_invVF zlF' ?z148k1 ?z148k2 ?_; (case z148k1 => exact rfl); (case z148k2 => exact rfl); k_whole)))
  k_with "m mine enterC" => (k_dflt (refine' code_defC ?z149k1 ?z149k2 ?z149k3 ?z149k4 ?z149k5 ?z149kA ?z149kF ?z149kK ?z149k6 ?z149k7 ?z149k8 ?z149k9 ?z149kB ?z149kD ?_ ?z149c2 ?z149c3 ?z149c4; (case z149kA => exact rfl); (case z149kF => exact rfl); (case z149kK => assumption); (case z149k1 => k_asm); (case z149k2 => k_asm); (case z149k3 => k_asm); (case z149k4 => k_asm); (case z149k5 => k_asm); (case z149k6 => k_is); (case z149k7 => k_is); (case z149k8 => ktr_room); (case z149k9 => first | exact BindsTo.of_eq rfl | exact binds_K (by k_in) rfl (by k_is) rfl rfl rfl | (refine' kp_binds ?z149kx ?z149ke; (case z149kx => k_in); (case z149ke => exact fun _ => rfl))); (case z149kB => exact rfl); (case z149kD => decide +kernel); (case z149c2 => exact rfl); (case z149c3 => exact rfl); (case z149c4 => exact rfl); k_whole; intro zg' zL' zh' ztk' zcells' zFG' zF' zN' zY' zB' zX' zT' zl1; (try k_lt zl1); k_cells zY'; (try simp only [List.cons_append, List.nil_append] at zN'); (try dsimp only); (try k_lift zB'); (try k_fold)))
  k_with "m mine news" => (((with_reducible rename News _ _ _ _ => znX9); with_reducible (first | exact znX9 | exact Mine.news_tl znX9 | exact Mine.news_tl (Mine.news_tl znX9) | exact Mine.news_tl (Mine.news_tl (Mine.news_tl znX9)) | exact Mine.news_tl (Mine.news_tl (Mine.news_tl (Mine.news_tl znX9))) | exact Mine.news_tl (Mine.news_tl (Mine.news_tl (Mine.news_tl (Mine.news_tl znX9)))) | exact Mine.news_tl (Mine.news_tl (Mine.news_tl (Mine.news_tl (Mine.news_tl (Mine.news_tl znX9))))))))
  k_with "m k_all" => (with_reducible assumption)
  exact trivial
theorem tab_len1 : (Str.ofString "\t").length ≤ 400 := by decide +kernel
theorem xtab_len : (Str.ofString "x \t").length ≤ 400 := by decide +kernel
theorem nil_len64 : (Str.ofString "").length ≤ 64 := by decide +kernel
theorem rules_Law_1 : True := by
  k_with "m binaryOp Add str str" => ((k_here; (with_reducible show wpAny _ _ (binaryOp Operator.Add (Value.str _ _) (Value.str _ _)) _ _ _); (refine KOpn.add (add_fit ?z152x ?z152y) ?_; (case z152x => with_reducible (first | exact tab_len1 | exact xtab_len | assumption)); (case z152y => with_reducible (first | exact tab_len1 | exact xtab_len | assumption))); intro zt9 zk9 zl9; walk_say "ADD"))
  k_with "m call builtin:str.join" => ((k_here; (with_reducible show wpAny _ _ (call (Value.builtin _) [Value.str _ _, Value.ref _]) _ _ _); (with_reducible rename News _ _ _ _ => znJ); (with_reducible rename StrsAre _ _ => zsJ); (with_unfolding_all refine join_listC (znJ.isList (.head _)) zsJ nil_len64 (runs_room (runs_low _) (runs_four _)) ?_); intro zt9 zk9; walk_say "JOIN"))
  k_with "m eval ListComp" => ((k_here; (with_reducible show wpAny _ _ (eval (PySem.Expr.ListComp (PySem.Expr.BinOp _ PySem.Operator.Add _ _) _ _ _) _) _ _ _); refine hold_in ?_; walk_say "HOLD"))
  k_with "m exec Assign cons ListComp" => ((k_here; (with_reducible show wpAny _ _ (exec (Stmt.Assign [PySem.Expr.Name _ _] (PySem.Expr.ListComp (PySem.Expr.Call _ _ _ _) _ _ _) _) _) _ _ _); refine hold_in ?_; walk_say "HOLD"))
  k_with "m compareOp Eq ref ref" => ((k_here; (with_reducible show wpAny _ _ (compareOp CmpOp.Eq (Value.ref _) (Value.ref _)) _ _ _); refine hold_in ?_; walk_say "HOLD"))
  k_with "m call ref" => ((k_here; (with_reducible show wpAny _ _ (call (Value.ref _) _) _ _ _); refine hold_in ?_; walk_say "HOLD"))
  exact trivial
set_option maxHeartbeats 8000000 in
theorem law_holds : PySem.Challenge.rw_ty0049_01.Holds := hd (by
  k_go0
  all_goals try k_fold
  iterate 19 walk1
  refine wpAny_Assign_Name ?_ (by with_unfolding_all rfl)
  k_dflt (refine en_comp (F₉ := by k_asm) (by with_unfolding_all rfl) (by decide) (by rfl) (by decide) (by rfl) (by rfl) (by decide) ?_)
  iterate 16 walk1
  k_here
  with_reducible rename IntsAre _ (List.take 3 _) => hI3
  rename List Int => xs
  refine' en_call (fun i ys => IntsAre ys (enF (((List.take 3 xs).sum + 3).fmod 4) i)) ?hh ?hF ?hN ?hm ?hsz ?h0 ?ht ?hd
  case hh => exact rfl
  case hF => k_asm
  case hN => k_asm
  case hm => k_mem
  case hsz => exact Nat.le_of_ble_eq_true rfl
  case h0 => exact IntsAre.nil
  case ht =>
    intro g i x ys hx hP t e oe it oit C oC D m₂ h tk E' hC ha hb F N
    obtain ⟨hi4, tx, rfl⟩ := en_item (ns := [2, 3, 5, 7]) (IntsAre.cons _ _ (IntsAre.cons _ _ (IntsAre.cons _ _ (IntsAre.cons _ _ IntsAre.nil)))) hx
    clear hx
    k_steps
    · exact ⟨_, _, rfl, F, N, ints_eq (ints_snoc hP) (en_yes (by assumption))⟩
    · exact ⟨_, _, rfl, F, N, ints_eq hP (en_no (by assumption))⟩
  case hd =>
    intro ys D h tk hP F N o1
    replace hP : IntsAre ys (enF (((List.take 3 xs).sum + 3).fmod 4) 4) := hP
    obtain ⟨q, hq⟩ := en_primes (t := (List.take 3 xs).sum)
    rw [hq] at hP
    clear hq
    have h5a : 0 ≤ (List.take 3 xs).sum.fmod 5 := Int.fmod_nonneg_of_pos _ (by decide)
    have h5b : (List.take 3 xs).sum.fmod 5 < 5 := Int.fmod_lt_of_pos _ (by decide)
    have hA0 := runs_low xs
    have hA1 : (Txt.join (Str.ofString "") ((runsL xs).map runText)).length ≤ 400 := Nat.le_trans (runs_len hA0 (runs_four xs)) (by decide)
    have hA2 : (Txt.mul (Str.ofString " ") ((List.take 3 xs).sum.fmod 5)).length ≤ 400 := by rw [mul_len h5a]; omega
    have hA3 : (Txt.join (Str.ofString "") ((runsL xs).map runText) ++ Txt.mul (Str.ofString " ") ((List.take 3 xs).sum.fmod 5)).length ≤ 400 := by
      have h1 := runs_len hA0 (runs_four xs)
      unfold runsText at h1
      rw [Str.length_append, mul_len h5a]; omega
    k_steps
    unfold Hold
    with_reducible rename IntsAre _ (_ ++ [30]) => hR0
    have hR := (show IntsAre _ (runsL xs) from hR0)
    k_dflt (refine LCg.ListComp_U (F₀ := by k_asm) (by with_unfolding_all rfl) (by decide) (by rfl) (by decide) (by rfl) ?_)
    walk1
    k_dflt (refine LCg.CompSrc.ledger (by rfl) (by k_asm) (by k_asm) (by k_mem) (by rw [List.size_toArray, hR.length, sizeLine_eq]; have := runs_four xs; omega) ?_)
    intro g'
    refine comp_its runText hR (fun n' t' ys' I' oI' C' oC' D' m' h' tk' E' hn' hC' hx' F' N' off' ne' => ?_) (fun ys' hys' => ?_)
    · have hb' := hA0 n' hn'
      have hm1 : (Txt.mul (Str.ofString " ") n').length ≤ 400 := by rw [mul_len hb'.1]; omega
      k_steps
      exact LCg.CompEnd.intro F' N' _ (fun p hp => hp) off' (.inr ⟨_, .head _, rfl, _, rfl⟩) ⟨rfl, _, rfl⟩
    k_steps
    unfold Hold
    with_reducible rename News _ _ _ _ => nX
    replace nX := news_trim nX
    k_here
    refine' ctr_use (c_ws _ (leadText (runsL xs) ((List.take 3 xs).sum.fmod 5)) _ (lead_ascii (fun r hr => (hA0 r hr).1) h5a) (lead_len hA0 (runs_four xs) ⟨h5a, h5b⟩) (leadL (runsL xs) ((List.take 3 xs).sum.fmod 5)) [32, 9] (lead_codes (fun r hr => (hA0 r hr).1) h5a) lead_signs _) ?k1 ?k2 ?k3 ?k4 ?k5 ?k6 ?k7 ?k8 ?_
    case k4 => k_asm
    case k1 => k_asm
    case k2 => k_asm
    case k3 => k_asm
    case k5 => k_asm
    case k6 => exact rfl
    case k7 => ktr_room
    case k8 => ktr_units
    rintro v9 nw9 h9 tk9 ⟨l, e9, f9, hci, hlb, hlt⟩ F9 N9
    subst e9
    subst f9
    try dsimp only
    try k_fold
    k_steps
    unfold Hold
    k_dflt (refine LCg.Assign_ListComp_U (F₀ := by k_asm) (by rfl) (by with_unfolding_all rfl) (by with_unfolding_all rfl) (by decide) (by rfl) (by decide) (by rfl) (by rfl) (by rfl) ?_)
    iterate 7 walk1
    k_dflt (refine LCg.CompSrc.range (by rfl) (by k_asm) (by k_asm) (by assumption) (by decide) (by rfl) (by exact Nat.le_of_ble_eq_true rfl) ?_)
    intro g2'
    refine comp_rng (n := 32) (kindF (primesL q.val)) (fun i2' t2' ys2' I2' oI2' C2' oC2' D2' m2' h2' tk2' E2' hi2' hC2' hx2' F2' N2' off2' ne2' => ?_) (fun ys2' hys2' => ?_)
    · k_steps
      unfold Hold
      k_here
      refine' ctr_use (ctr_mem (c_kind _ _ _ (primesL q.val) _ (0 + (i2' : Int)) _ hP (primes_ok q) ⟨by omega, by omega⟩) ?cm) ?k1 ?k2 ?k3 ?k4 ?k5 ?k6 ?k7 ?k8 ?_
      case k4 => k_asm
      case k1 => k_asm
      case k2 => k_asm
      case k3 => k_asm
      case k5 => k_asm
      case k6 => exact rfl
      case k7 => ktr_room
      case k8 => ktr_units
      case cm => k_mem
      rintro v9 nw9 h9 tk9 ⟨e9, t9, f9⟩ F9 N9
      subst e9
      subst f9
      exact LCg.CompEnd.intro F9 N9 _ (fun p hp => hp) off2' trivial ⟨rfl, _, rfl⟩
    have hK : IntsAre ys2' (kindsL (primesL q.val)) := hys2'
    k_steps
    unfold Hold
    k_here
    with_reducible rename News _ _ _ _ => nX
    replace nX := news_sub nX sub_one
    refine' ctr_use (c_one _ _ _ _ _ (runsL xs) (kindsL (primesL q.val)) _ _ _ hR (runs_four xs) hA0 hK (kinds_len _) (kinds_ok q)) ?k1 ?k2 ?k3 ?k4 ?k5 ?k6 ?k7 ?k8 ?_
    case k4 => k_asm
    case k1 => k_asm
    case k2 => k_asm
    case k3 => k_asm
    case k5 => k_asm
    case k6 => exact rfl
    case k7 => ktr_room
    case k8 => ktr_units
    rintro v9 nw9 h9 tk9 ⟨dO, vsO, nO, e9, f9, l9, hO⟩ F9 N9
    subst e9
    subst f9
    try dsimp only
    try k_fold
    k_steps
    unfold Hold
    k_here
    have hf0 : 0 ≤ ((List.take 3 xs).sum.fdiv 4 + 5).fmod 30 ∧ ((List.take 3 xs).sum.fdiv 4 + 5).fmod 30 < 30 := ⟨Int.fmod_nonneg_of_pos _ (by decide), Int.fmod_lt_of_pos _ (by decide)⟩
    refine' ctr_use (c_words _ (((List.take 3 xs).sum.fdiv 4 + 5).fmod 30) _ hf0 (words_size hf0) _) ?k1 ?k2 ?k3 ?k4 ?k5 ?k6 ?k7 ?k8 ?_
    case k4 => k_asm
    case k1 => k_asm
    case k2 => k_asm
    case k3 => k_asm
    case k5 => k_asm
    case k6 => exact rfl
    case k7 => ktr_room
    case k8 => ktr_units
    rintro v9 nw9 h9 tk9 ⟨dW, nW, es, e9, f9, hes8, hwt⟩ F9 N9
    subst e9
    subst f9
    replace N9 := news_sub N9 sub_words
    generalize hWL : wLed es.reverse = R9 at N9
    have hwl := wled_mem hWL
    clear hWL
    try dsimp only
    try k_fold
    k_steps
    unfold Hold
    k_here
    with_reducible rename News _ _ _ _ => nX
    replace nX := news_sub nX sub_cols
    refine' ctr_use (c_columns _ l _ ((List.take 3 xs).sum.fmod 5) _ D _ (primesL q.val) _ dW nW es (((List.take 3 xs).sum.fdiv 4 + 5).fmod 30) hci (law_counts h5a hA0 (runs_four xs)) (law_nt hlt h5a hA0 (runs_four xs)) hP (primes_ok q) _ ?cp ?cw ?ce hes8 hwt (col_ok hf0)) ?k1 ?k2 ?k3 ?k4 ?k5 ?k6 ?k7 ?k8 ?_
    case k4 => k_asm
    case k1 => k_asm
    case k2 => k_asm
    case k3 => k_asm
    case k5 => k_asm
    case k6 => exact rfl
    case k7 => ktr_room
    case k8 => ktr_units
    case cp => k_mem
    case cw => exact .head _
    case ce => exact fun e he => .tail _ (.tail _ (.tail _ (.tail _ (.tail _ (.tail _ (.tail _ (hwl e he)))))))
    rintro v9 nw9 h9 tk9 ⟨dC, vsC, nC, e9, f9, hC9⟩ F9 N9
    subst e9
    subst f9
    rw [hlb, hlt, law_cols q hf0 h5a hA0] at hC9
    try dsimp only
    try k_fold
    k_steps
    unfold Hold
    k_here
    with_reducible rename News _ _ _ _ => nX
    refine eq_intsK (nX.isList (.head _)) hC9 (nX.isList (.tail _ (.tail _ (.tail _ (.tail _ (.tail _ (.tail _ (.head _)))))))) hO ?hu ?_
    case hu => units_room
    rw [decide_eq_true rfl]
    replace nX := news_sub nX sub_half
    try dsimp only
    try k_fold
    k_steps
    unfold Hold
    k_here
    refine' ctr_use (c_halving _ _ _ _ _ (runsL xs) (kindsL (primesL q.val)) _ _ _ hR (runs_four xs) hK (kinds_len _) (kinds_ok q)) ?k1 ?k2 ?k3 ?k4 ?k5 ?k6 ?k7 ?k8 ?_
    case k4 => k_asm
    case k1 => k_asm
    case k2 => k_asm
    case k3 => k_asm
    case k5 => k_asm
    case k6 => exact rfl
    case k7 => ktr_room
    case k8 => ktr_units
    rintro v9 nw9 h9 tk9 ⟨dH, vsH, nH, e9, f9, l9, hH⟩ F9 N9
    subst e9
    subst f9
    rw [law_half q hA0] at hH
    try dsimp only
    try k_fold
    k_steps
    unfold Hold
    k_here
    with_reducible rename News _ _ _ _ => nY
    refine eq_intsK (nY.isList (.head _)) hH (nY.isList (.tail _ (.tail _ (.tail _ (.head _))))) hO ?hu ?_
    case hu => units_room
    rw [decide_eq_true rfl]
    try dsimp only
    try k_fold
    k_steps)

end
end Mine
theorem PySem.Challenge.cw_ty0049_01_holds : PySem.Challenge.rw_ty0049_01.Holds :=
  Mine.law_holds
