import PyProof.Rows.All
import Wide.All
import OpenK.AllK
import Wide.FinOn
import PySem.Challenge.RW_in0158_01
set_option Elab.async false
set_option maxRecDepth 100000
set_option compiler.extract_closed false
section
open PySem PySem.W PyProof.Rows
namespace Mine
theorem q1 : Str.ofString "twin_re_1_quoprimime" = ⟨⟨[116, 119, 105, 110, 95, 114, 101, 95, 49, 95, 113, 117, 111, 112, 114, 105, 109, 105, 109, 101]⟩⟩ := by decide +kernel
theorem q2 : Str.ofString "twin_re_1_fnmatch" = ⟨⟨[116, 119, 105, 110, 95, 114, 101, 95, 49, 95, 102, 110, 109, 97, 116, 99, 104]⟩⟩ := by decide +kernel
theorem q3 : Str.ofString "_special_chars_map" = ⟨⟨[95, 115, 112, 101, 99, 105, 97, 108, 95, 99, 104, 97, 114, 115, 95, 109, 97, 112]⟩⟩ := by decide +kernel
theorem q4 : Str.ofString "twin_re_1_shlex" = ⟨⟨[116, 119, 105, 110, 95, 114, 101, 95, 49, 95, 115, 104, 108, 101, 120]⟩⟩ := by decide +kernel
theorem q5 : Str.ofString "_find_unsafe" = ⟨⟨[95, 102, 105, 110, 100, 95, 117, 110, 115, 97, 102, 101]⟩⟩ := by decide +kernel
theorem q6 : Str.ofString "__annotations__" = ⟨⟨[95, 95, 97, 110, 110, 111, 116, 97, 116, 105, 111, 110, 115, 95, 95]⟩⟩ := by decide +kernel
set_option hygiene false in
local macro_rules | `(tactic| refine $e:term) => do
    if e.raw.getKind == ``Lean.Parser.Term.app && (e.raw[0].getId.toString.splitOn "holds_open").length > 1 then
      `(tactic| ((refine' $e); (case' hl => refine And.left (b := ?bb) ?both); (case hc => exact And.right ?both)))
    else Lean.Macro.throwUnsupported
set_option maxHeartbeats 8000000 in
open_top hd for PySem.Challenge.rw_in0158_01
end Mine
namespace Mine
theorem view_is : Mine.hd.view_39 = PySem.W.view PySem.Challenge.rw_in0158_01.row.prog [0, 2, 3, 4, 5, 7, 8, 10, 11, 13, 14, 16, 17, 18, 20, 21, 22, 23, 24, 25, 26, 27, 28, 29, 30] := by kernel_rfl
/-- what the top leaves, in a world -/
def LeftAt (w : World) : Prop := (openEnds treeTable PySem.Challenge.rw_in0158_01.row.toRowW.prog w 4416).map (fun s => (openSeen Mine.hd.view_39 [Str.ofString "twin_re_1_quoprimime", Str.ofString "twin_re_1_fnmatch", Str.ofString "_special_chars_map", Str.ofString "twin_re_1_shlex", Str.ofString "_find_unsafe"] (importedModules PySem.Challenge.rw_in0158_01.row.toRowW.prog.main.body) (fun s => xlAt Mine.hd.view_39 [] s && recOk (RowW.records PySem.Challenge.rw_in0158_01.row.toRowW) s) true s, (kmHook Mine.hd.heap_39 [2, 3, 35, 36, 37, 39, 40, 42, 43, 44, 46, 47, 49, 50, 51, 53, 54, 56, 57, 61, 62, 63, 65, 66, 68, 69, 71, 75, 77, 78, 80, 81, 82, 84, 85, 87, 88, 89, 91, 92, 94, 95, 99, 100, 101, 102, 104, 105, 107, 108, 109, 112, 113, 114, 116, 117, 119, 120, 121, 123, 124, 126, 127, 128, 130, 131, 133, 134, 135, 137, 138, 140, 141, 142, 145, 146, 147, 149, 150, 152, 153, 154, 157, 158, 159, 161, 162, 164, 165, 166, 168, 169, 171, 172, 173, 176, 177] (fun _ => by kernel_rfl) [83]).obs s)) = some (openGood Mine.hd.view_39 [Str.ofString "twin_re_1_quoprimime", Str.ofString "twin_re_1_fnmatch", Str.ofString "_special_chars_map", Str.ofString "twin_re_1_shlex", Str.ofString "_find_unsafe"], (kmHook Mine.hd.heap_39 [2, 3, 35, 36, 37, 39, 40, 42, 43, 44, 46, 47, 49, 50, 51, 53, 54, 56, 57, 61, 62, 63, 65, 66, 68, 69, 71, 75, 77, 78, 80, 81, 82, 84, 85, 87, 88, 89, 91, 92, 94, 95, 99, 100, 101, 102, 104, 105, 107, 108, 109, 112, 113, 114, 116, 117, 119, 120, 121, 123, 124, 126, 127, 128, 130, 131, 133, 134, 135, 137, 138, 140, 141, 142, 145, 146, 147, 149, 150, 152, 153, 154, 157, 158, 159, 161, 162, 164, 165, 166, 168, 169, 171, 172, 173, 176, 177] (fun _ => by kernel_rfl) [83]).val w)
theorem left_ff (w : World) : LeftAt ((w.withFollow "special-get-raises" false).withFollow "comprehension-iter-twice" false) := by
  delta LeftAt openEnds fencedOpening topFrom
  dsimp only
  rw [view_is]
  rw [q1, q2, q3, q4, q5, q6, PySem.W.Fast.te4187177175401517315, PySem.W.Fast.te5923862056798008813, PySem.W.Fast.te2368527892694137696, PySem.W.Fast.te2321478449398040233, PySem.W.Fast.te10274390034422433532, PySem.W.Fast.te14364793385576792824, PySem.W.Fast.te1435165496053646825, PySem.W.Fast.te14289696077712309145, PySem.W.Fast.te14082659384304107361, PySem.W.Fast.te8920871248978507458]
  kernel_rfl
theorem left_ft (w : World) : LeftAt ((w.withFollow "special-get-raises" true).withFollow "comprehension-iter-twice" false) := by
  delta LeftAt openEnds fencedOpening topFrom
  dsimp only
  rw [view_is]
  rw [q1, q2, q3, q4, q5, q6, PySem.W.Fast.te4187177175401517315, PySem.W.Fast.te5923862056798008813, PySem.W.Fast.te2368527892694137696, PySem.W.Fast.te2321478449398040233, PySem.W.Fast.te10274390034422433532, PySem.W.Fast.te14364793385576792824, PySem.W.Fast.te1435165496053646825, PySem.W.Fast.te14289696077712309145, PySem.W.Fast.te14082659384304107361, PySem.W.Fast.te8920871248978507458]
  kernel_rfl
theorem left_tf (w : World) : LeftAt ((w.withFollow "special-get-raises" false).withFollow "comprehension-iter-twice" true) := by
  delta LeftAt openEnds fencedOpening topFrom
  dsimp only
  rw [view_is]
  rw [q1, q2, q3, q4, q5, q6, PySem.W.Fast.te4187177175401517315, PySem.W.Fast.te5923862056798008813, PySem.W.Fast.te2368527892694137696, PySem.W.Fast.te2321478449398040233, PySem.W.Fast.te10274390034422433532, PySem.W.Fast.te14364793385576792824, PySem.W.Fast.te1435165496053646825, PySem.W.Fast.te14289696077712309145, PySem.W.Fast.te14082659384304107361, PySem.W.Fast.te8920871248978507458]
  kernel_rfl
theorem left_tt (w : World) : LeftAt ((w.withFollow "special-get-raises" true).withFollow "comprehension-iter-twice" true) := by
  delta LeftAt openEnds fencedOpening topFrom
  dsimp only
  rw [view_is]
  rw [q1, q2, q3, q4, q5, q6, PySem.W.Fast.te4187177175401517315, PySem.W.Fast.te5923862056798008813, PySem.W.Fast.te2368527892694137696, PySem.W.Fast.te2321478449398040233, PySem.W.Fast.te10274390034422433532, PySem.W.Fast.te14364793385576792824, PySem.W.Fast.te1435165496053646825, PySem.W.Fast.te14289696077712309145, PySem.W.Fast.te14082659384304107361, PySem.W.Fast.te8920871248978507458]
  kernel_rfl
theorem left (w : World) : LeftAt w :=
  byRow2 "comprehension-iter-twice" (P := LeftAt) (byRow2 "special-get-raises" (P := fun w => LeftAt (w.withFollow "comprehension-iter-twice" false)) left_ff left_ft) (byRow2 "special-get-raises" (P := fun w => LeftAt (w.withFollow "comprehension-iter-twice" true)) left_tf left_tt) w
end Mine
end
section
open PySem PySem.W PyProof.Rows
namespace Mine

/-- a text out of its codes -/
def S (l : List Nat) : Str := ⟨l.toArray⟩
theorem S_list (l : List Nat) : (S l).cps.toList = l := by simp [S]
theorem S_of (x : Str) : S x.cps.toList = x := by
  cases x; simp [S]
theorem S_len (l : List Nat) : (S l).length = l.length := by simp [S, Str.length]
theorem S_inj {a b : List Nat} (h : S a = S b) : a = b := by
  have := congrArg (fun x => x.cps.toList) h
  simpa [S] using this
theorem S_app (a b : List Nat) : S a ++ S b = S (a ++ b) := by
  refine PySem.Str.ext' ?_
  rw [PySem.Str.cps_append]; simp [S]

/-- the signs that mean something to a regular expression -/
def special (c : Nat) : Bool := decide (c ∈ [40, 41, 91, 93, 123, 125, 63, 42, 43, 45, 124, 94, 36, 92, 46, 38, 126, 35, 32, 9, 10, 13, 11, 12])
/-- the signs that a shell would not take bare -/
def must (c : Nat) : Bool := if (97 ≤ c ∧ c ≤ 122) ∨ (65 ≤ c ∧ c ≤ 90) ∨ (48 ≤ c ∧ c ≤ 57) then false else !decide (c ∈ [95, 64, 37, 43, 61, 58, 44, 46, 47, 45])
/-- a figure's worth -/
def fig (c : Nat) : Int := if 48 ≤ c ∧ c ≤ 57 then (c : Int) - 48 else if 65 ≤ c ∧ c ≤ 70 then (c : Int) - 55 else if 97 ≤ c ∧ c ≤ 102 then (c : Int) - 87 else -1

theorem lit_special : (Str.ofString "()[]{}?*+-|^$\\.&~# \t\n\r\x0b\x0c").cps.toList = [40, 41, 91, 93, 123, 125, 63, 42, 43, 45, 124, 94, 36, 92, 46, 38, 126, 35, 32, 9, 10, 13, 11, 12] := by decide +kernel
theorem lit_safe : (Str.ofString "_@%+=:,./-").cps.toList = [95, 64, 37, 43, 61, 58, 44, 46, 47, 45] := by decide +kernel

theorem special_occ (c : Nat) : (!(Builtin.Str.occurrences (Str.ofString "()[]{}?*+-|^$\\.&~# \t\n\r\x0b\x0c") ⟨#[c]⟩ 0 (Str.length (Str.ofString "()[]{}?*+-|^$\\.&~# \t\n\r\x0b\x0c")) 1).isEmpty) = special c := by
  rw [StrLaws.found_one, lit_special]; rfl
theorem safe_occ (c : Nat) : (!!(Builtin.Str.occurrences (Str.ofString "_@%+=:,./-") ⟨#[c]⟩ 0 (Str.length (Str.ofString "_@%+=:,./-")) 1).isEmpty) = !decide (c ∈ [95, 64, 37, 43, 61, 58, 44, 46, 47, 45]) := by
  rw [StrLaws.found_one, lit_safe]

theorem lt1 {c d : Nat} {y : Str} (hy : y.cps.toList = [d]) : ((⟨#[c]⟩ : Str).cps.toList < y.cps.toList) ↔ c < d := by
  rw [hy]
  have h := StrLaws.lt_cons_cons c d [] []
  rw [StrLaws.lt_nil_nil, Bool.and_false, Bool.or_false] at h
  exact decide_eq_decide.mp h
theorem lt2 {c d : Nat} {y : Str} (hy : y.cps.toList = [d]) : (y.cps.toList < (⟨#[c]⟩ : Str).cps.toList) ↔ d < c := by
  rw [hy]
  have h := StrLaws.lt_cons_cons d c [] []
  rw [StrLaws.lt_nil_nil, Bool.and_false, Bool.or_false] at h
  exact decide_eq_decide.mp h
theorem lit_a : (Str.ofString "a").cps.toList = [97] := by decide +kernel
theorem lit_z : (Str.ofString "z").cps.toList = [122] := by decide +kernel
theorem lit_A : (Str.ofString "A").cps.toList = [65] := by decide +kernel
theorem lit_Z : (Str.ofString "Z").cps.toList = [90] := by decide +kernel
theorem lit_0 : (Str.ofString "0").cps.toList = [48] := by decide +kernel
theorem lit_9 : (Str.ofString "9").cps.toList = [57] := by decide +kernel

def figs : Str := Str.ofString "0123456789ABCDEFabcdef"
theorem lit_figs : figs.cps.toList = [48, 49, 50, 51, 52, 53, 54, 55, 56, 57, 65, 66, 67, 68, 69, 70, 97, 98, 99, 100, 101, 102] := by decide +kernel
theorem fig_find (c : Nat) : (if 15 < Txt.find (Str.ofString "0123456789ABCDEFabcdef") ⟨#[c]⟩ then Txt.find (Str.ofString "0123456789ABCDEFabcdef") ⟨#[c]⟩ - 6 else Txt.find (Str.ofString "0123456789ABCDEFabcdef") ⟨#[c]⟩) = fig c := by
  by_cases hc : c < 128
  · have : ∀ c : Fin 128, (if 15 < Txt.find (Str.ofString "0123456789ABCDEFabcdef") ⟨#[c.val]⟩ then Txt.find (Str.ofString "0123456789ABCDEFabcdef") ⟨#[c.val]⟩ - 6 else Txt.find (Str.ofString "0123456789ABCDEFabcdef") ⟨#[c.val]⟩) = fig c.val := by decide +kernel
    exact this ⟨c, hc⟩
  · have hf : fig c = -1 := by unfold fig; rw [if_neg (by omega), if_neg (by omega), if_neg (by omega)]
    have hn : Txt.find (Str.ofString "0123456789ABCDEFabcdef") ⟨#[c]⟩ = -1 := by
      rw [find_is_find3]
      rcases StrLaws.find3_spec (Str.ofString "0123456789ABCDEFabcdef") c 0 with ⟨h, _⟩ | ⟨k, _, _, hk, hc', _⟩
      · exact h
      · exfalso
        have h1 : (Str.ofString "0123456789ABCDEFabcdef").length = 22 := by decide +kernel
        rw [h1] at hk
        have : ∀ k : Fin 22, (Str.ofString "0123456789ABCDEFabcdef").cps.getD k.val 0 < 128 := by decide +kernel
        have := this ⟨k, hk⟩
        simp only at this
        omega
    rw [hn, hf]; rfl

end Mine
end
section
open PySem PySem.W PyProof.Rows
namespace Mine

/-- what a call hands back: a value, the frame and the ledger as they were -/
abbrev RetV (h₀ : Heap) (L : Addr) (m : Str → Option Value) (news : List (Addr × Obj)) (s : Shared) (Q : Value → Shared → Prop) (R : Tok → Value) : Prop :=
  ∀ (t : Tok) (h' : Heap) (tk' : Nat), Fr h₀ L h' m → News h₀ L h' news → Q (R t) { s with heap := h', toks := tk' }

/-- the def at f, called with vs, hands back R; d frames and u units are asked for -/
def Says (prog : Program) (w : World) (f : Addr) (d u : Nat) (vs : List Value) (R : Tok → Value) : Prop :=
  ∀ (p : Program) (loose : List Str) (mean : ExcName → Option Value) (mg mb : Str → Option Value) (dp un : Nat) (gd : Option (List Code)) (cn : Str) (cs : Scope) (a : Addr) (ccd : Value) (cl : List (Str × Addr)) (outer : List Env) (A₀ : Around) (base h₀ : Heap) (L : Addr) (m : Str → Option Value) (news : List (Addr × Obj)) (s : Shared) (Q E : Value → Shared → Prop),
    Below A₀ base outer h₀ → Fr h₀ L s.heap m → (hd.heap_39 w.params).In h₀ → News h₀ L s.heap news → Top p loose mean mg mb h₀ → cs.kind = .function →
    dp + d < recursionLimit → un + u < cLine → RetV h₀ L m news s Q R →
    wpAny (model prog w) (ktrTop dp un gd cn cs L a ccd cl outer) (call (.ref f) vs) Q E s

end Mine
end
section
open PySem PySem.W PyProof.Rows
namespace Mine
/-- a text with each c turned into z -/
def subst (c : Nat) (z l : List Nat) : List Nat := l.flatMap fun d => if d = c then z else [d]
theorem subst_append (c : Nat) (z a b : List Nat) : subst c z (a ++ b) = subst c z a ++ subst c z b := by simp [subst]
theorem subst_free {c : Nat} {z l : List Nat} (h : c ∉ l) : subst c z l = l := by
  induction l with
  | nil => rfl
  | cons d r ih =>
    have h1 : d ≠ c := fun e => h (e ▸ .head _)
    have h2 : c ∉ r := fun e => h (.tail _ e)
    have := ih h2
    simp only [subst, List.flatMap_cons, if_neg h1] at this ⊢
    rw [this]; rfl
theorem join_list_app (z a : Str) : ∀ (b : Str) (r : List Str), (Str.join z (a :: b :: r)).cps.toList = a.cps.toList ++ z.cps.toList ++ (Str.join z (b :: r)).cps.toList := by
  intro b r
  simp [Str.join, PySem.Str.cps_append]
theorem join_subst (z : Str) (c : Nat) : ∀ parts : List Str, (∀ p ∈ parts, c ∉ p.cps.toList) → (Str.join z parts).cps.toList = subst c z.cps.toList (Str.join ⟨#[c]⟩ parts).cps.toList
  | [], _ => by simp [Str.join, subst, Str.empty]
  | [a], h => by simp only [Str.join]; exact (subst_free (h a (.head _))).symm
  | a :: b :: r, h => by
    rw [join_list_app, join_list_app, subst_append, subst_append, ← join_subst z c (b :: r) (fun p hp => h p (.tail _ hp)), subst_free (h a (.head _))]
    simp [subst]
theorem repl_one (x z : Str) (c : Nat) : (Txt.replace x ⟨#[c]⟩ z).cps.toList = subst c z.cps.toList x.cps.toList := by
  rw [StrLaws.replace_one, join_subst z c _ (StrLaws.split_free x c), StrLaws.join_split]
theorem splitjoin_one (x z : Str) (c : Nat) : (Txt.join z (Txt.split x ⟨#[c]⟩)).cps.toList = subst c z.cps.toList x.cps.toList := by
  unfold Txt.join
  rw [StrLaws.glued_eq_join, join_subst z c _ (StrLaws.split_free x c), StrLaws.join_split]
/-- nothing between: the pieces one behind the other -/
theorem join_nil_list : ∀ parts : List Str, (Txt.join (Str.ofString "") parts).cps.toList = parts.flatMap fun p => p.cps.toList := by
  intro parts
  have hz : (Str.ofString "").cps.toList = [] := by decide +kernel
  unfold Txt.join
  rw [StrLaws.glued_eq_join]
  induction parts with
  | nil => simp [Str.join, Str.empty]
  | cons a r ih =>
    cases r with
    | nil => simp [Str.join]
    | cons b r => rw [join_list_app, hz, ih]; simp
def one (c : Nat) : Str := ⟨#[c]⟩
theorem join_ones (ds : List Nat) : Txt.join (Str.ofString "") (ds.map one) = S ds := by
  refine PySem.Str.ext' (Array.toList_inj.mp ?_)
  rw [join_nil_list, S_list, List.flatMap_map]
  induction ds with
  | nil => rfl
  | cons d r ih => rw [List.flatMap_cons, ih]; rfl
theorem ones_len (ds : List Nat) : ((ds.map one).map (·.length)).sum = ds.length := by
  induction ds with
  | nil => rfl
  | cons d r ih => simp only [List.map_cons, List.sum_cons, ih, List.length_cons]; show 1 + _ = _; omega
theorem slice_clip (x : Str) (k b : Nat) (hk : k ≤ x.length) (hb : k ≤ b) : (Txt.slice x (some (k : Int)) (some (b : Int))).cps.toList = (x.cps.toList.drop k).take (b - k) := by
  have e : Txt.slice x (some (k : Int)) (some (b : Int)) = StrLaws.sliceText x (some (k : Int)) (some ((min b x.length : Nat) : Int)) := by
    unfold Txt.slice StrLaws.sliceText
    have : Builtin.Str.strSliceIndices (some (k : Int)) (some (b : Int)) 1 x.length = Builtin.Str.strSliceIndices (some (k : Int)) (some ((min b x.length : Nat) : Int)) 1 x.length := by
      unfold Builtin.Str.strSliceIndices
      have h1 : ¬ ((b : Int) < 0) := by omega
      have h2 : ¬ (((min b x.length : Nat) : Int) < 0) := by omega
      have h3 : max (0 : Int) (min (b : Int) x.length) = max (0 : Int) (min ((min b x.length : Nat) : Int) x.length) := by omega
      simp [h1, h2, h3]
    rw [this]
  rw [e, StrLaws.sliceText_nat x (by omega) (by omega)]
  have hl : (x.cps.toList.drop k).length = x.length - k := by simp [Str.length]
  show (x.cps.toList.drop k).take (min b x.length - k) = _
  by_cases h : b ≤ x.length
  · rw [Nat.min_eq_left h]
  · rw [Nat.min_eq_right (by omega), List.take_of_length_le (by omega), List.take_of_length_le (by omega)]
end Mine
end
section
open PySem PySem.W PyProof.Rows
namespace Mine
/-- a goal that the walk leaves alone -/
def Hold (P : Prop) : Prop := P
theorem Hold.out {P : Prop} (h : Hold P) : P := h
theorem allLt_ne {d : Addr} {l : List (Addr × Obj)} (h : AllLt d l) : ∀ p ∈ l, p.1 ≠ d := by
  induction l with
  | nil => intro p hp; cases hp
  | cons q r ih =>
    intro p hp
    rcases List.mem_cons.mp hp with e | hp
    · rw [e]; exact Nat.ne_of_lt h.1
    · exact ih h.2 p hp
theorem lt_ne {d : Addr} {l : List (Addr × Obj)} (h : ∀ p ∈ l, p.1 < d) : ∀ p ∈ l, p.1 ≠ d := fun p hp => Nat.ne_of_lt (h p hp)
end Mine
namespace Mine
section
variable {prog : Program} {w : World} {f : Addr} {d u : Nat} {vs : List Value} {p : Program} {loose : List Str} {mean : ExcName → Option Value} {mg mb : Str → Option Value} {dp un : Nat} {gd : Option (List Code)} {cn : Str} {cs : Scope} {a : Addr} {ccd : Value} {cl : List (Str × Addr)} {outer : List Env} {A₀ : Around} {base h₀ : Heap} {L : Addr} {m : Str → Option Value} {news : List (Addr × Obj)} {s : Shared} {Q E : Value → Shared → Prop}
theorem says_use {R : Tok → Value} (C : Says prog w f d u vs R) (B : Below A₀ base outer h₀) (F : Fr h₀ L s.heap m) (X : (hd.heap_39 w.params).In h₀) (N : News h₀ L s.heap news) (T : Top p loose mean mg mb h₀) (hk : cs.kind = .function)
    (hd : dp + d < recursionLimit) (hu : un + u < cLine) (ret : ∀ (t : Tok) (h' : Heap) (tk' : Nat), Fr h₀ L h' m → News h₀ L h' news → Q (R t) { s with heap := h', toks := tk' }) :
    wpAny (model prog w) (ktrTop dp un gd cn cs L a ccd cl outer) (call (.ref f) vs) Q E s := C _ _ _ _ _ _ _ _ _ _ _ _ _ _ _ _ _ _ _ _ _ _ _ B F X N T hk hd hu ret

/-- what a call hands back that makes a list of ints -/
abbrev RetL (h₀ : Heap) (L : Addr) (m : Str → Option Value) (news : List (Addr × Obj)) (s : Shared) (Q : Value → Shared → Prop) (os : List Int) : Prop :=
  ∀ (l : Addr) (us : List Value) (n : Nat) (h' : Heap) (tk' : Nat), IntsAre us os → Fr h₀ L h' m → News h₀ L h' ((l, PySem.W.listOf us.toArray n) :: news) → (∀ p ∈ news, p.1 < l) → Q (.ref l) { s with heap := h', toks := tk' }
/-- the def at f makes a list of the ints os -/
def SaysL (prog : Program) (w : World) (f : Addr) (d u : Nat) (vs : List Value) (os : List Int) : Prop :=
  ∀ (p : Program) (loose : List Str) (mean : ExcName → Option Value) (mg mb : Str → Option Value) (dp un : Nat) (gd : Option (List Code)) (cn : Str) (cs : Scope) (a : Addr) (ccd : Value) (cl : List (Str × Addr)) (outer : List Env) (A₀ : Around) (base h₀ : Heap) (L : Addr) (m : Str → Option Value) (news : List (Addr × Obj)) (s : Shared) (Q E : Value → Shared → Prop),
    Below A₀ base outer h₀ → Fr h₀ L s.heap m → (hd.heap_39 w.params).In h₀ → News h₀ L s.heap news → Top p loose mean mg mb h₀ → cs.kind = .function →
    dp + d < recursionLimit → un + u < cLine → RetL h₀ L m news s Q os →
    wpAny (model prog w) (ktrTop dp un gd cn cs L a ccd cl outer) (call (.ref f) vs) Q E s
theorem saysL_use {os : List Int} (C : SaysL prog w f d u vs os) (B : Below A₀ base outer h₀) (F : Fr h₀ L s.heap m) (X : (Mine.hd.heap_39 w.params).In h₀) (N : News h₀ L s.heap news) (T : Top p loose mean mg mb h₀) (hk : cs.kind = .function)
    (hd : dp + d < recursionLimit) (hu : un + u < cLine) (ret : ∀ (l : Addr) (us : List Value) (n : Nat) (h' : Heap) (tk' : Nat), IntsAre us os → Fr h₀ L h' m → News h₀ L h' ((l, PySem.W.listOf us.toArray n) :: news) → (∀ p ∈ news, p.1 < l) → Q (.ref l) { s with heap := h', toks := tk' }) :
    wpAny (model prog w) (ktrTop dp un gd cn cs L a ccd cl outer) (call (.ref f) vs) Q E s := C _ _ _ _ _ _ _ _ _ _ _ _ _ _ _ _ _ _ _ _ _ _ _ B F X N T hk hd hu ret
end
end Mine
namespace Mine
theorem all1 {m : Str → Option Value} {a : Str} {v : Value} (h : m a = some v) : ∀ p ∈ [(a, v)], m p.1 = some p.2 := fun p hp => by
  rcases List.mem_cons.mp hp with e | hp
  · rw [e]; exact h
  · cases hp
theorem all2 {m : Str → Option Value} {a b : Str} {v u : Value} (h : m a = some v) (h2 : m b = some u) : ∀ p ∈ [(a, v), (b, u)], m p.1 = some p.2 := fun p hp => by
  rcases List.mem_cons.mp hp with e | hp
  · rw [e]; exact h
  · exact all1 h2 p hp
theorem all3 {m : Str → Option Value} {a b c : Str} {v u r : Value} (h : m a = some v) (h2 : m b = some u) (h3 : m c = some r) : ∀ p ∈ [(a, v), (b, u), (c, r)], m p.1 = some p.2 := fun p hp => by
  rcases List.mem_cons.mp hp with e | hp
  · rw [e]; exact h
  · exact all2 h2 h3 p hp
end Mine
namespace Mine
theorem newList_A {M : Model} {A : Around} {E : Value → Shared → Prop} {s : Shared} {h₀ : Heap} {L : Addr} {m : Str → Option Value} {news : List (Addr × Obj)} {vs : List Value} {Q : Value → Shared → Prop} (F : Fr h₀ L s.heap m) (N : News h₀ L s.heap news)
    (h : ∀ l h', Fr h₀ L h' m → News h₀ L h' ((l, PySem.W.listOf vs.toArray 0) :: news) → AllLt l news → Q (.ref l) { s with heap := h' }) (hsz : vs.length ≤ sizeLine) : wpAny M A (newList vs) Q E s :=
  newList_K F N (fun l h' F N l1 => h l h' F N (allLt_of l1)) hsz
theorem lt_all {d : Addr} {l : List (Addr × Obj)} (h : AllLt d l) : ∀ p ∈ l, p.1 < d := by
  induction l with
  | nil => intro p hp; cases hp
  | cons q r ih =>
    intro p hp
    rcases List.mem_cons.mp hp with e | hp
    · rw [e]; exact h.1
    · exact ih h.2 p hp
end Mine
namespace Mine
section
variable {prog : Program} {w : World} {f : Addr} {d u : Nat} {y : Str} {t : Tok} {p : Program} {loose : List Str} {mean : ExcName → Option Value} {mg mb : Str → Option Value} {dp un : Nat} {gd : Option (List Code)} {cn : Str} {cs : Scope} {a : Addr} {ccd : Value} {cl : List (Str × Addr)} {outer : List Env} {A₀ : Around} {base h₀ : Heap} {L : Addr} {m : Str → Option Value} {news : List (Addr × Obj)} {s : Shared} {Q E : Value → Shared → Prop}
theorem saysL_nil (C : ∀ t, SaysL prog w f d u [.str y t] []) (B : Below A₀ base outer h₀) (F : Fr h₀ L s.heap m) (X : (Mine.hd.heap_39 w.params).In h₀) (N : News h₀ L s.heap news) (T : Top p loose mean mg mb h₀) (hk : cs.kind = .function)
    (hd : dp + d < recursionLimit) (hu : un + u < cLine) (ret : ∀ (l : Addr) (n : Nat) (h' : Heap) (tk' : Nat), Fr h₀ L h' m → News h₀ L h' ((l, PySem.W.listOf ([] : List Value).toArray n) :: news) → AllLt l news → Q (.ref l) { s with heap := h', toks := tk' }) :
    wpAny (model prog w) (ktrTop dp un gd cn cs L a ccd cl outer) (call (.ref f) [.str y t]) Q E s :=
  saysL_use (C t) B F X N T hk hd hu fun l us n h' tk' hi F N lt => by cases hi; exact ret l n h' tk' F N (allLt_of lt)
theorem saysL_one {o : Int} (C : ∀ t, SaysL prog w f d u [.str y t] [o]) (B : Below A₀ base outer h₀) (F : Fr h₀ L s.heap m) (X : (Mine.hd.heap_39 w.params).In h₀) (N : News h₀ L s.heap news) (T : Top p loose mean mg mb h₀) (hk : cs.kind = .function)
    (hd : dp + d < recursionLimit) (hu : un + u < cLine) (ret : ∀ (l : Addr) (n : Nat) (i : Tok) (h' : Heap) (tk' : Nat), Fr h₀ L h' m → News h₀ L h' ((l, PySem.W.listOf [.int o i].toArray n) :: news) → AllLt l news → Q (.ref l) { s with heap := h', toks := tk' }) :
    wpAny (model prog w) (ktrTop dp un gd cn cs L a ccd cl outer) (call (.ref f) [.str y t]) Q E s :=
  saysL_use (C t) B F X N T hk hd hu fun l us n h' tk' hi F N lt => by
    obtain ⟨i, vs', e, hi⟩ := hi.cons_inv
    have e2 := hi.nil_inv
    subst e2; subst e
    exact ret l n i h' tk' F N (allLt_of lt)
end
theorem own_neA {own news : List (Addr × Obj)} {l : Addr} {o : Obj} (hoff : OwnOff own (List.map (fun x => x.fst) ((l, o) :: news))) (hl : AllLt l news) : ∀ p ∈ news ++ own, p.1 ≠ l := fun p hp => by
  rcases List.mem_append.mp hp with h | h
  · exact allLt_ne hl p h
  · exact hoff p h l (.head _)
end Mine
namespace Mine
section
variable {h₀ : Heap} {x : Str} {σ : Type} {Led : σ → List (Addr × Obj)} {ps : σ → List (Str × Value)} {Facts : σ → Prop} {stored : List Str} {m₀ : Str → Option Value} {P : List Int → σ → Prop} {pre : List Int}
theorem end0 (c : σ) {L : Addr} {m' : Str → Option Value} {own news' : List (Addr × Obj)} {adr : List Addr} {s₁ : Shared} {h' : Heap} {tk : Nat}
    (F : Fr h₀ L h' m') (N : News h₀ L h' news') (hps : ps c = []) (ha : (Led c).map (·.1) = adr) (hf : Facts c) (hn : ∀ p ∈ Led c, p ∈ news') (ho : ∀ p ∈ own, p ∈ news') (hr : ∀ z, z ≠ x → stored.contains z = false → m' z = m₀ z) (hp : P pre c) :
    InvEndN h₀ L (KstS Led ps Facts x stored m₀ P pre) own adr s₁ { s₁ with heap := h', toks := tk } :=
  kst_end c F N hn ho ha hf (fun p h => by rw [hps] at h; cases h) (fun z h1 _ h3 => hr z h1 h3) hp
theorem end1 (c : σ) {nm : Str} {v : Value} {L : Addr} {m' : Str → Option Value} {own news' : List (Addr × Obj)} {adr : List Addr} {s₁ : Shared} {h' : Heap} {tk : Nat}
    (F : Fr h₀ L h' m') (N : News h₀ L h' news') (hps : ps c = [(nm, v)]) (hm : m' nm = some v) (ha : (Led c).map (·.1) = adr) (hf : Facts c) (hn : ∀ p ∈ Led c, p ∈ news') (ho : ∀ p ∈ own, p ∈ news') (hr : ∀ z, z ≠ x → z ≠ nm → stored.contains z = false → m' z = m₀ z) (hp : P pre c) :
    InvEndN h₀ L (KstS Led ps Facts x stored m₀ P pre) own adr s₁ { s₁ with heap := h', toks := tk } :=
  kst_end c F N hn ho ha hf (fun p h => by rw [hps] at h; rw [List.mem_singleton.mp h]; exact hm) (fun z h1 h2 h3 => hr z h1 (h2 (nm, v) (by rw [hps]; exact .head _)) h3) hp
theorem end2 (c : σ) {nm nn : Str} {v u : Value} {L : Addr} {m' : Str → Option Value} {own news' : List (Addr × Obj)} {adr : List Addr} {s₁ : Shared} {h' : Heap} {tk : Nat}
    (F : Fr h₀ L h' m') (N : News h₀ L h' news') (hps : ps c = [(nm, v), (nn, u)]) (hm : m' nm = some v) (hm2 : m' nn = some u) (ha : (Led c).map (·.1) = adr) (hf : Facts c) (hn : ∀ p ∈ Led c, p ∈ news') (ho : ∀ p ∈ own, p ∈ news') (hr : ∀ z, z ≠ x → z ≠ nm → z ≠ nn → stored.contains z = false → m' z = m₀ z) (hp : P pre c) :
    InvEndN h₀ L (KstS Led ps Facts x stored m₀ P pre) own adr s₁ { s₁ with heap := h', toks := tk } :=
  kst_end c F N hn ho ha hf (fun p h => by rw [hps] at h; exact all2 hm hm2 p h) (fun z h1 h2 h3 => hr z h1 (h2 (nm, v) (by rw [hps]; exact .head _)) (h2 (nn, u) (by rw [hps]; exact .tail _ (.head _))) h3) hp
end
end Mine
namespace Mine
section
variable {α : Type} {a b c d e : α} {r s : List α}
theorem sub1 : ∀ p ∈ a :: r, p ∈ a :: (r ++ s) := fun p hp => by
  rcases List.mem_cons.mp hp with h | h
  · exact h ▸ .head _
  · exact .tail _ (List.mem_append_left _ h)
theorem sub2 : ∀ p ∈ a :: r, p ∈ b :: a :: (r ++ s) := fun p hp => .tail _ (sub1 p hp)
theorem sub3 : ∀ p ∈ a :: r, p ∈ c :: b :: a :: (r ++ s) := fun p hp => .tail _ (sub2 p hp)
theorem sub4 : ∀ p ∈ a :: r, p ∈ d :: c :: b :: a :: (r ++ s) := fun p hp => .tail _ (sub3 p hp)
theorem sub5 : ∀ p ∈ a :: r, p ∈ e :: d :: c :: b :: a :: (r ++ s) := fun p hp => .tail _ (sub4 p hp)
theorem own1 : ∀ p ∈ s, p ∈ a :: (r ++ s) := fun p hp => .tail _ (List.mem_append_right _ hp)
theorem own2 : ∀ p ∈ s, p ∈ b :: a :: (r ++ s) := fun p hp => .tail _ (own1 p hp)
theorem own3 : ∀ p ∈ s, p ∈ c :: b :: a :: (r ++ s) := fun p hp => .tail _ (own2 p hp)
theorem own4 : ∀ p ∈ s, p ∈ d :: c :: b :: a :: (r ++ s) := fun p hp => .tail _ (own3 p hp)
theorem own5 : ∀ p ∈ s, p ∈ e :: d :: c :: b :: a :: (r ++ s) := fun p hp => .tail _ (own4 p hp)
end
end Mine
namespace Mine
theorem news_tail {h₀ h : Heap} {L : Addr} {p : Addr × Obj} {news : List (Addr × Obj)} (N : News h₀ L h (p :: news)) : News h₀ L h news := fun q hq => N q (.tail _ hq)
end Mine
namespace Mine
section
variable {prog : Program} {w : World} {f : Addr} {d u : Nat} {y : Str} {t : Tok} {p : Program} {loose : List Str} {mean : ExcName → Option Value} {mg mb : Str → Option Value} {dp un : Nat} {gd : Option (List Code)} {cn : Str} {cs : Scope} {a : Addr} {ccd : Value} {cl : List (Str × Addr)} {outer : List Env} {A₀ : Around} {base h₀ : Heap} {L : Addr} {m : Str → Option Value} {news : List (Addr × Obj)} {s : Shared} {Q E : Value → Shared → Prop}
theorem says_all {R : Tok → Value} (C : ∀ t, Says prog w f d u [.str y t] R) (B : Below A₀ base outer h₀) (F : Fr h₀ L s.heap m) (X : (Mine.hd.heap_39 w.params).In h₀) (N : News h₀ L s.heap news) (T : Top p loose mean mg mb h₀) (hk : cs.kind = .function)
    (hd : dp + d < recursionLimit) (hu : un + u < cLine) (ret : ∀ (t : Tok) (h' : Heap) (tk' : Nat), Fr h₀ L h' m → News h₀ L h' news → Q (R t) { s with heap := h', toks := tk' }) :
    wpAny (model prog w) (ktrTop dp un gd cn cs L a ccd cl outer) (call (.ref f) [.str y t]) Q E s :=
  says_use (C t) B F X N T hk hd hu ret
end
end Mine
end
section
open PySem PySem.Sre
namespace Mine
def codeD : Array Nat := #[14, 8, 1, 3, 3, 1, 1, 61, 0, 16, 61, 24, 16, 2, 2, 13, 11, 9, 0, 67043328, 126, 126, 0, 0, 0, 0, 0, 1, 1]
def stepN : Nat → Sre.M → Sre.M
  | 0, m => m
  | n + 1, m => stepN n m.step
theorem step_done {m : Sre.M} (h : m.outcome.isSome = true) : m.step = m := by
  unfold M.step; rw [if_pos h]
theorem stepN_done {m : Sre.M} (h : m.outcome.isSome = true) : ∀ n, stepN n m = m
  | 0 => rfl
  | n + 1 => by rw [stepN, step_done h]; exact stepN_done h n
theorem runFor_eq : ∀ (n : Nat) (m : Sre.M), m.runFor n = stepN n m
  | 0, _ => rfl
  | n + 1, m => by
    unfold M.runFor
    by_cases h : m.outcome.isSome = true
    · rw [if_pos h, stepN_done h]
    · rw [if_neg h, stepN]; exact runFor_eq n _
theorem stepN_add : ∀ (a b : Nat) (m : Sre.M), stepN (a + b) m = stepN b (stepN a m)
  | 0, b, m => by rw [Nat.zero_add]; rfl
  | a + 1, b, m => by rw [Nat.succ_add, stepN, stepN]; exact stepN_add a b _

/-- the machine at the start p -/
def atP (text : Array Nat) (lim p : Nat) (first : Bool) (seen : Seen) : Sre.M :=
  { code := codeD, text, lim, start := p, lastStart := lim, wholeText := false, mustAdvance := false, pc := 9, pos := p, handed := p, outermost := first, marks := #[], lastmark := -1, lastindex := -1, loops := #[], inner := none,
    frames := [{ wait := .nextStart, pc := 9, pos := p, outermost := first }], weight := 1, answer := none, seen, outcome := none }

theorem step_exec {m : Sre.M} (h1 : m.outcome.isSome = false) (h2 : m.answer = none) (h3 : m.pc < m.code.size) : m.step = m.exec := by
  unfold M.step; rw [h1, h2]; simp only [Bool.false_eq_true, if_false]; rw [if_pos h3]
theorem step_back {m : Sre.M} {yes : Bool} {f : Sre.Frame} {rest : List Sre.Frame} (h1 : m.outcome.isSome = false) (h2 : m.answer = some yes) (h3 : m.frames = f :: rest) :
    m.step = M.resume { m with answer := none, frames := rest, weight := m.weight - (1 + f.kept.marks.size), pc := f.pc, pos := f.pos, outermost := f.outermost } f yes := by
  unfold M.step; rw [h1, h2, h3]; simp only [Bool.false_eq_true, if_false]
theorem step_end {m : Sre.M} {yes : Bool} (h1 : m.outcome.isSome = false) (h2 : m.answer = some yes) (h3 : m.frames = []) :
    m.step = { m with outcome := some (if yes = true then .matched else .failed) } := by
  unfold M.step; rw [h1, h2, h3]; simp only [Bool.false_eq_true, if_false]
theorem exec_lit {m : Sre.M} (ho : ops[m.word 0]? = some .LITERAL) : m.exec = (if m.pos ≥ m.lim then ({ m with seen := m.seen.add (m.word 0) } : Sre.M).say false else
    match accepts m.code m.pc (m.text.getD m.pos 0) (m.seen.add (m.word 0)) with
    | .error why => ({ m with seen := m.seen.add (m.word 0) } : Sre.M).stick why
    | .ok (false, seen) => ({ m with seen } : Sre.M).say false
    | .ok (true, seen) => { m with seen, pc := m.pc + itemWidth m.code m.pc, pos := m.pos + 1 }) := by
  unfold M.exec; rw [ho]; rfl
theorem step_lit_end {text : Array Nat} {lim p : Nat} {first : Bool} {seen : Seen} (h : p ≥ lim) : (atP text lim p first seen).step = { atP text lim p first (seen.add 16) with answer := some false } := by
  rw [step_exec rfl rfl (show (9 : Nat) < 29 from by decide), exec_lit rfl, if_pos (show (atP text lim p first seen).pos ≥ (atP text lim p first seen).lim from h)]
  rfl
theorem step_lit_no {text : Array Nat} {lim p : Nat} {first : Bool} {seen : Seen} (h : p < lim) (hc : text.getD p 0 ≠ 61) : (atP text lim p first seen).step = { atP text lim p first (seen.add 16) with answer := some false } := by
  have ha : accepts codeD 9 (text.getD p 0) (seen.add 16) = .ok (false, seen.add 16) := by
    have e : accepts codeD 9 (text.getD p 0) (seen.add 16) = .ok (text.getD p 0 == 61, seen.add 16) := rfl
    rw [e, beq_eq_false_iff_ne.mpr hc]
  rw [step_exec rfl rfl (show (9 : Nat) < 29 from by decide), exec_lit rfl, if_neg (show ¬ (atP text lim p first seen).pos ≥ (atP text lim p first seen).lim from by show ¬ p ≥ lim; omega)]
  show (match accepts codeD 9 (text.getD p 0) (seen.add 16) with | .error why => _ | .ok (false, seen) => _ | .ok (true, seen) => _) = _
  rw [ha]
  rfl
theorem step_lit_yes {text : Array Nat} {lim p : Nat} {first : Bool} {seen : Seen} (h : p < lim) (hc : text.getD p 0 = 61) : (atP text lim p first seen).step = { atP text lim p first (seen.add 16) with pc := 11, pos := p + 1 } := by
  have ha : accepts codeD 9 (text.getD p 0) (seen.add 16) = .ok (true, seen.add 16) := by
    have e : accepts codeD 9 (text.getD p 0) (seen.add 16) = .ok (text.getD p 0 == 61, seen.add 16) := rfl
    rw [e, hc]; rfl
  rw [step_exec rfl rfl (show (9 : Nat) < 29 from by decide), exec_lit rfl, if_neg (show ¬ (atP text lim p first seen).pos ≥ (atP text lim p first seen).lim from by show ¬ p ≥ lim; omega)]
  show (match accepts codeD 9 (text.getD p 0) (seen.add 16) with | .error why => _ | .ok (false, seen) => _ | .ok (true, seen) => _) = _
  rw [ha]
  rfl

theorem exec_rep {m : Sre.M} (ho : ops[m.word 0]? = some .REPEAT_ONE) : m.exec =
    (if ((m.word 2 : Nat) : Int) > (m.lim : Int) - m.pos then ({ m with seen := m.seen.add (m.word 0) } : Sre.M).say false else
    match Sre.run m.code m.text (m.pc + 4) (min (m.word 3) ((m.lim : Int) - m.pos).toNat) m.pos 0 ((m.seen.add (m.word 0)).add (m.word 4)) with
    | .error why => ({ m with seen := m.seen.add (m.word 0) } : Sre.M).stick why
    | .ok (n, seen) => if n < m.word 2 then ({ m with seen } : Sre.M).say false else ({ m with seen, pos := m.pos + n } : Sre.M).afterRun .giveBack n (({ m with seen, pos := m.pos + n } : Sre.M).keep m.inner.isSome)) := by
  unfold M.exec; rw [ho]; rfl
theorem exec_success {m : Sre.M} (ho : ops[m.word 0]? = some .SUCCESS) (h1 : m.wholeText = false) (h2 : m.mustAdvance = false) : m.exec = ({ m with seen := m.seen.add (m.word 0), handed := m.pos } : Sre.M).say true := by
  unfold M.exec; rw [ho]
  have e : (m.outermost && ((m.wholeText && m.pos != m.lim) || (m.mustAdvance && m.pos == m.start))) = false := by rw [h1, h2]; simp
  show (if (m.outermost && ((m.wholeText && m.pos != m.lim) || (m.mustAdvance && m.pos == m.start))) = true then _ else _) = _
  rw [e, if_neg Bool.false_ne_true]
theorem set_hex (c : Nat) (seen : Seen) : ∃ seen', accepts codeD 15 c seen = .ok (decide (0 ≤ fig c), seen') := by
  have e : accepts codeD 15 c seen = (if (decide (c < 256) && (codeD.getD (17 + (1 + c / 32)) 0).testBit (c % 32)) = true then .ok (true, seen.add 9) else .ok (false, (seen.add 9).add 0)) := rfl
  rw [e]
  by_cases h : c < 256
  · have key : ∀ c : Fin 256, (codeD.getD (17 + (1 + c.val / 32)) 0).testBit (c.val % 32) = decide (0 ≤ fig c.val) := by decide +kernel
    have k := key ⟨c, h⟩
    dsimp only at k
    rw [decide_eq_true h, Bool.true_and, k]
    cases decide (0 ≤ fig c) with
    | true => exact ⟨_, rfl⟩
    | false => exact ⟨_, rfl⟩
  · rw [decide_eq_false h, Bool.false_and, if_neg Bool.false_ne_true]
    have hf : fig c = -1 := by unfold fig; rw [if_neg (by omega), if_neg (by omega), if_neg (by omega)]
    rw [hf]
    exact ⟨_, rfl⟩
abbrev hexAt (text : Array Nat) (i : Nat) : Prop := 0 ≤ fig (text.getD i 0)
theorem run_two (text : Array Nat) (p : Nat) (seen : Seen) : ∃ n seen', Sre.run codeD text 15 2 p 0 seen = .ok (n, seen') ∧ ((hexAt text p ∧ hexAt text (p + 1)) → n = 2) ∧ (¬ (hexAt text p ∧ hexAt text (p + 1)) → n < 2) := by
  obtain ⟨s1, h1⟩ := set_hex (text.getD p 0) seen
  by_cases a : 0 ≤ fig (text.getD p 0)
  · rw [decide_eq_true a] at h1
    obtain ⟨s2, h2⟩ := set_hex (text.getD (p + 1) 0) s1
    by_cases b : 0 ≤ fig (text.getD (p + 1) 0)
    · rw [decide_eq_true b] at h2
      refine ⟨2, s2, ?_, fun _ => rfl, fun h => absurd ⟨a, b⟩ h⟩
      unfold Sre.run
      rw [h1]
      show Sre.run codeD text 15 1 (p + 1) 1 s1 = _
      unfold Sre.run
      rw [h2]
      rfl
    · rw [decide_eq_false b] at h2
      refine ⟨1, s2, ?_, fun h => absurd h.2 b, fun _ => by decide⟩
      unfold Sre.run
      rw [h1]
      show Sre.run codeD text 15 1 (p + 1) 1 s1 = _
      unfold Sre.run
      rw [h2]
      rfl
  · rw [decide_eq_false a] at h1
    refine ⟨0, s1, ?_, fun h => absurd h.1 a, fun _ => by decide⟩
    unfold Sre.run
    rw [h1]
    rfl

def atL (text : Array Nat) (lim p : Nat) (first : Bool) (seen : Seen) : Sre.M := { atP text lim p first seen with pc := 11, pos := p + 1 }
/-- the start p has failed -/
def failedAt (text : Array Nat) (lim p : Nat) (first : Bool) (seen : Seen) (pc pos : Nat) : Sre.M := { atP text lim p first seen with pc, pos, answer := some false }
def hit (text : Array Nat) (lim p : Nat) : Prop := p + 3 ≤ lim ∧ text.getD p 0 = 61 ∧ hexAt text (p + 1) ∧ hexAt text (p + 2)

theorem step_failed_on {text : Array Nat} {lim p : Nat} {first : Bool} {seen : Seen} {pc pos : Nat} (h : p < lim) : (failedAt text lim p first seen pc pos).step = atP text lim (p + 1) false seen := by
  rw [step_back (f := { wait := .nextStart, pc := 9, pos := p, outermost := first }) (rest := []) rfl rfl rfl]
  unfold M.resume
  show (if false = true then _ else if p < lim then _ else _) = _
  rw [if_neg Bool.false_ne_true, if_pos h]
  rfl
theorem step_failed_off {text : Array Nat} {lim p : Nat} {first : Bool} {seen : Seen} {pc pos : Nat} (h : ¬ p < lim) : (failedAt text lim p first seen pc pos).step = { atP text lim p first seen with frames := [], weight := 0, answer := some false } := by
  rw [step_back (f := { wait := .nextStart, pc := 9, pos := p, outermost := first }) (rest := []) rfl rfl rfl]
  unfold M.resume
  show (if false = true then _ else if p < lim then _ else _) = _
  rw [if_neg Bool.false_ne_true, if_neg h]
  rfl
theorem step_rep_short {text : Array Nat} {lim p : Nat} {first : Bool} {seen : Seen} (h : ¬ p + 3 ≤ lim) : ∃ seen', (atL text lim p first seen).step = failedAt text lim p first seen' 11 (p + 1) := by
  refine ⟨seen.add 24, ?_⟩
  rw [step_exec rfl rfl (show (11 : Nat) < 29 from by decide), exec_rep rfl, if_pos (show (((atL text lim p first seen).word 2 : Nat) : Int) > ((atL text lim p first seen).lim : Int) - (atL text lim p first seen).pos from by
    show ((2 : Nat) : Int) > (lim : Int) - ((p + 1 : Nat) : Int); omega)]
  rfl
theorem step_rep_no {text : Array Nat} {lim p : Nat} {first : Bool} {seen : Seen} (h : p + 3 ≤ lim) (hn : ¬ (hexAt text (p + 1) ∧ hexAt text (p + 2))) : ∃ seen', (atL text lim p first seen).step = failedAt text lim p first seen' 11 (p + 1) := by
  obtain ⟨n, s1, hr, _, h2⟩ := run_two text (p + 1) ((seen.add 24).add 13)
  have h2 := h2 hn
  refine ⟨s1, ?_⟩
  rw [step_exec rfl rfl (show (11 : Nat) < 29 from by decide), exec_rep rfl, if_neg (show ¬ (((atL text lim p first seen).word 2 : Nat) : Int) > ((atL text lim p first seen).lim : Int) - (atL text lim p first seen).pos from by
    show ¬ ((2 : Nat) : Int) > (lim : Int) - ((p + 1 : Nat) : Int); omega)]
  have e : min ((atL text lim p first seen).word 3) (((atL text lim p first seen).lim : Int) - (atL text lim p first seen).pos).toNat = 2 := by
    show min 2 ((lim : Int) - ((p + 1 : Nat) : Int)).toNat = 2; omega
  rw [e]
  show (match Sre.run codeD text 15 2 (p + 1) 0 ((seen.add 24).add 13) with | .error why => _ | .ok (n, seen) => _) = _
  rw [hr]
  show (if n < (atL text lim p first seen).word 2 then _ else _) = _
  rw [if_pos (show n < (atL text lim p first seen).word 2 from h2)]
  rfl
/-- the match stands: success is next -/
def atS (text : Array Nat) (lim p : Nat) (first : Bool) (seen : Seen) : Sre.M :=
  { atP text lim p first seen with pc := 28, pos := p + 3, handed := p + 3, weight := 2, frames := [{ wait := .giveBack, pc := 11, pos := p + 3, outermost := first, «count» := 2 }, { wait := .nextStart, pc := 9, pos := p, outermost := first }] }
theorem step_rep_yes {text : Array Nat} {lim p : Nat} {first : Bool} {seen : Seen} (h : p + 3 ≤ lim) (hn : hexAt text (p + 1) ∧ hexAt text (p + 2)) : ∃ seen', (atL text lim p first seen).step = atS text lim p first seen' := by
  obtain ⟨n, s1, hr, h2, _⟩ := run_two text (p + 1) ((seen.add 24).add 13)
  have h2 := h2 hn
  subst h2
  refine ⟨s1, ?_⟩
  rw [step_exec rfl rfl (show (11 : Nat) < 29 from by decide), exec_rep rfl, if_neg (show ¬ (((atL text lim p first seen).word 2 : Nat) : Int) > ((atL text lim p first seen).lim : Int) - (atL text lim p first seen).pos from by
    show ¬ ((2 : Nat) : Int) > (lim : Int) - ((p + 1 : Nat) : Int); omega)]
  have e : min ((atL text lim p first seen).word 3) (((atL text lim p first seen).lim : Int) - (atL text lim p first seen).pos).toNat = 2 := by
    show min 2 ((lim : Int) - ((p + 1 : Nat) : Int)).toNat = 2; omega
  rw [e]
  show (match Sre.run codeD text 15 2 (p + 1) 0 ((seen.add 24).add 13) with | .error why => _ | .ok (n, seen) => _) = _
  rw [hr]
  show (if 2 < (atL text lim p first seen).word 2 then _ else _) = _
  rw [if_neg (show ¬ (2 < (atL text lim p first seen).word 2) from by show ¬ (2 < 2); decide)]
  rfl
theorem steps_success {text : Array Nat} {lim p : Nat} {first : Bool} {seen : Seen} : ∃ m : Sre.M, stepN 4 (atS text lim p first seen) = m ∧ m.outcome = some .matched ∧ m.start = p ∧ m.handed = p + 3 ∧ m.lastmark = -1 ∧ m.lastindex = -1 := by
  refine ⟨_, rfl, ?_⟩
  have e1 : (atS text lim p first seen).step = ({ atS text lim p first seen with seen := seen.add 1, handed := p + 3, answer := some true } : Sre.M) := by
    rw [step_exec rfl rfl (show (28 : Nat) < 29 from by decide), exec_success rfl rfl rfl]
    rfl
  have e4 : stepN 4 (atS text lim p first seen) = stepN 3 (atS text lim p first seen).step := rfl
  rw [e4, e1]
  exact ⟨rfl, rfl, rfl, rfl, rfl⟩

/-- what a search ends in: the first place that is hit, or none -/
inductive Ends (text : Array Nat) (lim p : Nat) : Sre.M → Prop
  | yes {m : Sre.M} {q : Nat} : m.outcome = some .matched → m.start = q → m.handed = q + 3 → m.lastmark = -1 → m.lastindex = -1 → p ≤ q → hit text lim q → (∀ i, p ≤ i → i < q → ¬ hit text lim i) → Ends text lim p m
  | no {m : Sre.M} : m.outcome = some .failed → (∀ i, p ≤ i → ¬ hit text lim i) → Ends text lim p m
theorem Ends.outcome {text : Array Nat} {lim p : Nat} {m : Sre.M} (h : Ends text lim p m) : m.outcome.isSome = true := by
  cases h with
  | yes h => rw [h]; rfl
  | no h => rw [h]; rfl
theorem search_from (text : Array Nat) (lim : Nat) : ∀ (d p : Nat) (first : Bool) (seen : Seen), lim - p = d → p ≤ lim → ∃ k, k ≤ 3 * d + 6 ∧ Ends text lim p (stepN k (atP text lim p first seen)) := by
  intro d
  induction d with
  | zero =>
    intro p first seen hd hp
    refine ⟨3, by omega, .no ?_ ?_⟩
    · show (stepN 2 (atP text lim p first seen).step).outcome = _
      rw [step_lit_end (by omega)]
      show (stepN 1 (failedAt text lim p first (seen.add 16) 9 p).step).outcome = _
      rw [step_failed_off (by omega)]
      rfl
    · intro i hi h
      have := h.1
      omega
  | succ d ih =>
    intro p first seen hd hp
    have hlt : p < lim := by omega
    have next : ∀ (j : Nat) (m : Sre.M) (seen' : Seen) (pc pos : Nat), j ≤ 2 → ¬ hit text lim p → stepN j (atP text lim p first seen) = failedAt text lim p first seen' pc pos → ∃ k, k ≤ 3 * (d + 1) + 6 ∧ Ends text lim p (stepN k (atP text lim p first seen)) := by
      intro j _ seen' pc pos hj hn e
      obtain ⟨k, hk, hE⟩ := ih (p + 1) false seen' (by omega) (by omega)
      refine ⟨j + (1 + k), by omega, ?_⟩
      rw [stepN_add, e, stepN_add]
      show Ends text lim p (stepN k (failedAt text lim p first seen' pc pos).step)
      rw [step_failed_on hlt]
      generalize stepN k (atP text lim (p + 1) false seen') = m at hE
      cases hE with
      | yes h1 h2 h3 h4 h5 h6 h7 h8 =>
        refine .yes h1 h2 h3 h4 h5 (by omega) h7 fun i hi hq => ?_
        by_cases e : i = p
        · rw [e]; exact hn
        · exact h8 i (by omega) hq
      | no h1 h2 =>
        refine .no h1 fun i hi => ?_
        by_cases e : i = p
        · rw [e]; exact hn
        · exact h2 i (by omega)
    by_cases hc : text.getD p 0 = 61
    · have e1 : stepN 1 (atP text lim p first seen) = atL text lim p first (seen.add 16) := by
        show (atP text lim p first seen).step = _
        rw [step_lit_yes hlt hc]; rfl
      by_cases h3 : p + 3 ≤ lim
      · by_cases hh : hexAt text (p + 1) ∧ hexAt text (p + 2)
        · obtain ⟨s2, e2⟩ := step_rep_yes (text := text) (lim := lim) (p := p) (first := first) (seen := seen.add 16) h3 hh
          obtain ⟨m, em, h1, h2, h4, h5, h6⟩ := steps_success (text := text) (lim := lim) (p := p) (first := first) (seen := s2)
          refine ⟨1 + (1 + 4), by omega, ?_⟩
          rw [stepN_add, e1, stepN_add]
          show Ends text lim p (stepN 4 (atL text lim p first (seen.add 16)).step)
          rw [e2, em]
          exact .yes h1 h2 h4 h5 h6 (Nat.le_refl _) ⟨h3, hc, hh.1, hh.2⟩ fun i hi hq => by omega
        · obtain ⟨s2, e2⟩ := step_rep_no (text := text) (lim := lim) (p := p) (first := first) (seen := seen.add 16) h3 hh
          refine next 2 (atP text lim p first seen) s2 11 (p + 1) (Nat.le_refl _) (fun h => hh ⟨h.2.2.1, h.2.2.2⟩) ?_
          rw [show 2 = 1 + 1 from rfl, stepN_add, e1]
          exact e2
      · obtain ⟨s2, e2⟩ := step_rep_short (text := text) (lim := lim) (p := p) (first := first) (seen := seen.add 16) h3
        refine next 2 (atP text lim p first seen) s2 11 (p + 1) (Nat.le_refl _) (fun h => h3 h.1) ?_
        rw [show 2 = 1 + 1 from rfl, stepN_add, e1]
        exact e2
    · refine next 1 (atP text lim p first seen) (seen.add 16) 9 p (by decide) (fun h => hc h.2.1) ?_
      show (atP text lim p first seen).step = _
      rw [step_lit_no hlt hc]; rfl
theorem ends_weaker {text : Array Nat} {lim p : Nat} (h : ¬ p + 3 ≤ lim) : ∀ i, p ≤ i → ¬ hit text lim i := fun i hi hh => by have := hh.1; omega
theorem forSearch_D {text : Array Nat} {lim p : Nat} (hp : p ≤ lim) : ∃ k, k ≤ 3 * lim + 6 ∧ Ends text lim p (stepN k (forSearch codeD text 0 p lim false)) := by
  by_cases h : lim - p < 3
  · refine ⟨1, by omega, .no ?_ (ends_weaker (by omega))⟩
    have e : (forSearch codeD text 0 p lim false).answer = some false ∧ (forSearch codeD text 0 p lim false).outcome.isSome = false ∧ (forSearch codeD text 0 p lim false).frames = [] := by
      unfold forSearch
      have hc : (decide (p > lim) || decide (lim - p < (header codeD).1)) = true := by
        rw [decide_eq_true (show lim - p < (header codeD).1 from h), Bool.or_true]
      dsimp only
      rw [if_pos hc]
      exact ⟨rfl, rfl, rfl⟩
    show ((forSearch codeD text 0 p lim false).step).outcome = _
    rw [step_end e.2.1 e.1 e.2.2]; rfl
  · obtain ⟨k, hk, hE⟩ := search_from text lim (lim - p) p true (({} : Seen).add 14) rfl hp
    refine ⟨k, by omega, ?_⟩
    have e : forSearch codeD text 0 p lim false = atP text lim p true (({} : Seen).add 14) := by
      unfold forSearch
      have hc : (decide (p > lim) || decide (lim - p < (header codeD).1)) = false := by
        rw [decide_eq_false (show ¬ lim - p < (header codeD).1 from h), decide_eq_false (by omega)]; rfl
      dsimp only
      rw [hc, if_neg Bool.false_ne_true]
      rfl
    rw [e]; exact hE
end Mine
end
section
open PySem PySem.Sre
namespace Mine
def codeS : Array Nat := #[14, 17, 4, 1, 1, 21, 9, 0, 604043296, 1, 0, 0, 0, 0, 0, 8, 4, 0, 13, 14, 21, 9, 0, 604043296, 1, 0, 0, 0, 0, 0, 8, 4, 0, 1]
def setS (c : Nat) (seen : Seen) : Except String (Bool × Seen) :=
  if (decide (c < 256) && (#[0, 604043296, 1, 0, 0, 0, 0, 0].getD (c / 32) 0).testBit (c % 32)) = true then .ok (false, (seen.add 21).add 9)
  else if isWord c = true then .ok (false, (((seen.add 21).add 9).add 8).add 59) else .ok (true, ((((seen.add 21).add 9).add 8).add 59).add 0)
theorem setS_must (c : Nat) (seen : Seen) : ∃ seen', setS c seen = .ok (must c, seen') := by
  unfold setS
  by_cases h : c < 256
  · have key : ∀ c : Fin 256, must c.val = !((#[0, 604043296, 1, 0, 0, 0, 0, 0].getD (c.val / 32) 0).testBit (c.val % 32) || isWord c.val) := by decide +kernel
    have k := key ⟨c, h⟩
    dsimp only at k
    rw [decide_eq_true h, Bool.true_and]
    cases h1 : (#[0, 604043296, 1, 0, 0, 0, 0, 0].getD (c / 32) 0).testBit (c % 32) with
    | true => rw [h1] at k; rw [if_pos rfl, k]; exact ⟨_, rfl⟩
    | false =>
      rw [h1] at k
      rw [if_neg Bool.false_ne_true]
      cases h2 : isWord c with
      | true => rw [h2] at k; rw [if_pos rfl, k]; exact ⟨_, rfl⟩
      | false => rw [h2] at k; rw [if_neg Bool.false_ne_true, k]; exact ⟨_, rfl⟩
  · rw [decide_eq_false h, Bool.false_and, if_neg Bool.false_ne_true]
    have h1 : isWord c = false := by
      unfold isWord isDigit
      simp only [Bool.or_eq_false_iff, Bool.and_eq_false_iff, decide_eq_false_iff_not, beq_eq_false_iff_ne]
      omega
    have h2 : must c = true := by
      unfold must
      rw [if_neg (by omega)]
      simp only [List.mem_cons, List.not_mem_nil, or_false, Bool.not_eq_true', decide_eq_false_iff_not]
      omega
    rw [h1, if_neg Bool.false_ne_true, h2]
    exact ⟨_, rfl⟩
theorem set5 (c : Nat) (seen : Seen) : inSet codeS c codeS.size 5 true seen = setS c seen := by
  unfold setS
  have e : inSet codeS c codeS.size 5 true seen = (if (decide (c < 256) && (codeS.getD (6 + (1 + c / 32)) 0).testBit (c % 32)) = true then .ok (false, (seen.add 21).add 9) else (do
      if ← category 4 c then pure (false, (((seen.add 21).add 9).add 8).add 59) else .ok (true, ((((seen.add 21).add 9).add 8).add 59).add 0))) := rfl
  rw [e]
  by_cases h : c < 256
  · have key : ∀ c : Fin 256, (codeS.getD (6 + (1 + c.val / 32)) 0) = (#[0, 604043296, 1, 0, 0, 0, 0, 0].getD (c.val / 32) 0) := by decide +kernel
    have k := key ⟨c, h⟩
    dsimp only at k
    rw [k]
    have ec : category 4 c = .ok (isWord c) := by
      show (Except.ok (isWord c)).map (· != false) = _
      cases isWord c <;> rfl
    rw [ec]
    rfl
  · rw [decide_eq_false h, Bool.false_and, Bool.false_and, if_neg Bool.false_ne_true, if_neg Bool.false_ne_true]
    have ec : category 4 c = .ok (isWord c) := by
      show (Except.ok (isWord c)).map (· != false) = _
      cases isWord c <;> rfl
    rw [ec]
    rfl
theorem set18 (c : Nat) (seen : Seen) : accepts codeS 18 c seen = setS c seen := by
  have e0 : accepts codeS 18 c seen = inSet codeS c codeS.size 20 true seen := rfl
  rw [e0]
  unfold setS
  have e : inSet codeS c codeS.size 20 true seen = (if (decide (c < 256) && (codeS.getD (21 + (1 + c / 32)) 0).testBit (c % 32)) = true then .ok (false, (seen.add 21).add 9) else (do
      if ← category 4 c then pure (false, (((seen.add 21).add 9).add 8).add 59) else .ok (true, ((((seen.add 21).add 9).add 8).add 59).add 0))) := rfl
  rw [e]
  have ec : category 4 c = .ok (isWord c) := by
    show (Except.ok (isWord c)).map (· != false) = _
    cases isWord c <;> rfl
  by_cases h : c < 256
  · have key : ∀ c : Fin 256, (codeS.getD (21 + (1 + c.val / 32)) 0) = (#[0, 604043296, 1, 0, 0, 0, 0, 0].getD (c.val / 32) 0) := by decide +kernel
    have k := key ⟨c, h⟩
    dsimp only at k
    rw [k, ec]
    rfl
  · rw [decide_eq_false h, Bool.false_and, Bool.false_and, if_neg Bool.false_ne_true, if_neg Bool.false_ne_true]
    rw [ec]
    rfl
/-- the first sign that must be quoted -/
theorem admitted_S (m : Sre.M) (hc : m.code = codeS) : ∀ (fuel s : Nat) (seen : Seen), m.lim < fuel + s → ∃ seen', (∃ q, M.admitted m fuel s seen = .ok (some q, seen') ∧ s ≤ q ∧ q < m.lim ∧ must (m.text.getD q 0) = true) ∨
    (M.admitted m fuel s seen = .ok (none, seen') ∧ ∀ i, s ≤ i → i < m.lim → must (m.text.getD i 0) = false) := by
  intro fuel
  induction fuel with
  | zero =>
    intro s seen hf
    refine ⟨seen, .inr ⟨rfl, fun i h1 h2 => by omega⟩⟩
  | succ fuel ih =>
    intro s seen hf
    unfold M.admitted
    by_cases hs : s ≥ m.lim
    · rw [if_pos hs]
      exact ⟨seen, .inr ⟨rfl, fun i h1 h2 => by omega⟩⟩
    · rw [if_neg hs, hc, set5]
      obtain ⟨s1, h1⟩ := setS_must (m.text.getD s 0) seen
      rw [h1]
      cases hm : must (m.text.getD s 0) with
      | true => exact ⟨s1, .inl ⟨s, rfl, Nat.le_refl _, by omega, hm⟩⟩
      | false =>
        dsimp only
        obtain ⟨s2, h2 | h2⟩ := ih (s + 1) s1 (by omega)
        · obtain ⟨q, e, a, b, c⟩ := h2
          exact ⟨s2, .inl ⟨q, e, by omega, b, c⟩⟩
        · refine ⟨s2, .inr ⟨h2.1, fun i a b => ?_⟩⟩
          by_cases e : i = s
          · rw [e]; exact hm
          · exact h2.2 i (by omega) b

theorem exec_in {m : Sre.M} (ho : ops[m.word 0]? = some .IN) : m.exec = (if m.pos ≥ m.lim then ({ m with seen := m.seen.add (m.word 0) } : Sre.M).say false else
    match accepts m.code m.pc (m.text.getD m.pos 0) (m.seen.add (m.word 0)) with
    | .error why => ({ m with seen := m.seen.add (m.word 0) } : Sre.M).stick why
    | .ok (false, seen) => ({ m with seen } : Sre.M).say false
    | .ok (true, seen) => { m with seen, pc := m.pc + itemWidth m.code m.pc, pos := m.pos + 1 }) := by
  unfold M.exec; rw [ho]; rfl
/-- the machine of the shell's pattern, ahead of its first start -/
def baseS (text : Array Nat) (lim : Nat) : Sre.M :=
  { code := codeS, text, lim, start := 0, lastStart := lim, wholeText := false, mustAdvance := false, pc := 18, pos := 0, handed := 0, outermost := true, marks := #[], lastmark := -1, lastindex := -1, loops := #[], inner := none, frames := [], weight := 0, answer := none, seen := ({} : Seen).add 14, outcome := none }
def atQ (text : Array Nat) (lim q : Nat) (seen : Seen) : Sre.M :=
  { code := codeS, text, lim, start := q, lastStart := lim, wholeText := false, mustAdvance := false, pc := 18, pos := q, handed := q, outermost := true, marks := #[], lastmark := -1, lastindex := -1, loops := #[], inner := none, frames := [{ wait := .nextStart, pc := 18, pos := q, outermost := true }], weight := 1, answer := none, seen, outcome := none }
def atQ2 (text : Array Nat) (lim q : Nat) (seen : Seen) : Sre.M :=
  { code := codeS, text, lim, start := q, lastStart := lim, wholeText := false, mustAdvance := false, pc := 33, pos := q + 1, handed := q, outermost := true, marks := #[], lastmark := -1, lastindex := -1, loops := #[], inner := none, frames := [{ wait := .nextStart, pc := 18, pos := q, outermost := true }], weight := 1, answer := none, seen, outcome := none }
theorem forSearch_S (text : Array Nat) (lim : Nat) : ∃ k, k ≤ 10 ∧
    (((stepN k (forSearch codeS text 0 0 lim false)).outcome = some .matched ∧ ∃ i, i < lim ∧ must (text.getD i 0) = true) ∨
    ((stepN k (forSearch codeS text 0 0 lim false)).outcome = some .failed ∧ ∀ i, i < lim → must (text.getD i 0) = false)) := by
  by_cases h : lim = 0
  · refine ⟨1, by decide, .inr ⟨?_, fun i hi => by omega⟩⟩
    have e : (forSearch codeS text 0 0 lim false).answer = some false ∧ (forSearch codeS text 0 0 lim false).outcome.isSome = false ∧ (forSearch codeS text 0 0 lim false).frames = [] := by
      unfold forSearch
      have hc : (decide (0 > lim) || decide (lim - 0 < (header codeS).1)) = true := by
        rw [decide_eq_true (show lim - 0 < (header codeS).1 from by show lim - 0 < 1; omega), Bool.or_true]
      dsimp only
      rw [if_pos hc]
      exact ⟨rfl, rfl, rfl⟩
    show ((forSearch codeS text 0 0 lim false).step).outcome = _
    rw [step_end e.2.1 e.1 e.2.2]; rfl
  · have e : forSearch codeS text 0 0 lim false = (baseS text lim).attemptFrom 0 true := by
      unfold forSearch
      have hc : (decide (0 > lim) || decide (lim - 0 < (header codeS).1)) = false := by
        rw [decide_eq_false (show ¬ lim - 0 < (header codeS).1 from by show ¬ lim - 0 < 1; omega), decide_eq_false (by omega)]; rfl
      dsimp only
      rw [hc, if_neg Bool.false_ne_true]
      rfl
    rw [e]
    unfold M.attemptFrom
    rw [if_neg (show ¬ (!(baseS text lim).hasFirstSet) = true from by show ¬ (!true) = true; decide)]
    obtain ⟨s1, h1 | h1⟩ := admitted_S (baseS text lim) rfl ((baseS text lim).lim + 1 - 0) 0 (baseS text lim).seen (by show lim < lim + 1 - 0 + 0; omega)
    · obtain ⟨q, ha, _, hq, hm⟩ := h1
      rw [ha]
      dsimp only
      have e0 : ({ baseS text lim with mustAdvance := false, seen := s1 } : Sre.M).attemptAt q true = atQ text lim q s1 := rfl
      rw [e0]
      refine ⟨4, by decide, .inl ⟨?_, q, hq, hm⟩⟩
      obtain ⟨s2, h2⟩ := setS_must (text.getD q 0) (s1.add 13)
      have hm' : must (text.getD q 0) = true := hm
      rw [hm'] at h2
      have st1 : (atQ text lim q s1).step = atQ2 text lim q s2 := by
        rw [step_exec rfl rfl (show (18 : Nat) < 34 from by decide), exec_in rfl, if_neg (show ¬ (atQ text lim q s1).pos ≥ (atQ text lim q s1).lim from by show ¬ q ≥ lim; have : q < lim := hq; omega)]
        show (match accepts codeS 18 (text.getD q 0) (s1.add 13) with | .error why => _ | .ok (false, seen) => _ | .ok (true, seen) => _) = _
        rw [set18, h2]
        rfl
      have st2 : (atQ2 text lim q s2).step = ({ atQ2 text lim q s2 with seen := s2.add 1, handed := q + 1, answer := some true } : Sre.M) := by
        rw [step_exec rfl rfl (show (33 : Nat) < 34 from by decide), exec_success rfl rfl rfl]
        rfl
      show (stepN 3 (atQ text lim q s1).step).outcome = _
      rw [st1]
      show (stepN 2 (atQ2 text lim q s2).step).outcome = _
      rw [st2]
      rfl
    · obtain ⟨ha, hn⟩ := h1
      rw [ha]
      dsimp only
      refine ⟨1, by decide, .inr ⟨rfl, fun i hi => hn i (Nat.zero_le _) hi⟩⟩
end Mine
end
open PySem PySem.W PyProof.Rows
local macro_rules | `(tactic| walk_at "InvEndN") => `(tactic| (refine Mine.Hold.out ?_))
local macro_rules | `(tactic| walk_at "pyIter ref") => `(tactic| (refine Mine.Hold.out ?_))
local macro_rules | `(tactic| walk_at "CompEnd") => `(tactic| (refine Mine.Hold.out ?_))
local macro_rules | `(tactic| walk_at "CompSrc") => `(tactic| (refine Mine.Hold.out ?_))
local macro_rules | `(tactic| walk_at "CompSrcS") => `(tactic| (refine Mine.Hold.out ?_))
local macro_rules | `(tactic| walk_at "exec While Compare") => `(tactic| (refine Mine.Hold.out ?_))
local macro_rules | `(tactic| walk_at "KswEnd") => `(tactic| (refine Mine.Hold.out ?_))
local macro_rules | `(tactic| walk_at "exec For Name Call cons nil") => `(tactic| (k_here; (rename Fr _ _ _ _ => lF'); (with_unfolding_all refine' For_invVF lF' ?k1 ?k2 ?_; (case k1 => exact rfl); (case k2 => exact rfl); k_whole)))
local macro_rules | `(tactic| k_all) => `(tactic| assumption)
local macro_rules | `(tactic| size_fits) => `(tactic| (simp only [List.size_toArray, PySem.sizeLine_eq]; omega))
local macro_rules | `(tactic| walk_at "call ref") => `(tactic| (k_here; k_dflt (refine' Mine.says_all ?kC ?k1 ?k2 ?k3 ?k4 ?k5 ?k6 ?k7 ?k8 ?_; (case kC => assumption); (case k1 => k_asm); (case k2 => k_asm); (case k3 => k_asm); (case k4 => k_asm); (case k5 => k_asm); (case k6 => first | exact rfl | assumption); (case k7 => ktr_room); (case k8 => ktr_units); intro t9 h9 tk9 F9 N9; (try dsimp only); (try k_fold))))
section
open PySem PySem.W PyProof.Rows
theorem Mine.woff7 : True := by w_top off; trivial
namespace Mine
set_option maxHeartbeats 4000000 in
theorem c_special (prog : Program) (w : World) (c : Nat) (t : Tok) : Says prog w 153 1 8 [.str ⟨#[c]⟩ t] (fun _ => .bool (special c)) := by
  unfold Says; intro p loose mean mg mb dp un gd cn cs a ccd cl outer A₀ base h₀ L m news s Q E B F X N T hk hd hu hret; refine wpAny_call ?_; (first | k_dflt cell_enter | fail "not entered")
  k_steps
  all_goals exact cb_retB hret (special_occ c) (by k_asm) (by k_asm)
set_option maxHeartbeats 4000000 in
theorem c_fig (prog : Program) (w : World) (c : Nat) (t : Tok) : Says prog w 120 1 8 [.str ⟨#[c]⟩ t] (fun t => .int (fig c) t) := by
  unfold Says; intro p loose mean mg mb dp un gd cn cs a ccd cl outer A₀ base h₀ L m news s Q E B F X N T hk hd hu hret; refine wpAny_call ?_; (first | k_dflt cell_enter | fail "not entered")
  k_steps
  · refine cb_retI hret ?_ (by k_asm) (by k_asm)
    rw [← fig_find c, if_pos (by assumption)]
  · refine cb_retI hret ?_ (by k_asm) (by k_asm)
    rw [← fig_find c, if_neg (by assumption)]
set_option maxHeartbeats 4000000 in
theorem c_must (prog : Program) (w : World) (c : Nat) (t : Tok) : Says prog w 141 1 8 [.str ⟨#[c]⟩ t] (fun _ => .bool (must c)) := by
  unfold Says; intro p loose mean mg mb dp un gd cn cs a ccd cl outer A₀ base h₀ L m news s Q E B F X N T hk hd hu hret; refine wpAny_call ?_; (first | k_dflt cell_enter | fail "not entered")
  k_steps
  all_goals (
    refine cb_retB hret ?_ (by k_asm) (by k_asm)
    (try rw [safe_occ])
    simp only [lt1 lit_a, lt2 lit_z, lt1 lit_A, lt2 lit_Z, lt1 lit_0, lt2 lit_9] at *
    unfold must
    split <;> first | rfl | (exfalso; omega))
end Mine
end
section
open PySem PySem.W PyProof.Rows
theorem Mine.woff8 : True := by w_top off; trivial
namespace Mine
def octAt (l : List Nat) (i : Nat) : List Int :=
  if l.getD i 0 = 61 ∧ 0 ≤ fig (l.getD (i + 1) 0) ∧ 0 ≤ fig (l.getD (i + 2) 0) then [16 * fig (l.getD (i + 1) 0) + fig (l.getD (i + 2) 0)] else []
def octsTo (l : List Nat) (n : Nat) : List Int := (List.range n).flatMap (octAt l)
def octs (l : List Nat) : List Int := octsTo l (l.length - 2)
theorem octsTo_succ (l : List Nat) (n : Nat) : octsTo l (n + 1) = octsTo l n ++ octAt l n := by
  simp [octsTo, List.range_succ]

theorem octAt_len (l : List Nat) (i : Nat) : (octAt l i).length ≤ 1 := by unfold octAt; split <;> simp
theorem octsTo_len (l : List Nat) (n : Nat) : (octsTo l n).length ≤ n := by
  induction n with
  | zero => simp [octsTo]
  | succ n ih => rw [octsTo_succ, List.length_append]; have := octAt_len l n; omega
theorem charAt_at {x : Str} {i : Int} {n : Nat} (h0 : 0 ≤ i) (h1 : i < x.length) (hn : n = i.toNat) : (Txt.charAt x i).getD 0 = x.cps.toList.getD n 0 := by
  have := item_at h0 h1 hn
  have e : (Txt.charAt x i).getD 0 = x.cps.getD n 0 := by
    have := congrArg (fun y : Str => y.cps.getD 0 0) this
    simpa [Txt.item] using this
  rw [e]; simp [Array.getD_eq_getD_getElem?, List.getD_eq_getElem?_getD]
theorem item_is {x y : Str} {i : Int} {n c : Nat} (hy : y.cps.toList = [c]) (h0 : 0 ≤ i) (h1 : i < x.length) (hn : n = i.toNat) : (Txt.item x i == y) = decide (x.cps.toList.getD n 0 = c) := by
  have e : Txt.item x i = ⟨#[x.cps.toList.getD n 0]⟩ := by unfold Txt.item; rw [charAt_at h0 h1 hn]
  rw [e]
  rw [Bool.eq_iff_iff, beq_iff_eq, decide_eq_true_eq]
  constructor
  · intro h; rw [← h] at hy; simpa using hy
  · intro h; refine PySem.Str.ext' (Array.toList_inj.mp ?_); rw [hy, h]
theorem lit_eq : (Str.ofString "=").cps.toList = [61] := by decide +kernel
theorem sub_app {α : Type} {a : α} {r s : List α} : ∀ p ∈ a :: r, p ∈ a :: (r ++ s) := fun p hp => by
  rcases List.mem_cons.mp hp with h | h
  · exact h ▸ .head _
  · exact .tail _ (List.mem_append_left _ h)
theorem sub_own {α : Type} {a : α} {r s : List α} : ∀ p ∈ s, p ∈ a :: (r ++ s) := fun _ hp => .tail _ (List.mem_append_right _ hp)
theorem own_ne {own news : List (Addr × Obj)} {l : Addr} {o : Obj} (hoff : OwnOff own (List.map (fun x => x.fst) ((l, o) :: news))) (hl : ∀ p ∈ news, p.1 < l) : ∀ p ∈ news ++ own, p.1 ≠ l := fun p hp => by
  rcases List.mem_append.mp hp with h | h
  · exact Nat.ne_of_lt (hl p h)
  · exact hoff p h l (.head _)
local macro_rules | `(tactic| walk_at "call ref") => `(tactic| (k_here; k_dflt (refine' says_use (c_fig _ _ _ _) ?k1 ?k2 ?k3 ?k4 ?k5 ?k6 ?k7 ?k8 ?_; (case k1 => k_asm); (case k2 => k_asm); (case k3 => k_asm); (case k4 => k_asm); (case k5 => k_asm); (case k6 => first | exact rfl | assumption); (case k7 => ktr_room); (case k8 => ktr_units); intro t9 h9 tk9 F9 N9; (try dsimp only); (try k_fold))))
set_option maxHeartbeats 4000000 in
theorem c_octs (prog : Program) (w : World) (x : Str) (t : Tok) (hx : x.length ≤ 65536) : SaysL prog w 127 2 12 [.str x t] (octs x.cps.toList) := by
  unfold SaysL; intro p loose mean mg mb dp un gd cn cs a ccd cl outer A₀ base h₀ L m news s Q E B F X N T hk hd hu hret; refine wpAny_call ?_; (first | k_dflt cell_enter | fail "not entered")
  k_steps
  rename_i l1 F1 N1 h2 t1 u1 v1 R1 F2 N2 K2
  unfold Hold
  have hlen : ((x.length : Int) - 2 - 0).toNat = x.cps.toList.length - 2 := by simp [Str.length]; omega
  refine kst_range (σ := List Value × Nat) (fun c => (_, PySem.W.listOf c.1.toArray c.2) :: news) (fun _ => []) (fun _ => True) [] (fun pre c => IntsAre c.1 (octsTo x.cps.toList pre.length)) ([], 0) rfl R1 (small_one (by omega) (by omega) (by omega) (by omega)) (rangeSize_nat _ _) F2 N2 trivial (fun _ h => nomatch h) .nil ?turn ?done
  case done =>
    intro c u h tk _ hP F3 N3
    rw [rangeKs_length, hlen] at hP
    dsimp only
    k_steps
    exact hret _ _ _ _ _ hP (by assumption) (by assumption) (by assumption)
  case turn =>
    intro c pre k tk1 u h tk own hk1 hlt hoff _ hP F3 N3
    (try dsimp only at N3)
    simp only [List.cons_append] at N3
    have hne := own_ne hoff (by assumption)
    have hsz : c.1.length ≤ 65536 := by
      rw [hP.length]; have := octsTo_len x.cps.toList pre.length; omega
    have hx2 : pre.length + 2 < x.length := by omega
    have h1 : (Txt.item x k == Str.ofString "=") = decide (x.cps.toList.getD pre.length 0 = 61) := item_is lit_eq (by omega) (by omega) (by omega)
    have h2 : (Txt.charAt x (k + 1)).getD 0 = x.cps.toList.getD (pre.length + 1) 0 := charAt_at (by omega) (by omega) (by omega)
    have h3 : (Txt.charAt x (k + 2)).getD 0 = x.cps.toList.getD (pre.length + 2) 0 := charAt_at (by omega) (by omega) (by omega)
    have hno : ¬ (x.cps.toList.getD pre.length 0 = 61 ∧ 0 ≤ fig (x.cps.toList.getD (pre.length + 1) 0) ∧ 0 ≤ fig (x.cps.toList.getD (pre.length + 2) 0)) → IntsAre c.1 (octsTo x.cps.toList (pre ++ [k]).length) := by
      intro hn
      rw [List.length_append, List.length_singleton, octsTo_succ, octAt, if_neg hn, List.append_nil]; exact hP
    have hyes : (x.cps.toList.getD pre.length 0 = 61 ∧ 0 ≤ fig (x.cps.toList.getD (pre.length + 1) 0) ∧ 0 ≤ fig (x.cps.toList.getD (pre.length + 2) 0)) → ∀ t, IntsAre (c.1 ++ [.int (16 * fig (x.cps.toList.getD (pre.length + 1) 0) + fig (x.cps.toList.getD (pre.length + 2) 0)) t]) (octsTo x.cps.toList (pre ++ [k]).length) := by
      intro hn t
      rw [List.length_append, List.length_singleton, octsTo_succ, octAt, if_pos hn]; exact hP.append (.cons _ _ .nil)
    k_steps
    all_goals unfold Hold
    all_goals (rw [h1] at *)
    all_goals (try rw [h2] at *)
    all_goals (try rw [h3] at *)
    all_goals (simp only [decide_eq_true_eq, decide_eq_false_iff_not] at *)
    · refine' kst_end (c.1 ++ [?v], c.2 + 1) (by assumption) (by assumption) ?hn sub_own ?ha trivial (fun _ h => nomatch h) ?hr (hyes ⟨by assumption, by assumption, by assumption⟩ _)
      case hn =>
        dsimp only
        rw [← List.push_toArray]; exact sub_app
      case ha => rfl
      case hr => intro z h1 h2 h3; simp [h1, kstB]
    all_goals (refine kst_end c (by assumption) (by assumption) sub_app sub_own rfl trivial (fun _ h => nomatch h) ?_ (hno ?_))
    all_goals first | (intro z h1 h2 h3; simp [h1, kstB]; done) | (intro hh; first | exact absurd hh.1 (by assumption) | exact absurd hh.2.1 (by assumption) | exact absurd hh.2.2 (by assumption))
end Mine
end
section
open PySem PySem.W PyProof.Rows
theorem Mine.woff9 : True := by w_top off; trivial
namespace Mine
/-- the slow reader: the signs and what is to be skipped, behind n places -/
def rd (l : List Nat) : Nat → List Nat × Nat
  | 0 => ([], 0)
  | n + 1 =>
    if 0 < (rd l n).2 then ((rd l n).1, (rd l n).2 - 1)
    else match octAt l n with
      | o :: _ => ((rd l n).1 ++ [o.toNat], 2)
      | [] => ((rd l n).1 ++ [if l.getD n 0 = 95 then 32 else l.getD n 0], 0)
theorem octs_three (l : List Nat) (n : Nat) : octs ((l.drop n).take 3) = octAt l n := by
  have g : ∀ i, i < 3 → ((l.drop n).take 3).getD i 0 = l.getD (n + i) 0 := fun i hi => by
    simp [List.getD_eq_getElem?_getD, hi]
  unfold octs octsTo
  by_cases h : n + 3 ≤ l.length
  · have : ((l.drop n).take 3).length - 2 = 1 := by simp; omega
    rw [this]
    simp only [List.range_one, List.flatMap_singleton]
    unfold octAt
    rw [g 0 (by omega), g 1 (by omega), g 2 (by omega)]; rfl
  · have : ((l.drop n).take 3).length - 2 = 0 := by simp; omega
    rw [this]
    simp only [List.range_zero, List.flatMap_nil]
    unfold octAt
    rw [if_neg]
    intro hh
    have : l.getD (n + 2) 0 = 0 := by simp [List.getD_eq_getElem?_getD, List.getElem?_eq_none (show l.length ≤ n + 2 by omega)]
    rw [this] at hh
    exact absurd hh.2.2 (by decide)
theorem c_octs3 (prog : Program) (w : World) (x : Str) (t : Tok) (hx : x.length ≤ 65536) (k : Int) (n : Nat) (h0 : k = (n : Int)) (h1 : n < x.length) : SaysL prog w 127 2 12 [.str (Txt.slice x (some k) (some (k + 3))) t] (octAt x.cps.toList n) := by
  subst h0
  have hs := slice_clip x n (n + 3) (by omega) (by omega)
  rw [show n + 3 - n = 3 by omega] at hs
  have := c_octs prog w (Txt.slice x (some (n : Int)) (some ((n : Int) + 3))) t (Nat.le_trans (Txt.slice_le _ _ _) hx)
  rw [show ((n : Int) + 3) = ((n + 3 : Nat) : Int) by omega] at *
  rw [hs, octs_three] at this
  exact this
theorem fig_lt (c : Nat) : fig c < 16 := by unfold fig; split <;> (try split) <;> (try split) <;> omega
theorem octAt_cases (l : List Nat) (n : Nat) : octAt l n = [] ∨ ∃ o : Int, 0 ≤ o ∧ o < 256 ∧ octAt l n = [o] := by
  unfold octAt
  split
  · rename_i h
    refine .inr ⟨_, ?_, ?_, rfl⟩
    · omega
    · have := fig_lt (l.getD (n + 1) 0); have := fig_lt (l.getD (n + 2) 0); omega
  · exact .inl rfl
theorem rd_len (l : List Nat) (n : Nat) : (rd l n).1.length ≤ n := by
  induction n with
  | zero => simp [rd]
  | succ n ih => unfold rd; split; · exact Nat.le_succ_of_le ih
                 split <;> simp <;> omega
theorem rd_skip {l : List Nat} {n : Nat} (h : 0 < (rd l n).2) : rd l (n + 1) = ((rd l n).1, (rd l n).2 - 1) := by
  rw [rd, if_pos h]
theorem rd_oct {l : List Nat} {n : Nat} {o : Int} (h : ¬ 0 < (rd l n).2) (ho : octAt l n = [o]) : rd l (n + 1) = ((rd l n).1 ++ [o.toNat], 2) := by
  rw [rd, if_neg h, ho]
theorem rd_plain {l : List Nat} {n : Nat} (h : ¬ 0 < (rd l n).2) (ho : octAt l n = []) : rd l (n + 1) = ((rd l n).1 ++ [if l.getD n 0 = 95 then 32 else l.getD n 0], 0) := by
  rw [rd, if_neg h, ho]
theorem lit_sp : Str.ofString " " = one 32 := by decide +kernel
theorem lit_us : (Str.ofString "_").cps.toList = [95] := by decide +kernel
theorem item_one {x : Str} {i : Int} {n : Nat} (h0 : 0 ≤ i) (h1 : i < x.length) (hn : n = i.toNat) : Txt.item x i = one (x.cps.toList.getD n 0) := by
  unfold Txt.item one; rw [charAt_at h0 h1 hn]
theorem snoc_one {us : List Value} {ds : List Nat} {y : Str} {t : Tok} {c : Nat} (h : StrsAre us (ds.map one)) (hy : y = one c) : StrsAre (us ++ [.str y t]) ((ds ++ [c]).map one) := by
  rw [List.map_append, hy]; exact h.append' (.cons _ _ .nil)
local macro_rules | `(tactic| walk_at "call builtin:str.join") => `(tactic| (k_here; k_dflt (refine' join_list ?hl ?hi ?ho ?_; (case hl => exact News.isList (by k_asm) (by k_mem)); (case hi => assumption); (case ho => (rw [ones_len, List.length_map]; (have e0 : (Str.ofString "").length = 0 := by decide); rw [e0]; omega)); k_whole); intro t' k'))
local macro_rules | `(tactic| walk_at "newList") => `(tactic| (k_here; k_dflt (refine' newList_A ?k1 ?k2 ?_ ?kz; (case k1 => k_asm); (case k2 => k_asm); (case kz => first | exact Nat.zero_le _ | size_fits); k_whole); intro l' h' F' N' l1; (try simp only [AllLt, and_true] at l1); (try k_sweep)))
local macro_rules | `(tactic| walk_at "call ref") => `(tactic| (k_here; k_dflt (first
  | (refine' saysL_nil ?kC ?k1 ?k2 ?k3 ?k4 ?k5 ?k6 ?k7 ?k8 ?_; (case kC => assumption); (case k1 => k_asm); (case k2 => k_asm); (case k3 => k_asm); (case k4 => k_asm); (case k5 => k_asm); (case k6 => first | exact rfl | assumption); (case k7 => ktr_room); (case k8 => ktr_units); intro l9 n9 h9 tk9 F9 N9 lt9; (try simp only [AllLt, and_true] at lt9); (try dsimp only); (try k_fold))
  | (refine' saysL_one ?kC ?k1 ?k2 ?k3 ?k4 ?k5 ?k6 ?k7 ?k8 ?_; (case kC => assumption); (case k1 => k_asm); (case k2 => k_asm); (case k3 => k_asm); (case k4 => k_asm); (case k5 => k_asm); (case k6 => first | exact rfl | assumption); (case k7 => ktr_room); (case k8 => ktr_units); intro l9 n9 i9 h9 tk9 F9 N9 lt9; (try simp only [AllLt, and_true] at lt9); (try dsimp only); (try k_fold)))))
local macro_rules | `(tactic| walk_at "compareOp NotEq ref ref") => `(tactic| (k_here; k_dflt (refine' ke_ne_ints ?ka ?kb ?ki ?kj ?ku ?_; (case ka => exact News.isList (by k_asm) (by k_mem)); (case kb => exact News.isList (by k_asm) (by k_mem)); (case ki => first | exact IntsAre.nil | exact .cons _ _ .nil); (case kj => first | exact IntsAre.nil | assumption); (case ku => ktr_units); (try simp only [decide_true, Bool.not_true, List.cons_ne_nil, decide_false, Bool.not_false, reduceCtorEq]))))
set_option maxHeartbeats 4000000 in
theorem c_read (prog : Program) (w : World) (x : Str) (t : Tok) (hx : x.length ≤ 65536) : Says prog w 134 3 120 [.str x t] (fun t => .str (S (rd x.cps.toList x.length).1) t) := by
  unfold Says; intro p loose mean mg mb dp un gd cn cs a ccd cl outer A₀ base h₀ L m news s Q E B F X N T hk hd hu hret; refine wpAny_call ?_; (first | k_dflt cell_enter | fail "not entered")
  k_steps
  rename_i l1 F1 N1 h2 t1 u1 v1 R1 F2 N2 K2
  unfold Hold
  have hlen : ((x.length : Int) - 0).toNat = x.length := by omega
  refine' kst_range (σ := List Value × Nat × Int × Tok) (fun c => (_, PySem.W.listOf c.1.toArray c.2.1) :: news) (fun c => [(Str.ofString "skip", .int c.2.2.1 c.2.2.2)]) (fun _ => True) [] (fun pre c => StrsAre c.1 ((rd x.cps.toList pre.length).1.map one) ∧ c.2.2.1 = ((rd x.cps.toList pre.length).2 : Int)) ([], 0, 0, ?tok) rfl R1 (small_one (by omega) (by omega) (by omega) (by omega)) (rangeSize_nat _ _) F2 N2 trivial ?hk ⟨.nil, rfl⟩ ?turn ?done
  case hk => intro p h; rw [List.mem_singleton.mp h]; rfl
  case done =>
    intro c u h tk _ hP F3 N3
    rw [rangeKs_length, hlen] at hP
    dsimp only
    have hj := join_ones (rd x.cps.toList x.length).1
    obtain ⟨hP, _⟩ := hP
    have hrl := rd_len x.cps.toList x.length
    k_steps
    rw [hj]
    exact hret _ _ _ (by assumption) (news_tail (by assumption))
  case turn =>
    intro c pre k tk1 u h tk own hk1 hlt hoff _ hP F3 N3
    obtain ⟨us, n, sk, skt⟩ := c
    dsimp only at hP N3 F3
    obtain ⟨hP, rfl⟩ := hP
    simp only [List.cons_append] at N3
    have hne := own_neA hoff (by assumption)
    have hsz : us.length ≤ 65536 := by
      rw [hP.length, List.length_map]; have := rd_len x.cps.toList pre.length; omega
    rcases octAt_cases x.cps.toList pre.length with ho | ⟨o, ho0, ho1, ho⟩
    · have C : ∀ t, SaysL prog w 127 2 12 [.str (Txt.slice x (some k) (some (k + 3))) t] [] := fun t => ho ▸ c_octs3 prog w x t hx k pre.length (by omega) (by omega)
      k_steps
      all_goals unfold Hold
      · (rename Fr _ _ _ _ => F0); (rename News _ _ _ _ => N0); (try simp only [List.push_toArray] at N0); refine end1 (us, n, ((rd x.cps.toList pre.length).2 : Int) - 1, _) F0 N0 rfl rfl rfl trivial sub1 own1 ?_ ?_
        · intro z h1 h2 h3; simp [h1, h2, kstB]
        · rw [List.length_append, List.length_singleton, rd_skip (by omega)]; exact ⟨hP, by dsimp only; omega⟩
      all_goals (
        (rename Fr _ _ _ _ => F0); (rename News _ _ _ _ => N0); (try simp only [List.push_toArray] at N0); refine end1 (us ++ [_], n + 1, ((rd x.cps.toList pre.length).2 : Int), _) F0 N0 rfl rfl rfl trivial sub3 own3 ?_ ?_
        · intro z h1 h2 h3; simp [h1, h2, kstB])
      · rw [List.length_append, List.length_singleton, rd_plain (by omega) ho]
        rw [item_is lit_us (n := pre.length) (by omega) (by omega) (by omega), decide_eq_true_eq] at *
        rw [if_pos (by assumption)]
        exact ⟨snoc_one hP lit_sp, by dsimp only; omega⟩
      · rw [List.length_append, List.length_singleton, rd_plain (by omega) ho]
        rw [item_is lit_us (n := pre.length) (by omega) (by omega) (by omega), decide_eq_false_iff_not] at *
        rw [if_neg (by assumption)]
        exact ⟨snoc_one hP (item_one (by omega) (by omega) (by omega)), by dsimp only; omega⟩
    · have C : ∀ t, SaysL prog w 127 2 12 [.str (Txt.slice x (some k) (some (k + 3))) t] [o] := fun t => ho ▸ c_octs3 prog w x t hx k pre.length (by omega) (by omega)
      k_steps
      all_goals unfold Hold
      · (rename Fr _ _ _ _ => F0); (rename News _ _ _ _ => N0); (try simp only [List.push_toArray] at N0); refine end1 (us, n, ((rd x.cps.toList pre.length).2 : Int) - 1, _) F0 N0 rfl rfl rfl trivial sub1 own1 ?_ ?_
        · intro z h1 h2 h3; simp [h1, h2, kstB]
        · rw [List.length_append, List.length_singleton, rd_skip (by omega)]; exact ⟨hP, by dsimp only; omega⟩
      · (rename Fr _ _ _ _ => F0); (rename News _ _ _ _ => N0); (try simp only [List.push_toArray] at N0); refine end1 (us ++ [_], n + 1, 2, _) F0 N0 rfl rfl rfl trivial sub4 own4 ?_ ?_
        · intro z h1 h2 h3; simp [h1, h2, kstB]
        · rw [List.length_append, List.length_singleton, rd_oct (by omega) ho]
          exact ⟨snoc_one hP rfl, rfl⟩
end Mine
end
section
open PySem PySem.W PyProof.Rows
theorem Mine.woff10 : True := by w_top off; trivial
namespace Mine
open PySem.Builtin PySem.Builtin.Str in
section
variable {prog : Program} {w : World} {A : Around} {E : Value → Shared → Prop} {s : Shared} {d : Addr} {f : Int → Option Value}

theorem look_keep {c : Nat} {Q : Mapped → Shared → Prop} (hd : (d == sysModules) = false) (hh : A.handled = none) (hm : s.heap.MapOf (intKind prog w) d f) (hv : f (c : Int) = none)
    (h : ∀ h' k, (∀ b o, s.heap.get? b = some o → h'.get? b = some o) → Q .keep { s with heap := h', toks := k }) : wpAny (model prog w) A (tableLookup (.ref d) c) Q E s := by
  unfold tableLookup
  refine wpAny_bind (wpAny_attempt ?_)
  refine wpAny_bind (wpAny_mkInt ?_)
  refine wpAny_getItem_missing_of (intKind_is prog w _ _) hd hh hm hv fun h' e x => ?_
  (try dsimp only)
  obtain ⟨ob, t, ho, hc, _⟩ := x.there
  refine wpAny_bind (wpAny_isInstance (T := "KeyError") (b := true) ⟨ob, ho, hc⟩ (by rw [isSubtype_type]; kernel_rfl) ?_)
  rw [if_pos rfl]
  exact wpAny_bind (wpAny_rule (wpAny_pure (h h' _ x.keeps)))

theorem look_text {c : Nat} {x : PySem.Str} {t : Tok} {Q : Mapped → Shared → Prop} (hm : s.heap.MapOf (intKind prog w) d f) (hv : f (c : Int) = some (.str x t))
    (h : ∀ k, Q (.text x) { s with toks := k }) : wpAny (model prog w) A (tableLookup (.ref d) c) Q E s := by
  unfold tableLookup
  refine wpAny_bind (wpAny_attempt ?_)
  refine wpAny_bind (wpAny_mkInt ?_)
  refine wpAny_getItem_of (intKind_is prog w _ _) hm hv ?_
  exact wpAny_pure (h _)

theorem all_one (c : Nat) : (#[c].all fun x => decide (x < 128)) = decide (c < 128) := by simp
theorem forIn_one {σ : Type} (c : Nat) (i : σ) (b : Nat → σ → Sem (ForInStep σ)) : (forIn #[c] i b : Sem σ) = (do match ← b c i with | .done r => pure r | .yield r => pure r) := by
  rw [← Array.forIn_toList]
  show (forIn [c] i b : Sem σ) = _
  rw [List.forIn_cons]
  simp only [List.forIn_nil]
  rfl

theorem translate_keep {c : Nat} {t : Tok} {Q : Value → Shared → Prop} (hd : (d == sysModules) = false) (hh : A.handled = none) (hm : s.heap.MapOf (intKind prog w) d f) (hv : f (c : Int) = none)
    (h : ∀ h' k t', (∀ b o, s.heap.get? b = some o → h'.get? b = some o) → Q (.str (one c) t') { s with heap := h', toks := k }) :
    wpAny (model prog w) A (call (.builtin "str.translate") [.str (one c) t, .ref d]) Q E s := by
  refine wpAny_call_entry F.slot_str_translate (typeIs_str _ _ _) F.entry_str_translate ?_ (F.args_str_translate_2 _ _)
  unfold Builtin.«str.translate»
  have e0 : strOneArg "translate" ⟨[.str (one c) t, .ref d], []⟩ = pure (.str (one c) t, one c, .ref d) := rfl
  rw [e0]
  refine wpAny_bind (wpAny_pure ?_)
  (try dsimp only)
  rw [if_neg (show ¬ ((one c).length == 0) = true from by show ¬ ((1 : Nat) == 0) = true; decide)]
  have e1 : (one c).cps = #[c] := rfl
  rw [e1, all_one]
  (try dsimp only)
  refine wpAny_bind ?_
  rw [forIn_one]
  refine wpAny_bind ?_
  rw [if_neg (show ¬ tooLong 0 = true from by decide)]
  (try dsimp only)
  have fin : ∀ (s' : Shared), (∃ h' k, s' = { s with heap := h', toks := k } ∧ ∀ b o, s.heap.get? b = some o → h'.get? b = some o) →
      wpAny (model prog w) A.in1 (retStr ⟨List.foldl (fun acc p => acc ++ p.cps) #[] [(⟨#[c]⟩ : PySem.Str)].reverse⟩) (fun fin s' => ∃ v, fin = .done (.ret v) ∧ Q v s') E s' := by
    rintro s' ⟨h', k, rfl, hk⟩
    unfold retStr
    refine wpAny_bind (wpAny_mkStr ?_ (by show (1 : Nat) ≤ sizeLine; rw [sizeLine_eq]; decide))
    exact wpAny_pure ⟨_, rfl, h h' _ _ hk⟩
  by_cases hc : c < 128
  · rw [decide_eq_true hc, if_pos rfl]
    dsimp only [List.lookup]
    refine wpAny_bind (look_keep hd hh hm hv fun h' k hk => ?_)
    (try dsimp only)
    refine wpAny_bind (wpAny_pure ?_)
    (try dsimp only)
    refine wpAny_pure ?_
    (try dsimp only)
    refine wpAny_pure ?_
    rw [if_neg (show ¬ tooLong (0 + 1) = true from by decide)]
    exact fin _ ⟨h', k, rfl, hk⟩
  · rw [decide_eq_false hc, if_neg Bool.false_ne_true]
    (try dsimp only)
    rw [if_neg Bool.false_ne_true]
    refine wpAny_bind (look_keep hd hh hm hv fun h' k hk => ?_)
    (try dsimp only)
    refine wpAny_pure ?_
    (try dsimp only)
    refine wpAny_pure ?_
    rw [if_neg (show ¬ tooLong (0 + 1) = true from by decide)]
    exact fin _ ⟨h', k, rfl, hk⟩

theorem translate_text {c : Nat} {t u : Tok} {x : PySem.Str} {Q : Value → Shared → Prop} (hm : s.heap.MapOf (intKind prog w) d f) (hv : f (c : Int) = some (.str x u)) (hx : x.length = 2)
    (h : ∀ k t', Q (.str x t') { s with toks := k }) :
    wpAny (model prog w) A (call (.builtin "str.translate") [.str (one c) t, .ref d]) Q E s := by
  refine wpAny_call_entry F.slot_str_translate (typeIs_str _ _ _) F.entry_str_translate ?_ (F.args_str_translate_2 _ _)
  unfold Builtin.«str.translate»
  have e0 : strOneArg "translate" ⟨[.str (one c) t, .ref d], []⟩ = pure (.str (one c) t, one c, .ref d) := rfl
  rw [e0]
  refine wpAny_bind (wpAny_pure ?_)
  (try dsimp only)
  rw [if_neg (show ¬ ((one c).length == 0) = true from by show ¬ ((1 : Nat) == 0) = true; decide)]
  have e1 : (one c).cps = #[c] := rfl
  rw [e1, all_one]
  (try dsimp only)
  refine wpAny_bind ?_
  rw [forIn_one]
  refine wpAny_bind ?_
  rw [if_neg (show ¬ tooLong 0 = true from by decide)]
  (try dsimp only)
  have e2 : (⟨List.foldl (fun acc p => acc ++ p.cps) #[] [x].reverse⟩ : PySem.Str) = x := by
    refine PySem.Str.ext' ?_
    simp
  have hl : (0 : Nat) + x.length = 2 := by omega
  have fin : ∀ (s' : Shared), (∃ k, s' = { s with toks := k }) →
      wpAny (model prog w) A.in1 (retStr ⟨List.foldl (fun acc p => acc ++ p.cps) #[] [x].reverse⟩) (fun fin s' => ∃ v, fin = .done (.ret v) ∧ Q v s') E s' := by
    rintro s' ⟨k, rfl⟩
    rw [e2]
    unfold retStr
    refine wpAny_bind (wpAny_mkStr ?_ (by rw [hx, sizeLine_eq]; decide))
    exact wpAny_pure ⟨_, rfl, h _ _⟩
  have h1 : (x.length == 1 && x.cps.all fun x => decide (x < 128)) = false := by rw [hx]; rfl
  by_cases hc : c < 128
  · rw [decide_eq_true hc, if_pos rfl]
    dsimp only [List.lookup]
    refine wpAny_bind (look_text hm hv fun k => ?_)
    (try dsimp only)
    rw [h1, if_neg Bool.false_ne_true]
    (try dsimp only)
    refine wpAny_bind (wpAny_pure ?_)
    (try dsimp only)
    refine wpAny_bind (wpAny_rule ?_)
    (try dsimp only)
    rw [if_neg Bool.false_ne_true]
    refine wpAny_bind (look_text hm hv fun k => ?_)
    (try dsimp only)
    refine wpAny_pure ?_
    (try dsimp only)
    refine wpAny_pure ?_
    rw [hl, if_neg (show ¬ tooLong 2 = true from by decide)]
    exact fin _ ⟨_, rfl⟩
  · rw [decide_eq_false hc, if_neg Bool.false_ne_true]
    (try dsimp only)
    rw [if_neg Bool.false_ne_true]
    refine wpAny_bind (look_text hm hv fun k => ?_)
    (try dsimp only)
    refine wpAny_pure ?_
    (try dsimp only)
    refine wpAny_pure ?_
    rw [hl, if_neg (show ¬ tooLong 2 = true from by decide)]
    exact fin _ ⟨_, rfl⟩
end

theorem dict71 (P : Params) : ∃ es n, (hd.heap_39 P).lookup 71 = some ⟨.type "dict", none, .dict es n, #[]⟩ ∧ (∀ e ∈ es.toList, ∃ k t, e.key = .int k t ∧ e.hash = hashInt k) ∧
    (∀ c : Nat, special c = false → findBy Value.isInt es (c : Int) = none) ∧ ∀ c : Nat, special c = true → ∃ t, findBy Value.isInt es (c : Int) = some (.str (S [92, c]) t) := by
  refine ⟨_, _, by with_unfolding_all rfl, ?_, ?_, ?_⟩
  · intro e he
    simp only [List.mem_cons, List.not_mem_nil, or_false] at he
    repeat' (rcases he with rfl | he)
    all_goals (try subst he)
    all_goals exact ⟨_, _, rfl, by decide +kernel⟩
  · intro c hc
    unfold special at hc
    rw [decide_eq_false_iff_not] at hc
    have hh : ∀ k : Nat, k ∈ [40, 41, 91, 93, 123, 125, 63, 42, 43, 45, 124, 94, 36, 92, 46, 38, 126, 35, 32, 9, 10, 13, 11, 12] → c ≠ k := fun k hk e => hc (e ▸ hk)
    unfold findBy
    rw [Option.map_eq_none_iff, List.find?_toArray, List.find?_eq_none]
    intro e he
    simp only [List.mem_cons, List.not_mem_nil, or_false] at he
    repeat' (rcases he with rfl | he)
    all_goals (try subst he)
    all_goals (simp only [Value.isInt, beq_iff_eq]; intro h; refine hh _ ?_ (Int.ofNat_inj.mp h.symm); decide)
  · intro c hc
    unfold special at hc
    rw [decide_eq_true_eq] at hc
    simp only [List.mem_cons, List.not_mem_nil, or_false] at hc
    repeat' (rcases hc with rfl | hc)
    all_goals (try subst hc)
    all_goals exact ⟨_, by with_unfolding_all rfl⟩
/-- what escape makes of one sign -/
def esc (c : Nat) : List Nat := if special c then [92, c] else [c]
theorem map71 {prog : Program} {w : World} {h : Heap} (X : (hd.heap_39 w.params).In h) : ∃ f : Int → Option Value, h.MapOf (intKind prog w) 71 f ∧ (∀ c : Nat, special c = false → f (c : Int) = none) ∧ ∀ c : Nat, special c = true → ∃ t, f (c : Int) = some (.str (S [92, c]) t) := by
  obtain ⟨es, n, hl, hk, h1, h2⟩ := dict71 w.params
  refine ⟨fun k => findBy Value.isInt es k, ⟨_, es, n, X _ _ hl, ⟨rfl, rfl, rfl⟩, rfl, fun e he => ?_, fun _ => rfl⟩, h1, h2⟩
  obtain ⟨k, t, e1, e2⟩ := hk e (Array.mem_toList_iff.mpr he)
  exact ⟨k, by rw [e1]; exact intKind_is prog w k t, e2⟩
theorem translate_K {prog : Program} {w : World} {A : Around} {E : Value → Shared → Prop} {s : Shared} {h₀ : Heap} {L : Addr} {m : Str → Option Value} {news : List (Addr × Obj)} {c : Nat} {t : Tok} {Q : Value → Shared → Prop} (F : Fr h₀ L s.heap m) (N : News h₀ L s.heap news) (X : (hd.heap_39 w.params).In h₀) (hh : A.handled = none)
    (h : ∀ (t' : Tok) (h' : Heap) (k : Nat), Fr h₀ L h' m → News h₀ L h' news → Q (.str (S (esc c)) t') { s with heap := h', toks := k }) : wpAny (model prog w) A (call (.builtin "str.translate") [.str (one c) t, .ref 71]) Q E s := by
  obtain ⟨f, hm, h1, h2⟩ := map71 (prog := prog) (X.keeps F.keep)
  cases hc : special c with
  | false =>
    refine translate_keep (by decide) hh hm (h1 c hc) fun h' k t' hk => ?_
    have e : (one c) = S (esc c) := by unfold esc; rw [hc]; rfl
    rw [e]
    exact h t' h' k (F.keeps hk) (N.grown hk)
  | true =>
    obtain ⟨u, hu⟩ := h2 c hc
    refine translate_text hm hu rfl fun k t' => ?_
    have e : S [92, c] = S (esc c) := by unfold esc; rw [hc]; rfl
    rw [e]
    exact h t' s.heap k F N
local macro_rules | `(tactic| walk_at "getMethod str") => `(tactic| (refine GM.of (.str _ _) (typeIs_str _ _ _) F.slot_str_translate F.type_str_translate GM.noRef ?_))
local macro_rules | `(tactic| walk_at "call builtin:str.translate") => `(tactic| (k_here; k_dflt (refine' translate_K ?k1 ?k2 ?k3 ?k4 ?_; (case k1 => k_asm); (case k2 => k_asm); (case k3 => k_asm); (case k4 => exact rfl)); intro t' h' k' F' N'))
set_option maxHeartbeats 4000000 in
theorem c_escape (prog : Program) (w : World) (c : Nat) (t : Tok) : Says prog w 81 1 100 [.str (one c) t] (fun t => .str (S (esc c)) t) := by
  unfold Says; intro p loose mean mg mb dp un gd cn cs a ccd cl outer A₀ base h₀ L m news s Q E B F X N T hk hd hu hret; refine wpAny_call ?_; (first | k_dflt cell_enter | fail "not entered")
  k_steps
  all_goals exact hret _ _ _ (by assumption) (by assumption)
end Mine
end
section
open PySem PySem.W PyProof.Rows
theorem Mine.woff11 : True := by w_top off; trivial
namespace Mine
theorem typeCall_int_2 (a b : Value) : checkTypeCall "int" ⟨[a, b], []⟩ = pure () := by kernel_rfl
theorem newCall_int_2 (a b : Value) : checkBuiltinCall "int.__new__" ⟨[.type "int", a, b], []⟩ = pure () := by kernel_rfl
theorem initArgs_3 (o a b : Value) : argsOk "object.__init__" ⟨[o, a, b], []⟩ := by
  unfold argsOk; kernel_rfl

def hexs : List Nat := [48, 49, 50, 51, 52, 53, 54, 55, 56, 57, 65, 66, 67, 68, 69, 70, 97, 98, 99, 100, 101, 102]
theorem hex_of {c : Nat} (h : 0 ≤ fig c) : c ∈ hexs := by
  unfold fig at h
  have : (48 ≤ c ∧ c ≤ 57) ∨ (65 ≤ c ∧ c ≤ 70) ∨ (97 ≤ c ∧ c ≤ 102) := by
    split at h
    · exact .inl (by assumption)
    · split at h
      · exact .inr (.inl (by assumption))
      · split at h
        · exact .inr (.inr (by assumption))
        · omega
  have hc : c < 128 := by omega
  have key : ∀ c : Fin 128, (48 ≤ c.val ∧ c.val ≤ 57) ∨ (65 ≤ c.val ∧ c.val ≤ 70) ∨ (97 ≤ c.val ∧ c.val ≤ 102) → c.val ∈ hexs := by decide +kernel
  exact key ⟨c, hc⟩ this

def valOf (n : Int) (x : int_private% "Numeral") : Bool := by
  cases x with
  | value i => exact decide (i = n)
  | _ => exact false
theorem read16 : ∀ a ∈ hexs, ∀ b ∈ hexs, valOf (16 * fig a + fig b) ((int_private% "readNumeral") 0 16 [a, b]) = true := by decide +kernel
theorem read16' {a b : Nat} (ha : a ∈ hexs) (hb : b ∈ hexs) : (int_private% "readNumeral") 0 16 [a, b] = (int_private% "Numeral.value") (16 * fig a + fig b) := by
  have h := read16 a ha b hb
  generalize (int_private% "readNumeral") 0 16 [a, b] = x at h ⊢
  cases x
  all_goals first | (exact absurd h Bool.false_ne_true) | skip
  have h' := of_decide_eq_true (p := _ = _) h
  rw [h']

theorem wp_text16 {M : Model} {A : Around} {E : Value → Shared → Prop} {s : Shared} {Q : Value → Shared → Prop} {v : Value} {a b : Nat} (ha : a ∈ hexs) (hb : b ∈ hexs)
    (h : Q (.int (16 * fig a + fig b) s.toks) { s with toks := s.toks + 1 }) : wpAny M A ((int_private% "intFromText") v [a, b] 16) Q E s := by
  have h0 : ∀ c ∈ hexs, (c != 0) = true := by decide
  have hs : [a, b].takeWhile (· != 0) = [a, b] := by
    simp only [List.takeWhile_cons, h0 a ha, h0 b hb, if_true, List.takeWhile_nil]
  have hr := read16' ha hb
  rw [← hs] at hr
  have h1 : ([a, b].takeWhile (· != 0)).length ≤ 640 := by rw [hs]; exact (by decide : (2 : Nat) ≤ 640)
  have h2 : (([a, b].takeWhile (· != 0)).length == [a, b].length) = true := by rw [hs]; rfl
  clear hs
  obtain ⟨hp, g, d, tk, os⟩ := s
  repeat (any_goals (first
    | assumption
    | (with_reducible refine wpAny_ite_true (decide_eq_true h1) ?_)
    | (with_reducible refine wpAny_ite_true (decide_eq_true h2) ?_)
    | wp_step))
  all_goals (try rw [hr])
  all_goals (try dsimp only)
  repeat (any_goals (first
    | assumption
    | (with_reducible refine wpAny_ite_true (decide_eq_true h1) ?_)
    | (with_reducible refine wpAny_ite_true (decide_eq_true h2) ?_)
    | wp_step))

theorem wp_text16' {M : Model} {A : Around} {E : Value → Shared → Prop} {s : Shared} {Q : Value → Shared → Prop} {v : Value} {a b base : Nat} {text : List Nat} (ht : text = [a, b]) (hbase : base = 16) (ha : a ∈ hexs) (hb : b ∈ hexs)
    (h : Q (.int (16 * fig a + fig b) s.toks) { s with toks := s.toks + 1 }) : wpAny M A ((int_private% "intFromText") v text base) Q E s := by
  subst ht; subst hbase; exact wp_text16 ha hb h
structure Hid2 (p : Prop) : Prop where
  out : p
set_option maxHeartbeats 4000000 in
theorem gives_int16 {a b : Nat} {u v : Tok} (ha : a ∈ hexs) (hb : b ∈ hexs) : Gives (Builtin.«int.__new__» ⟨[.type "int", .str (S [a, b]) u, .int 16 v], []⟩) (.int (16 * fig a + fig b)) :=
  .of_wp fun M A E s Q h => by
    obtain ⟨hp, g, d, tk, os⟩ := s
    have f1 := F.conv_sub_int
    have f2 := F.madeHere_int
    have f6 : typeOf (.str (S [a, b]) u) = pure (.type "str") := rfl
    have hlt : ∀ c ∈ hexs, decide (c < 128) = true := by decide
    have hall : ((S [a, b]).cps.all fun x => decide (x < 128)) = true := by
      simp only [S, List.all_toArray, List.all_cons, List.all_nil, hlt a ha, hlt b hb, Bool.and_self]
    have hk := Hid2.mk (And.intro ha hb)
    clear ha hb
    repeat (any_goals (first
      | assumption
      | ((with_reducible show wpAny _ _ ((int_private% "intFromText") _ _ _) _ _ _); refine wp_text16' (by rw [if_pos hall]; exact S_list _) rfl hk.out.1 hk.out.2 ?_)
      | wp_step))
    all_goals first | exact ⟨_, rfl, h⟩ | skip

theorem call_int16 {prog : Program} {w : World} {A : Around} {E : Value → Shared → Prop} {s : Shared} {a b : Nat} {u v : Tok} {Q : Value → Shared → Prop} (ha : a ∈ hexs) (hb : b ∈ hexs) (h : Q (.int (16 * fig a + fig b) s.toks) { s with toks := s.toks + 1 }) :
    wpAny (model prog w) A (call (.type "int") [.str (Txt.slice (S [61, a, b]) (some 1) (some 3)) u, .int 16 v]) Q E s := by
  have e : Txt.slice (S [61, a, b]) (some 1) (some 3) = S [a, b] := by
    refine PySem.Str.ext' (Array.toList_inj.mp ?_)
    have := slice_clip (S [61, a, b]) 1 3 (by rw [S_len]; exact (by decide : (1 : Nat) ≤ 3)) (by decide)
    simpa [S_list] using this
  rw [e]
  exact callType_new F.called_int F.newNe_int (typeCall_int_2 _ _) (newCall_int_2 _ _) (fun obj => initArgs_3 obj _ _) F.entry_int_new (gives_int16 ha hb).meets (show (Made.int (16 * fig a + fig b)).post _ s from ⟨rfl, h⟩)
local macro_rules | `(tactic| walk_at "call type:int") => `(tactic| (k_here; refine call_int16 (by assumption) (by assumption) ?_))
theorem fig_hex {c : Nat} (h : c ∈ hexs) : 0 ≤ fig c := by
  have : ∀ c ∈ hexs, 0 ≤ fig c := by decide
  exact this c h
set_option maxHeartbeats 4000000 in
theorem c_unquote (prog : Program) (w : World) (a b : Nat) (t : Tok) (ha : a ∈ hexs) (hb : b ∈ hexs) : Says prog w 43 1 100 [.str (S [61, a, b]) t] (fun t => .str (one (16 * fig a + fig b).toNat) t) := by
  have h0 : 0 ≤ 16 * fig a + fig b := by have := fig_hex ha; have := fig_hex hb; omega
  have h1 : 16 * fig a + fig b < 256 := by have := fig_lt a; have := fig_lt b; omega
  have hsz : (S [61, a, b]).length ≤ 65536 := by rw [S_len]; exact (by decide : (3 : Nat) ≤ 65536)
  unfold Says; intro p loose mean mg mb dp un gd cn cs a ccd cl outer A₀ base h₀ L m news s Q E B F X N T hk hd hu hret; refine wpAny_call ?_; (first | k_dflt cell_enter | fail "not entered")
  k_steps
  all_goals exact hret _ _ _ (by assumption) (by assumption)
end Mine
end
section
open PySem PySem.W PyProof.Rows
namespace Mine
def octet (b c : Nat) : Nat := (16 * fig b + fig c).toNat
/-- the escapes read, nothing else turned -/
def unesc : List Nat → List Nat
  | a :: b :: c :: r => if a = 61 ∧ 0 ≤ fig b ∧ 0 ≤ fig c then octet b c :: unesc r else a :: unesc (b :: c :: r)
  | [a, b] => [a, b]
  | [a] => [a]
  | [] => []
def hitL (l : List Nat) (p : Nat) : Prop := l.getD p 0 = 61 ∧ 0 ≤ fig (l.getD (p + 1) 0) ∧ 0 ≤ fig (l.getD (p + 2) 0)
theorem hitL_len {l : List Nat} {p : Nat} (h : hitL l p) : p + 3 ≤ l.length := by
  have h2 := h.2.2
  by_cases hp : p + 2 < l.length
  · omega
  · have : l.getD (p + 2) 0 = 0 := by simp [List.getD_eq_getElem?_getD, List.getElem?_eq_none (show l.length ≤ p + 2 by omega)]
    rw [this] at h2
    exact absurd h2 (by decide)
theorem hit_iff (x : Str) (p : Nat) : hit x.cps x.cps.size p ↔ hitL x.cps.toList p := by
  have e : ∀ i, x.cps.getD i 0 = x.cps.toList.getD i 0 := fun i => by simp [Array.getD_eq_getD_getElem?, List.getD_eq_getElem?_getD]
  unfold hit hitL hexAt
  rw [e, e, e]
  constructor
  · exact fun h => ⟨h.2.1, h.2.2.1, h.2.2.2⟩
  · intro h
    have := hitL_len h
    simp at this
    exact ⟨this, h.1, h.2.1, h.2.2⟩
theorem unesc_skip {a : Nat} {r : List Nat} (h : ¬ hitL (a :: r) 0) : unesc (a :: r) = a :: unesc r := by
  match r with
  | [] => simp [unesc]
  | [b] => simp [unesc]
  | b :: c :: r =>
    have h' : ¬ (a = 61 ∧ 0 ≤ fig b ∧ 0 ≤ fig c) := h
    rw [unesc.eq_1, if_neg h']
theorem unesc_hit {a b c : Nat} {r : List Nat} (h : hitL (a :: b :: c :: r) 0) : unesc (a :: b :: c :: r) = octet b c :: unesc r := by
  have h' : a = 61 ∧ 0 ≤ fig b ∧ 0 ≤ fig c := h
  rw [unesc.eq_1, if_pos h']
theorem hitL_drop (l : List Nat) (p i : Nat) : hitL (l.drop p) i ↔ hitL l (p + i) := by
  unfold hitL
  have e : ∀ j, (l.drop p).getD j 0 = l.getD (p + j) 0 := fun j => by simp [List.getD_eq_getElem?_getD]
  rw [e, e, e]; rfl
theorem unesc_none : ∀ (l : List Nat), (∀ i, ¬ hitL l i) → unesc l = l
  | [], _ => by simp [unesc]
  | a :: r, h => by
    rw [unesc_skip (h 0), unesc_none r fun i hi => h (1 + i) ((hitL_drop (a :: r) 1 i).mp hi)]
theorem unesc_first : ∀ (q : Nat) (l : List Nat), hitL l q → (∀ i, i < q → ¬ hitL l i) → unesc l = l.take q ++ octet (l.getD (q + 1) 0) (l.getD (q + 2) 0) :: unesc (l.drop (q + 3))
  | 0, l, h, _ => by
    have hl := hitL_len h
    match l, hl, h with
    | a :: b :: c :: r, _, h => rw [unesc_hit h]; rfl
  | q + 1, l, h, hn => by
    have hl := hitL_len h
    match l, hl, h, hn with
    | a :: r, _, h, hn =>
      rw [unesc_skip (hn 0 (Nat.succ_pos _))]
      have h' : hitL r q := h
      rw [unesc_first q r h' fun i hi hh => hn (i + 1) (by omega) hh]
      rfl
theorem unesc_len : ∀ (n : Nat) (l : List Nat), l.length ≤ n → (unesc l).length ≤ l.length := by
  intro n
  induction n with
  | zero => intro l hl; have : l = [] := List.length_eq_zero_iff.mp (by omega); subst this; simp [unesc]
  | succ n ih =>
    intro l hl
    match l with
    | [] => simp [unesc]
    | a :: r =>
      by_cases h : hitL (a :: r) 0
      · have hl3 := hitL_len h
        match r, hl3, h, hl with
        | b :: c :: r, _, h, hl =>
          rw [unesc_hit h]
          have := ih r (by simp at hl; omega)
          simp only [List.length_cons]; omega
      · rw [unesc_skip h]
        have := ih r (by simp at hl; omega)
        simp only [List.length_cons]; omega
end Mine
end
section
open PySem PySem.W PyProof.Rows
namespace Mine
section
variable {prog : Program} {w : World} {M : Model} {A : Around} {E : Value → Shared → Prop} {s : Shared}
theorem wp_drive : ∀ (T k : Nat) (m : Sre.M) {Q : Sre.M → Shared → Prop}, k < T → (stepN k m).outcome.isSome = true → Q (stepN k m) s → wpAny M A (Builtin.Re.reDrive T m) Q E s
  | 0, _, _, _, hk, _, _ => absurd hk (Nat.not_lt_zero _)
  | T + 1, k, m, Q, hk, hd, h => by
    unfold Builtin.Re.reDrive
    dsimp only
    rw [show m.runFor Builtin.Re.reTurnSteps = stepN 4 m from runFor_eq 4 m]
    by_cases h4 : (stepN 4 m).outcome.isSome = true
    · rw [if_pos h4]
      have e : stepN 4 m = stepN k m := by
        by_cases hk4 : k ≤ 4
        · have e : stepN 4 m = stepN (k + (4 - k)) m := by rw [show k + (4 - k) = 4 by omega]
          rw [e, stepN_add, stepN_done hd]
        · have e : stepN k m = stepN (4 + (k - 4)) m := by rw [show 4 + (k - 4) = k by omega]
          rw [e, stepN_add, stepN_done h4]
      rw [e]; exact wpAny_pure h
    · rw [if_neg h4]
      have hk4 : ¬ k ≤ 4 := by
        intro hk4
        have e : stepN 4 m = stepN (k + (4 - k)) m := by rw [show k + (4 - k) = 4 by omega]
        rw [e, stepN_add, stepN_done hd] at h4
        exact h4 hd
      have e : stepN k m = stepN (k - 4) (stepN 4 m) := by rw [← stepN_add, show 4 + (k - 4) = k by omega]
      rw [e] at hd h
      exact wpAny_bind (wpAny_rule (wp_drive T (k - 4) (stepN 4 m) (by omega) hd h))
theorem wp_rules (m : Sre.M) : ∀ (l : List Nat) {Q : PUnit → Shared → Prop}, Q ⟨⟩ s → wpAny M A (forIn l PUnit.unit fun i _ =>
      if m.seen.has i = true then do
        rule (Sre.names.getD i "")
        pure (ForInStep.yield PUnit.unit)
      else pure (ForInStep.yield PUnit.unit)) Q E s := by
  intro l Q h
  refine wpAny_forIn_list _ (fun _ _ s' => s' = s) Q (fun x rest b s' e => ?_) (fun b s' e => ?_) l _ rfl
  · split
    · exact wpAny_bind (wpAny_rule (wpAny_pure e))
    · exact wpAny_pure e
  · rw [e]; exact h
theorem wp_runToEnd {m : Sre.M} {Q : Option Sre.M → Shared → Prop} (k : Nat) (hk : k < 2 ^ 64) (h : ((stepN k m).outcome = some .matched ∧ Q (some (stepN k m)) s) ∨ ((stepN k m).outcome = some .failed ∧ Q none s)) :
    wpAny M A (Builtin.Re.reRunToEnd m) Q E s := by
  unfold Builtin.Re.reRunToEnd
  have hd : (stepN k m).outcome.isSome = true := by rcases h with h | h <;> rw [h.1] <;> rfl
  refine wpAny_bind (wp_drive (2 ^ 64) k m hk hd ?_)
  refine wpAny_bind (wp_rules _ _ ?_)
  rcases h with h | h
  · rw [h.1]; exact wpAny_pure h.2
  · rw [h.1]; exact wpAny_pure h.2

/-- a compiled pattern for texts, without groups -/
def PatAt (h : Heap) (p : Addr) (code : Array Nat) : Prop :=
  ∃ o vs a t1 t2 ot items n, h.get? p = some o ∧ o.data = .fields vs ∧ o.cls = .type "re.Pattern" ∧ vs.getD 6 .none = .int 0 t1 ∧ vs.getD 2 .none = .int 0 t2 ∧ vs.getD 5 .none = .ref a ∧ h.get? a = some ot ∧ ot.data = .seq items n ∧ (items.map Builtin.Re.reRawOf).map (·.toNat) = code
theorem PatAt.keeps {h h' : Heap} {p : Addr} {code : Array Nat} (P : PatAt h p code) (hk : ∀ b o, h.get? b = some o → h'.get? b = some o) : PatAt h' p code := by
  obtain ⟨o, vs, a, t1, t2, ot, items, n, h1, h2, h3, h4, h5, h6, h7, h8, h9⟩ := P
  exact ⟨o, vs, a, t1, t2, ot, items, n, hk _ _ h1, h2, h3, h4, h5, h6, hk _ _ h7, h8, h9⟩
theorem wp_wholeTarget {p : Addr} {code : Array Nat} {x : Str} {t : Tok} {Q : Builtin.Re.ReTarget → Shared → Prop} (P : PatAt s.heap p code)
    (h : Q { pattern := .ref p, string := .str x t, code, text := x.cps, kind := 0, groups := 0, pos := 0, lim := x.cps.size } s) : wpAny M A (Builtin.Re.reWholeTarget (.ref p) (.str x t)) Q E s := by
  obtain ⟨o, vs, a, t1, t2, ot, items, n, h1, h2, h3, h4, h5, h6, h7, h8, h9⟩ := P
  unfold Builtin.Re.reWholeTarget
  refine wpAny_bind (wpAny_fieldsOf h1 h2 ?_)
  have e : Builtin.Re.reTextOf (.str x t) = pure (x.cps, 0) := rfl
  rw [e]
  refine wpAny_bind (wpAny_pure ?_)
  dsimp only
  rw [h4, h5, h6]
  rw [if_neg (show ¬ ((Builtin.Re.reRawNat (.int 0 t1) == 0) && (0 : Nat) == 1) = true from (by decide : ¬ (((0 : Nat) == 0) && (0 : Nat) == 1) = true))]
  rw [if_neg (show ¬ ((Builtin.Re.reRawNat (.int 0 t1) == 1) && (0 : Nat) == 0) = true from (by decide : ¬ (((0 : Nat) == 1) && (0 : Nat) == 0) = true))]
  have e2 : Builtin.Re.reNoCollectionInside (.str x t) 0 = pure () := rfl
  rw [e2]
  refine wpAny_bind (wpAny_pure ?_)
  unfold Builtin.Re.reRawItems
  refine wpAny_bind (wpAny_bind (wpAny_seqItems h7 h8 ?_))
  refine wpAny_pure ?_
  refine wpAny_pure ?_
  have e3 : Array.map (fun x : Int => x.toNat) (Array.map Builtin.Re.reRawOf ((some items).getD #[])) = code := h9
  rw [e3]
  exact h
end
theorem pat36 {w : World} {h : Heap} (X : (hd.heap_39 w.params).In h) : PatAt h 36 codeD :=
  ⟨_, _, _, _, _, _, _, _, X 36 _ (by with_unfolding_all rfl), rfl, rfl, rfl, rfl, rfl, X 35 _ (by with_unfolding_all rfl), rfl, by with_unfolding_all rfl⟩
theorem pat100 {w : World} {h : Heap} (X : (hd.heap_39 w.params).In h) : PatAt h 100 codeS :=
  ⟨_, _, _, _, _, _, _, _, X 100 _ (by with_unfolding_all rfl), rfl, rfl, rfl, rfl, rfl, X 99 _ (by with_unfolding_all rfl), rfl, by with_unfolding_all rfl⟩
end Mine
end
section
open PySem PySem.W PyProof.Rows
theorem Mine.woff14 : True := by w_top off; trivial
namespace Mine
theorem peek_search (P : Params) (prog : Program) (x : Str) (t : Tok) : peek (hd.heap_39 P) ⟨prog, P⟩ (checkBoundCall "re.Pattern.search" ⟨[.ref 100, .str x t], []⟩) = some () := by kernel_rfl
theorem keeper101 (P : Params) (prog : Program) : peek (hd.heap_39 P) ⟨prog, P⟩ (keeperOf (.ref 101)) = some .machine := by kernel_rfl
theorem entry_search : entryFor table "re.Pattern.search" = some Builtin.«re.Pattern.search» := entryFor_of_tree (by kernel_rfl)
theorem plain_search : plainId "re.Pattern.search" = true := by decide +kernel

/-- the spans of a match, and the match -/
abbrev spansObj (b e : Int) : Obj := { cls := .type "tuple", data := .seq [rawInt b, rawInt e].toArray }
abbrev matchObj (x p : Value) (lim : Nat) (li : Int) (tr : Addr) : Obj := { cls := .type "re.Match", data := .fields [x, p, rawInt ((0 : Nat) : Int), rawInt (lim : Int), rawInt li, .ref tr].toArray }
section
variable {prog : Program} {w : World} {A : Around} {E : Value → Shared → Prop} {s : Shared} {h₀ : Heap} {L : Addr} {m : Str → Option Value} {news : List (Addr × Obj)}
theorem wp_newMatch {x p : Value} {lim : Nat} {mm : Sre.M} {Q : Value → Shared → Prop} (F : Fr h₀ L s.heap m) (N : News h₀ L s.heap news)
    (h : ∀ (mr tr : Addr) (h' : Heap), Fr h₀ L h' m → News h₀ L h' ((mr, matchObj x p lim mm.lastindex tr) :: (tr, spansObj mm.start mm.handed) :: news) → AllLt tr news → AllLt mr news → tr < mr → Q (.ref mr) { s with heap := h' }) :
    wpAny (model prog w) A (Builtin.Re.reNewMatch p x 0 0 lim mm) Q E s := by
  unfold Builtin.Re.reNewMatch
  dsimp only
  rw [if_neg (show ¬ ((List.range 0).any _) = true from by show ¬ false = true; decide)]
  refine wpAny_bind (wpAny_newTuple ?_ (by show (2 : Nat) ≤ sizeLine; rw [sizeLine_eq]; decide))
  unfold newFields
  have F1 := F.push (spansObj mm.start mm.handed)
  have N1 := N.push F (spansObj mm.start mm.handed)
  refine wpAny_newObj_type ?_ (by show (6 : Nat) ≤ sizeLine + 2; rw [sizeLine_eq]; decide)
  have F2 := F1.push (matchObj x p lim mm.lastindex s.heap.objs.size)
  have N2 := N1.push F1 (matchObj x p lim mm.lastindex s.heap.objs.size)
  have lt1 : ∀ p ∈ news, p.1 < s.heap.objs.size := fun p hp => Heap.lt_size (N p hp).1
  have lt2 : ∀ p ∈ (s.heap.objs.size, spansObj mm.start mm.handed) :: news, p.1 < (s.heap.push (spansObj mm.start mm.handed)).objs.size := fun p hp => Heap.lt_size (N1 p hp).1
  exact h _ _ _ F2 N2 (allLt_of lt1) (allLt_of fun p hp => lt2 p (.tail _ hp)) (lt2 _ (.head _))
theorem named1 (x : Value) : Builtin.Re.reNamed "re.Pattern.search" "search" ["string", "pos", "endpos"] 1 [x] [] = pure [some x, none, none] := by rfl
theorem wp_target {p : Addr} {code : Array Nat} {x : Str} {t : Tok} {Q : Builtin.Re.ReTarget → Shared → Prop} (P : PatAt s.heap p code) (hx : x.length ≤ 65536)
    (h : Q { pattern := .ref p, string := .str x t, code, text := x.cps, kind := 0, groups := 0, pos := 0, lim := x.cps.size } s) : wpAny (model prog w) A (Builtin.Re.reTarget "re.Pattern.search" "search" ⟨[.ref p, .str x t], []⟩) Q E s := by
  obtain ⟨o, vs, a, t1, t2, ot, items, n, h1, h2, h3, h4, h5, h6, h7, h8, h9⟩ := P
  unfold Builtin.Re.reTarget
  dsimp only
  rw [named1]
  refine wpAny_bind (wpAny_pure ?_)
  dsimp only
  refine wpAny_bind (wpAny_pure ?_)
  refine wpAny_bind (wpAny_pure ?_)
  refine wpAny_bind (wpAny_fieldsOf h1 h2 ?_)
  have e : Builtin.Re.reTextOf (.str x t) = pure (x.cps, 0) := rfl
  rw [e]
  refine wpAny_bind (wpAny_pure ?_)
  dsimp only
  rw [h4, h5, h6]
  rw [if_neg (show ¬ ((Builtin.Re.reRawNat (.int 0 t1) == 0) && (0 : Nat) == 1) = true from (by decide : ¬ (((0 : Nat) == 0) && (0 : Nat) == 1) = true))]
  rw [if_neg (show ¬ ((Builtin.Re.reRawNat (.int 0 t1) == 1) && (0 : Nat) == 0) = true from (by decide : ¬ (((0 : Nat) == 1) && (0 : Nat) == 0) = true))]
  have e2 : Builtin.Re.reNoCollectionInside (.str x t) 0 = pure () := rfl
  rw [e2]
  refine wpAny_bind (wpAny_pure ?_)
  unfold Builtin.Re.reRawItems
  refine wpAny_bind (wpAny_bind (wpAny_seqItems h7 h8 ?_))
  refine wpAny_pure ?_
  refine wpAny_pure ?_
  have e3 : Array.map (fun x : Int => x.toNat) (Array.map Builtin.Re.reRawOf ((some items).getD #[])) = code := h9
  rw [e3]
  have e4 : min (0 : Int).toNat x.cps.size = 0 := by show min 0 _ = 0; omega
  have e5 : min ((2 : Int) ^ 63 - 1).toNat x.cps.size = x.cps.size := by
    have : x.cps.size ≤ 65536 := hx
    have : ((2 : Int) ^ 63 - 1).toNat = 9223372036854775807 := by decide
    omega
  rw [e4, e5]
  exact h

theorem search_call {x : Str} {t : Tok} {Q : Value → Shared → Prop} (F : Fr h₀ L s.heap m) (N : News h₀ L s.heap news) (X : (hd.heap_39 w.params).In h₀) (hx : x.length ≤ 65536)
    (h0 : x.cps.toList.any must = false → Q .none s)
    (h1 : x.cps.toList.any must = true → ∀ (r : Addr) (h' : Heap), Fr h₀ L h' m → News h₀ L h' news → Q (.ref r) { s with heap := h' }) :
    wpAny (model prog w) A (call (.ref 101) [.str x t]) Q E s := by
  have XK := X.keeps F.keep
  refine wpAny_call (codeAny_of_tree ?_)
  show wpAny _ _ (callAny (.ref 101) ⟨[.str x t], []⟩) _ _ _
  unfold callAny
  refine wpAny_bind (wpAny_load (XK 101 _ (by with_unfolding_all rfl)) ?_)
  show wpAny _ _ (checkBoundCall "re.Pattern.search" ⟨[.ref 100, .str x t], []⟩ >>= fun _ => again (.builtin "re.Pattern.search" ⟨[.ref 100, .str x t], []⟩)) _ _ _
  refine wpAny_bind ((Looks.of_peek XK (peek_search w.params prog x t)).here ?_)
  refine wpAny_pure ⟨plainId_quiet plain_search _, codeAny_builtin entry_search ?_⟩
  unfold Builtin.«re.Pattern.search»
  refine wpAny_bind (wp_target (pat100 XK) hx ?_)
  unfold Builtin.Re.reAnswer
  dsimp only
  have hsz : x.cps.toList.length = x.cps.size := by simp
  have get : ∀ i, i < x.cps.size → x.cps.getD i 0 ∈ x.cps.toList := fun i hi => by
    rw [Array.getD_eq_getD_getElem?, Array.getElem?_eq_getElem hi]
    simp
  obtain ⟨k, hk, hs⟩ := forSearch_S x.cps x.cps.size
  refine wpAny_bind (wp_runToEnd k (Nat.lt_of_le_of_lt hk (by decide)) ?_)
  rcases hs with ⟨ho, i, hi, hm⟩ | ⟨ho, hn⟩
  · refine .inl ⟨ho, ?_⟩
    have ha : x.cps.toList.any must = true := List.any_eq_true.mpr ⟨_, get i hi, hm⟩
    dsimp only
    refine wpAny_bind (wp_newMatch F N fun mr tr h' F' N' _ _ _ => ?_)
    exact wpAny_pure (h1 ha mr h' F' (news_tail (news_tail N')))
  · refine .inr ⟨ho, ?_⟩
    have ha : x.cps.toList.any must = false := by
      rw [List.any_eq_false]
      intro c hc
      obtain ⟨i, hi, e⟩ := List.mem_iff_getElem.mp hc
      have hi' : i < x.cps.size := by rw [← hsz]; exact hi
      have := hn i hi'
      rw [Array.getD_eq_getD_getElem?, Array.getElem?_eq_getElem hi'] at this
      have e2 : x.cps[i] = c := by rw [← e]; simp
      simp only [Option.getD_some] at this
      rw [e2] at this; rw [this]; exact Bool.false_ne_true
    exact wpAny_pure (h0 ha)
theorem callWith_101 {env : Env} {pos : Pos} {e : PySem.Expr} {rest : List PySem.Expr} {Q : Value → Shared → Prop} (_X : (hd.heap_39 w.params).In h₀) (h : wpAny (model prog w) A (spliced (backTo pos (starEach (e :: rest) env))) (fun vs s₁ => (hd.heap_39 w.params).In s₁.heap ∧ wpAny (model prog w) A (call (.ref 101) ([] ++ vs)) Q E s₁) E s)
    (he : starEach (e :: rest) env = (false, eval e env) :: starEach rest env := by rfl) (hplain : (backTo pos (starEach rest env)).any (·.1) = false := by rfl) :
    wpAny (model prog w) A (callWith pos (.ref 101) [] (backTo pos (starEach (e :: rest) env)) []) Q E s := by
  rw [he] at h ⊢
  refine callWith_of (P := fun h => (hd.heap_39 w.params).In h) (by show ((false || (backTo pos (starEach rest env)).any (·.1)) || false) = false; rw [hplain]; rfl) (fun h X => ⟨.machine, .inr (.inl rfl), Looks.of_peek X (keeper101 w.params prog)⟩) (Calls.evalArgs_plain h)
end
local macro_rules | `(tactic| walk_at "callWith ref") => `(tactic| (k_here; k_dflt (refine' callWith_101 ?k1 ?_; (case k1 => k_asm); k_whole)))
local macro_rules | `(tactic| walk_at "call ref") => `(tactic| (k_here; refine Hold.out ?_))
local macro_rules | `(tactic| size_fits) => `(tactic| (simp only [PySem.sizeLine_eq]; omega))
/-- what quote makes of a text -/
def shellL (l : List Nat) : List Nat := if l ≠ [] ∧ l.any must = false then l else 39 :: (subst 39 [39, 34, 39, 34, 39] l ++ [39])
theorem lit_q : Str.ofString "'" = S [39] := by decide +kernel
theorem lit_qq : Str.ofString "'\"'\"'" = S [39, 34, 39, 34, 39] := by decide +kernel
theorem repl_q (x : Str) : Txt.replace x (Str.ofString "'") (Str.ofString "'\"'\"'") = S (subst 39 [39, 34, 39, 34, 39] x.cps.toList) := by
  refine PySem.Str.ext' (Array.toList_inj.mp ?_)
  rw [lit_q, lit_qq]
  show (Txt.replace x ⟨#[39]⟩ _).cps.toList = _
  rw [repl_one, S_list, S_list]
theorem subst_len (c : Nat) (z l : List Nat) (hz : 1 ≤ z.length) : (subst c z l).length ≤ z.length * l.length := by
  induction l with
  | nil => simp [subst]
  | cons d r ih =>
    simp only [subst, List.flatMap_cons, List.length_append, List.length_cons] at ih ⊢
    have : (if d = c then z else [d]).length ≤ z.length := by split <;> simp <;> omega
    rw [Nat.mul_add]; omega
set_option maxHeartbeats 4000000 in
theorem c_quote (prog : Program) (w : World) (x : Str) (t : Tok) (hx : x.length ≤ 65536) : Says prog w 108 1 100 [.str x t] (fun t => .str (S (shellL x.cps.toList)) t) := by
  have hsz : x.cps.toList.length = x.length := by simp [Str.length]
  have hrl : (Txt.replace x (Str.ofString "'") (Str.ofString "'\"'\"'")).length ≤ 5 * x.length := by
    rw [repl_q, S_len, ← hsz]; exact subst_len 39 _ _ (by decide)
  have hq : (Str.ofString "'").length = 1 := by rw [lit_q]; rfl
  have happ : Str.ofString "'" ++ Txt.replace x (Str.ofString "'") (Str.ofString "'\"'\"'") ++ Str.ofString "'" = S (39 :: (subst 39 [39, 34, 39, 34, 39] x.cps.toList ++ [39])) := by
    rw [repl_q, lit_q, S_app, S_app]; rfl
  unfold Says; intro p loose mean mg mb dp un gd cn cs a ccd cl outer A₀ base h₀ L m news s Q E B F X N T hk hd hu hret; refine wpAny_call ?_; (first | k_dflt cell_enter | fail "not entered")
  k_steps
  · have hne : x.cps.toList ≠ [] := by
      intro e; rw [e] at hsz; simp at hsz; omega
    unfold Hold
    refine search_call (by k_asm) (by k_asm) (by k_asm) hx (fun ha => ?_) (fun ha r h1 F1 N1 => ?_)
    · (try dsimp only)
      k_steps
      refine cb_retS hret ?_ (by k_asm) (by k_asm)
      unfold shellL
      rw [if_pos ⟨hne, ha⟩, S_of]
    · (try dsimp only)
      k_steps
      refine cb_retS hret ?_ (by k_asm) (by k_asm)
      unfold shellL
      rw [happ, if_neg (fun h => by rw [ha] at h; exact absurd h.2 (by decide))]
  · have e : x.cps.toList = [] := List.length_eq_zero_iff.mp (by omega)
    have e2 : S (shellL x.cps.toList) = Str.ofString "''" := by rw [e]; decide +kernel
    refine cb_retS hret ?_ (by k_asm) (by k_asm)
    rw [e2]
end Mine
end
section
open PySem PySem.W PyProof.Rows
theorem Mine.woff15 : True := by w_top off; trivial
local macro_rules | `(tactic| walk_at "none15_0") => `(tactic| skip)
namespace Mine
theorem entry_group : entryFor table "re.Match.group" = some Builtin.«re.Match.group» := entryFor_of_tree (by kernel_rfl)
theorem slot_group : Slot "re.Match" "group" "re.Match.group" :=
  .of (owner := "re.Match") (n := "group") (by rw [typeLookup_type, builtinLookup_eq_fast]; kernel_rfl) (by decide +kernel) (by decide +kernel) (by decide +kernel)
    (by first | exact .inl (by decide +kernel) | exact .inr (by decide +kernel)) (by rw [isSubtype_type]; kernel_rfl)
theorem type_group : typeOf (.builtin "re.Match.group") = pure (.type "method_descriptor") := by show builtinType _ = _; rw [builtinType_eq_fast]; kernel_rfl
theorem args_group (a b : Value) : argsOk "re.Match.group" ⟨[a, b], []⟩ := by unfold argsOk; kernel_rfl
theorem plainAttrs_match : PlainAttrs "re.Match" :=
  ⟨⟨"object.__getattribute__", by rw [typeLookup_type, builtinLookup_eq_fast]; kernel_rfl, by decide +kernel⟩, by rw [typeLookup_type, builtinLookup_eq_fast]; kernel_rfl⟩
section
variable {prog : Program} {w : World} {A : Around} {E : Value → Shared → Prop} {s : Shared}
theorem getMethod_group {mr : Addr} {x p : Value} {lim : Nat} {li : Int} {tr : Addr} {M : Model} {pl : Sem Bool} {Q : Value × List Value → Shared → Prop} (ho : s.heap.get? mr = some (matchObj x p lim li tr)) (h : Q (.builtin "re.Match.group", [.ref mr]) s) :
    wpAny M A (getMethod (.ref mr) (Str.ofString "group") pl) Q E s :=
  getMethod_builtin (T := "re.Match") ⟨_, ho, rfl⟩ plainAttrs_match slot_group type_group (fun a e => by cases e; exact ⟨_, ho, rfl⟩) h
theorem call_group {mr tr : Addr} {x : Str} {t u : Tok} {p : Value} {lim b e : Nat} {li : Int} {Q : Value → Shared → Prop} (ho : s.heap.get? mr = some (matchObj (.str x t) p lim li tr)) (ht : s.heap.get? tr = some (spansObj b e)) (hx : x.length ≤ 65536)
    (h : Q (.str ⟨x.cps.extract b e⟩ s.toks) { s with toks := s.toks + 1 }) : wpAny (model prog w) A (call (.builtin "re.Match.group") [.ref mr, .int 0 u]) Q E s := by
  refine wpAny_call_entry slot_group ⟨_, ho, rfl⟩ entry_group ?_ (args_group _ _)
  unfold Builtin.«re.Match.group»
  refine wpAny_bind (wpAny_pure ?_)
  dsimp only
  unfold Builtin.Re.reFound
  refine wpAny_bind (wpAny_bind (wpAny_fieldsOf ho rfl ?_))
  unfold Builtin.Re.reRawItems
  refine wpAny_bind (wpAny_bind (wpAny_seqItems ht rfl ?_))
  refine wpAny_pure ?_
  refine wpAny_pure ?_
  have es : Array.map Builtin.Re.reRawOf ((some [rawInt (b : Int), rawInt (e : Int)].toArray).getD #[]) = #[(b : Int), (e : Int)] := by simp [Builtin.Re.reRawOf, rawInt]
  rw [es]
  have e1 : Builtin.Re.reGroupNumber { fields := [Value.str x t, p, rawInt ((0 : Nat) : Int), rawInt (lim : Int), rawInt li, Value.ref tr].toArray, spans := #[(b : Int), (e : Int)] } (.int 0 u) = pure 0 := rfl
  refine wpAny_bind ?_
  rw [e1]
  refine wpAny_pure ?_
  have e2 : Builtin.Re.reGroupText { fields := [Value.str x t, p, rawInt ((0 : Nat) : Int), rawInt (lim : Int), rawInt li, Value.ref tr].toArray, spans := #[(b : Int), (e : Int)] } 0 .none =
      (if (decide ((b : Int) < 0) || decide ((e : Int) < 0)) = true then pure Value.none else mkStr ⟨x.cps.extract (b : Int).toNat (e : Int).toNat⟩) := rfl
  refine wpAny_bind ?_
  rw [e2, if_neg (by rw [decide_eq_false (by omega), decide_eq_false (by omega)]; decide)]
  refine wpAny_mkStr ?_ (by
    have : (x.cps.extract (b : Int).toNat (e : Int).toNat).size ≤ x.cps.size := by rw [Array.size_extract]; omega
    have h2 : x.cps.size ≤ 65536 := hx
    show (x.cps.extract (b : Int).toNat (e : Int).toNat).size ≤ sizeLine
    rw [sizeLine_eq]; omega)
  exact wpAny_pure ⟨_, rfl, h⟩
end
local macro_rules | `(tactic| walk_at "getMethod ref") => `(tactic| (k_here; k_dflt (refine' getMethod_group ?k1 ?_; (case k1 => exact News.get (by k_asm) (by k_mem)); k_whole)))
local macro_rules | `(tactic| walk_at "call builtin:re.Match.group") => `(tactic| (k_here; k_dflt (refine' call_group ?k1 ?k2 ?k3 ?_; (case k1 => exact News.get (by k_asm) (by k_mem)); (case k2 => exact News.get (by k_asm) (by k_mem)); (case k3 => assumption); k_whole)))
/-- the contract of the handler: called with a match -/
def SaysM (prog : Program) (w : World) (f : Addr) (d u : Nat) (mr tr : Addr) (x : Str) (t : Tok) (p : Value) (lim b : Nat) (li : Int) (R : Tok → Value) : Prop :=
  ∀ (pp : Program) (loose : List Str) (mean : ExcName → Option Value) (mg mb : Str → Option Value) (dp un : Nat) (gd : Option (List Code)) (cn : Str) (cs : Scope) (a : Addr) (ccd : Value) (cl : List (Str × Addr)) (outer : List Env) (A₀ : Around) (base h₀ : Heap) (L : Addr) (m : Str → Option Value) (news : List (Addr × Obj)) (s : Shared) (Q E : Value → Shared → Prop),
    Below A₀ base outer h₀ → Fr h₀ L s.heap m → (hd.heap_39 w.params).In h₀ → News h₀ L s.heap ((mr, matchObj (.str x t) p lim li tr) :: (tr, spansObj (b : Int) ((b + 3 : Nat) : Int)) :: news) → Top pp loose mean mg mb h₀ → cs.kind = .function →
    dp + d < recursionLimit → un + u < cLine → (∀ (t' : Tok) (h' : Heap) (tk' : Nat), Fr h₀ L h' m → News h₀ L h' ((mr, matchObj (.str x t) p lim li tr) :: (tr, spansObj (b : Int) ((b + 3 : Nat) : Int)) :: news) → Q (R t') { s with heap := h', toks := tk' }) →
    wpAny (model prog w) (ktrTop dp un gd cn cs L a ccd cl outer) (call (.ref f) [.ref mr]) Q E s
set_option maxHeartbeats 4000000 in
theorem c_handler (prog : Program) (w : World) (mr tr : Addr) (x : Str) (t : Tok) (p : Value) (lim b : Nat) (li : Int) (c d : Nat) (hc : c ∈ hexs) (hdd : d ∈ hexs) (hx : x.length ≤ 65536) (hs : (⟨x.cps.extract b (b + 3)⟩ : Str) = S [61, c, d]) :
    SaysM prog w 50 2 110 mr tr x t p lim b li (fun t => .str (one (16 * fig c + fig d).toNat) t) := by
  have C : ∀ t, Says prog w 43 1 100 [.str ⟨x.cps.extract b (b + 3)⟩ t] (fun t => .str (one (16 * fig c + fig d).toNat) t) := fun t => hs ▸ c_unquote prog w c d t hc hdd
  unfold SaysM
  intro pp loose mean mg mb dp un gd cn cs a ccd cl outer A₀ base h₀ L m news s Q E B F X N T hk hd hu hret
  refine wpAny_call ?_
  (first | k_dflt cell_enter | fail "not entered")
  k_steps
  all_goals exact hret _ _ _ (by assumption) (by assumption)
end Mine
end
section
open PySem PySem.W PyProof.Rows
namespace Mine
theorem entry_subloop : entryFor table "re.Pattern.sub.loop" = some Builtin.«re.Pattern.sub.loop» := entryFor_of_tree (by kernel_rfl)
theorem plain_subloop : plainId "re.Pattern.sub.loop" = true := by decide +kernel
theorem wp_push {M : Model} {A : Around} {E : Value → Shared → Prop} {s : Shared} {h₀ : Heap} {L : Addr} {m : Str → Option Value} {news : List (Addr × Obj)} {lp : Addr} {its : Array Value} {n : Nat} {x : Value} {Q : Unit → Shared → Prop} (F : Fr h₀ L s.heap m) (N : News h₀ L s.heap ((lp, PySem.W.listOf its n) :: news)) (hne : ∀ p ∈ news, p.1 ≠ lp)
    (hsz : its.size ≤ sizeLine) (h : ∀ h', Fr h₀ L h' m → News h₀ L h' ((lp, PySem.W.listOf (its.push x) (n + 1)) :: news) → Q () { s with heap := h' }) : wpAny M A (updateSeq lp fun y => y.push x) Q E s := by
  have z := N _ (.head _)
  refine wpAny_updateSeq z.1 rfl ?_ hsz (by show (its.push x).size ≤ _; rw [Array.size_push]; omega)
  have hs : Heap.SameBut lp s.heap (s.heap.update lp (Obj.mapSeq fun y => y.push x)) := Heap.SameBut.update ..
  have ho : (s.heap.update lp (Obj.mapSeq fun y => y.push x)).get? lp = some (PySem.W.listOf (its.push x) (n + 1)) := by
    rw [Heap.get?_update_self _ z.1 (by rw [mapSeq_push]; rfl), mapSeq_push]
  exact h _ (F.change hs z.2.1 z.2.2) (N.setHead hne hs ho)
abbrev subArgs (x : Str) (t : Tok) (cnt : Int) (p lp : Nat) : Args := ⟨[.ref 36, .str x t, .ref 50, rawInt 1, rawInt 0, rawInt cnt, rawInt (p : Int), rawInt (p : Int), .bool false, .ref lp, .bool false], []⟩
theorem flat_snoc (ts : List Str) (y : Str) : ((ts ++ [y]).flatMap fun z => z.cps.toList) = (ts.flatMap fun z => z.cps.toList) ++ y.cps.toList := by simp
theorem len_sum : ∀ ts : List Str, (ts.map (·.length)).sum = (ts.flatMap fun z => z.cps.toList).length
  | [] => rfl
  | a :: r => by simp only [List.map_cons, List.sum_cons, List.flatMap_cons, List.length_append, len_sum r]; simp [Str.length]
def restOf (x : Str) (t : Tok) (lp : Addr) (cnt : Int) (mm : Sre.M) : Sem PySem.Fin := do
  let found ← Builtin.Re.reNewMatch (.ref 36) (.str x t) 0 0 x.cps.size mm
  let item ← holding [found] (call (.ref 50) [found])
  let jp : Unit → Sem PySem.Fin := fun _ => again (.builtin "re.Pattern.sub.loop" ⟨[.ref 36, .str x t, .ref 50, rawInt 1, rawInt 0, rawInt (cnt + 1), rawInt (mm.handed : Int), rawInt (mm.handed : Int), .bool (mm.handed == mm.start), .ref lp, .bool false], []⟩)
  if (item != Value.none) = true then do
    let r ← updateSeq lp fun y => y.push item
    jp r
  else jp ()
def endOf (x : Str) (lp : Addr) : Sem PySem.Fin := do
  let joiner ← Builtin.Re.reSlice x.cps 0 0 0
  let its ← seqItems? (.ref lp)
  if (its.getD #[]).isEmpty = true then do
    let text ← pure joiner
    ret text
  else do
    let text ← call (.builtin "str.join") [joiner, .ref lp]
    ret text
theorem extract3 (x : Str) (q : Nat) (h : q + 3 ≤ x.cps.size) : (⟨x.cps.extract q (q + 3)⟩ : Str) = S [x.cps.toList.getD q 0, x.cps.toList.getD (q + 1) 0, x.cps.toList.getD (q + 2) 0] := by
  refine PySem.Str.ext' (Array.toList_inj.mp ?_)
  have hl : x.cps.toList.length = x.cps.size := by simp
  rw [S_list]
  show (x.cps.extract q (q + 3)).toList = _
  rw [Array.toList_extract, List.extract_eq_take_drop, show q + 3 - q = 3 by omega]
  apply List.ext_getElem
  · simp; omega
  · intro i h1 h2
    simp at h2
    have : i = 0 ∨ i = 1 ∨ i = 2 := by omega
    rcases this with rfl | rfl | rfl <;> simp [List.getD_eq_getElem?_getD]
    all_goals rw [Array.getElem?_eq_getElem (by omega)]; rfl
set_option maxHeartbeats 4000000 in
theorem sub_loop {prog : Program} {w : World} (x : Str) (t : Tok) (hx : x.length ≤ 65536)
    {pp : Program} {loose : List Str} {mean : ExcName → Option Value} {mg mb : Str → Option Value} {dp un : Nat} {gd : Option (List Code)} {cn : Str} {cs : Scope} {a : Addr} {ccd : Value} {cl : List (Str × Addr)} {outer : List Env} {A₀ : Around} {base h₀ : Heap} {L : Addr} {m : Str → Option Value} {news : List (Addr × Obj)} {lp : Addr}
    (B : Below A₀ base outer h₀) (X : (hd.heap_39 w.params).In h₀) (T : Top pp loose mean mg mb h₀) (hk : cs.kind = .function) (hd : dp + 2 < recursionLimit) (hu : un + 111 < cLine) (hne : ∀ p ∈ news, p.1 ≠ lp) :
    ∀ (n p : Nat), x.cps.size - p = n → p ≤ x.cps.size → ∀ (cnt : Int) (s : Shared) (us : List Value) (ts : List Str) (k : Nat) (R : Result → Shared → Prop), Fr h₀ L s.heap m → News h₀ L s.heap ((lp, PySem.W.listOf us.toArray k) :: news) → StrsAre us ts → ts.length ≤ 2 * p → (ts.flatMap fun z => z.cps.toList).length ≤ p →
      (∀ (t' : Tok) (h' : Heap) (tk' : Nat), Fr h₀ L h' m → News h₀ L h' news → R (.ok (.ret (.str (S ((ts.flatMap fun z => z.cps.toList) ++ unesc (x.cps.toList.drop p))) t'))) { s with heap := h', toks := tk' }) →
      codeAny (model prog w) (ktrTop dp un gd cn cs L a ccd cl outer) (.builtin "re.Pattern.sub.loop" (subArgs x t cnt p lp)) R s := by
  have hxs : x.cps.size ≤ 65536 := hx
  have hls : x.cps.toList.length = x.cps.size := by simp
  intro n
  induction n using Nat.strongRecOn with
  | _ n ih =>
    intro p hn hp cnt s us ts k R F N hU hl1 hl2 hR
    refine codeAny_builtin entry_subloop ?_
    rw [Around.under_plainId plain_subloop]
    have hul : us.length ≤ 131072 := by rw [hU.length]; omega
    have husz : us.toArray.size ≤ sizeLine := by rw [List.size_toArray, sizeLine_eq]; omega
    unfold Builtin.«re.Pattern.sub.loop»
    dsimp only [rawInt]
    refine wpAny_bind (wp_wholeTarget (pat36 (X.keeps F.keep)) ?_)
    rw [if_neg (show ¬ (((1 : Int) == 0) = true) from by decide)]
    rw [if_neg (show ¬ (((0 : Int) != 0 && decide (cnt ≥ 0)) = true) from by rw [show ((0 : Int) != 0) = false from rfl, Bool.false_and]; decide)]
    rw [show ((p : Int)).toNat = p from Int.toNat_natCast p]
    obtain ⟨kk, hkk, hE⟩ := forSearch_D (text := x.cps) (lim := x.cps.size) (p := p) hp
    unfold Builtin.Re.reNextFound
    dsimp only
    refine wpAny_bind (wp_runToEnd kk (by omega) ?_)
    generalize stepN kk (Sre.forSearch codeD x.cps 0 p x.cps.size false) = mm at hE ⊢
    cases hE with
    | @yes q ho hstart hhand hlm hli hpq hhit hfirst =>
      refine .inl ⟨ho, ?_⟩
      have hq3 : q + 3 ≤ x.cps.size := hhit.1
      have hh := (hit_iff x q).mp hhit
      have hc := hex_of hh.2.1
      have hdd := hex_of hh.2.2
      have hex : (⟨x.cps.extract q (q + 3)⟩ : Str) = S [61, x.cps.toList.getD (q + 1) 0, x.cps.toList.getD (q + 2) 0] := by
        rw [← hh.1]; exact extract3 x q hq3
      have C := fun (mr tr : Addr) => c_handler prog w mr tr x t (.ref 36) x.cps.size q mm.lastindex _ _ hc hdd hx hex
      have hun : unesc (x.cps.toList.drop p) = (x.cps.toList.drop p).take (q - p) ++ octet (x.cps.toList.getD (q + 1) 0) (x.cps.toList.getD (q + 2) 0) :: unesc (x.cps.toList.drop (q + 3)) := by
        have h1 : hitL (x.cps.toList.drop p) (q - p) := (hitL_drop _ _ _).mpr (by rw [show p + (q - p) = q by omega]; exact hh)
        have h2 : ∀ i, i < q - p → ¬ hitL (x.cps.toList.drop p) i := fun i hi h => hfirst (p + i) (by omega) (by omega) ((hit_iff x (p + i)).mpr ((hitL_drop _ _ _).mp h))
        rw [unesc_first _ _ h1 h2]
        have e : ∀ j, (x.cps.toList.drop p).getD j 0 = x.cps.toList.getD (p + j) 0 := fun j => by simp [List.getD_eq_getElem?_getD]
        rw [e, e, List.drop_drop]
        rw [show p + (q - p + 1) = q + 1 by omega, show p + (q - p + 2) = q + 2 by omega, show p + (q - p + 3) = q + 3 by omega]
      have rest : ∀ (s1 : Shared) (us1 : List Value) (ts1 : List Str) (k1 : Nat), (∃ h' tk', s1 = { s with heap := h', toks := tk' }) → Fr h₀ L s1.heap m → News h₀ L s1.heap ((lp, PySem.W.listOf us1.toArray k1) :: news) → StrsAre us1 ts1 → ts1.length ≤ 2 * p + 1 → (ts1.flatMap fun z => z.cps.toList) = (ts.flatMap fun z => z.cps.toList) ++ (x.cps.toList.drop p).take (q - p) →
          wpAny (model prog w) (ktrTop dp (un + 1) gd cn cs L a ccd cl outer) (restOf x t lp cnt mm)
            (fun fin s' => match fin with | .done f => R (.ok f) s' | .again c' => c'.quiet = true ∧ codeAny (model prog w) (ktrTop dp un gd cn cs L a ccd cl outer) c' R s') (fun e s' => R (.error e) s') s1 := by
        rintro s1 us1 ts1 k1 ⟨hp1, tkp1, rfl⟩ F1 N1 hU1 hts hfl
        unfold restOf
        refine wpAny_bind (wp_newMatch F1 N1 fun mr tr h2 F2 N2 lt1 lt2 lt3 => ?_)
        refine wpAny_bind (wpAny_holding ?_)
        rw [hstart, hhand] at N2
        refine C mr tr _ _ _ _ _ _ _ _ _ _ _ _ _ _ _ _ _ _ _ _ _ _ _ B F2 X N2 T hk hd (by omega) fun t3 h3 tk3 F3 N3 => ?_
        dsimp only
        rw [if_pos (show (Value.str (one (16 * fig (x.cps.toList.getD (q + 1) 0) + fig (x.cps.toList.getD (q + 2) 0)).toNat) t3 != Value.none) = true from bne_iff_ne.mpr (fun e => by cases e))]
        have hul1 : us1.length ≤ 131073 := by rw [hU1.length]; omega
        refine wpAny_bind (wp_push F3 (news_tail (news_tail N3)) hne (by rw [List.size_toArray, sizeLine_eq]; omega) fun h4 F4 N4 => ?_)
        refine wpAny_pure ⟨plainId_quiet plain_subloop _, ?_⟩
        rw [hhand, hstart]
        have hb : (q + 3 == q) = false := by rw [beq_eq_false_iff_ne]; omega
        rw [hb]
        refine ih (x.cps.size - (q + 3)) (by omega) (q + 3) rfl hq3 (cnt + 1) _ (us1 ++ [_]) (ts1 ++ [_]) (k1 + 1) R F4 (by rw [← List.push_toArray]; exact N4) (hU1.append' (.cons _ _ .nil)) (by rw [List.length_append, List.length_singleton]; omega) ?_ ?_
        · rw [flat_snoc, hfl]
          simp only [List.length_append, List.length_take, List.length_drop]
          show _ + 1 ≤ _
          omega
        · intro t' h' tk' F' N'
          have := hR t' h' tk' F' N'
          rw [hun] at this
          have e : (((ts1 ++ [one (16 * fig (x.cps.toList.getD (q + 1) 0) + fig (x.cps.toList.getD (q + 2) 0)).toNat]).flatMap fun z => z.cps.toList) ++ unesc (x.cps.toList.drop (q + 3))) = (ts.flatMap fun z => z.cps.toList) ++ ((x.cps.toList.drop p).take (q - p) ++ octet (x.cps.toList.getD (q + 1) 0) (x.cps.toList.getD (q + 2) 0) :: unesc (x.cps.toList.drop (q + 3))) := by
            rw [flat_snoc, hfl]
            simp [octet, one]
          rw [e]; exact this
      by_cases hlt : p < q
      · dsimp only
        rw [if_pos (by rw [hstart]; exact hlt)]
        refine wpAny_bind ?_
        unfold Builtin.Re.reSlice
        rw [if_pos (show ((0 : Nat) == 0) = true from rfl)]
        refine wpAny_mkStr ?_ (by show (x.cps.extract p mm.start).size ≤ sizeLine; rw [Array.size_extract, sizeLine_eq]; omega)
        refine wpAny_bind (wp_push F N hne husz fun h2 F2 N2 => ?_)
        rw [if_neg (show ¬ (((1 : Int) == 0) = true) from by decide)]
        refine rest _ (us ++ [_]) (ts ++ [⟨x.cps.extract p mm.start⟩]) (k + 1) ⟨_, _, rfl⟩ F2 (by rw [← List.push_toArray]; exact N2) (hU.append' (.cons _ _ .nil)) (by rw [List.length_append, List.length_singleton]; omega) ?_
        rw [flat_snoc, hstart]
        show _ ++ (x.cps.extract p q).toList = _
        rw [Array.toList_extract, List.extract_eq_take_drop]
      · have e : q = p := by omega
        dsimp only
        rw [if_neg (by rw [hstart]; exact hlt)]
        rw [if_neg (show ¬ (((1 : Int) == 0) = true) from by decide)]
        refine rest _ us ts k ⟨_, _, rfl⟩ F N hU (by omega) ?_
        rw [e, Nat.sub_self, List.take_zero, List.append_nil]
    | no ho hnone =>
      refine .inr ⟨ho, ?_⟩
      have hun : unesc (x.cps.toList.drop p) = x.cps.toList.drop p := unesc_none _ fun i h => hnone (p + i) (by omega) ((hit_iff x (p + i)).mpr ((hitL_drop _ _ _).mp h))
      have rest : ∀ (s1 : Shared) (us1 : List Value) (ts1 : List Str) (k1 : Nat), (∃ h' tk', s1 = { s with heap := h', toks := tk' }) → Fr h₀ L s1.heap m → News h₀ L s1.heap ((lp, PySem.W.listOf us1.toArray k1) :: news) → StrsAre us1 ts1 → ts1.length ≤ 2 * p + 1 → (ts1.flatMap fun z => z.cps.toList) = (ts.flatMap fun z => z.cps.toList) ++ x.cps.toList.drop p →
          wpAny (model prog w) (ktrTop dp (un + 1) gd cn cs L a ccd cl outer) (endOf x lp)
            (fun fin s' => match fin with | .done f => R (.ok f) s' | .again c' => c'.quiet = true ∧ codeAny (model prog w) (ktrTop dp un gd cn cs L a ccd cl outer) c' R s') (fun e s' => R (.error e) s') s1 := by
        rintro s1 us1 ts1 k1 ⟨hp1, tkp1, rfl⟩ F1 N1 hU1 hts hfl
        unfold endOf
        refine wpAny_bind ?_
        unfold Builtin.Re.reSlice
        rw [if_pos (show ((0 : Nat) == 0) = true from rfl)]
        refine wpAny_mkStr ?_ (by show (x.cps.extract 0 0).size ≤ sizeLine; rw [Array.size_extract, sizeLine_eq]; omega)
        refine wpAny_bind (wpAny_seqItems (N1.get (.head _)) rfl ?_)
        have ej : (⟨x.cps.extract 0 0⟩ : Str) = Str.ofString "" := by
          refine PySem.Str.ext' (Array.toList_inj.mp ?_)
          rw [show (Str.ofString "").cps.toList = [] by decide +kernel]
          show (x.cps.extract 0 0).toList = []
          rw [Array.toList_extract, List.extract_eq_take_drop]; rfl
        rw [ej]
        by_cases he : us1 = []
        · rw [if_pos (by rw [he]; rfl)]
          refine wpAny_bind (wpAny_pure (wpAny_pure ?_))
          have := hR (hp1.objs.size * 0 + tkp1) hp1 (tkp1 + 1) F1 (news_tail N1)
          rw [hun, ← hfl] at this
          have hts0 : ts1 = [] := by
            have := hU1.length
            rw [he] at this; exact List.length_eq_zero_iff.mp this.symm
          rw [hts0] at this
          have e2 : S (([] : List Str).flatMap fun z => z.cps.toList) = Str.ofString "" := by decide +kernel
          rw [e2, Nat.mul_zero, Nat.zero_add] at this
          exact this
        · rw [if_neg (by
            intro h
            have h' : us1.toArray.isEmpty = true := h
            rw [List.isEmpty_toArray, List.isEmpty_iff] at h'
            exact he h')]
          refine wpAny_bind ?_
          refine join_list (News.isList N1 (.head _)) hU1 (by
            rw [len_sum, hfl, show (Str.ofString "").length = 0 by decide +kernel]
            simp only [List.length_append, List.length_drop]; omega) fun t' k' => ?_
          refine wpAny_pure ?_
          have := hR t' hp1 k' F1 (news_tail N1)
          rw [hun, ← hfl, ← join_nil_list, S_of] at this
          exact this
      by_cases hlt : p < x.cps.size
      · dsimp only
        rw [if_pos hlt]
        refine wpAny_bind ?_
        unfold Builtin.Re.reSlice
        rw [if_pos (show ((0 : Nat) == 0) = true from rfl)]
        refine wpAny_mkStr ?_ (by show (x.cps.extract p x.cps.size).size ≤ sizeLine; rw [Array.size_extract, sizeLine_eq]; omega)
        refine wpAny_bind (wp_push F N hne husz fun h2 F2 N2 => ?_)
        refine rest _ (us ++ [_]) (ts ++ [⟨x.cps.extract p x.cps.size⟩]) (k + 1) ⟨_, _, rfl⟩ F2 (by rw [← List.push_toArray]; exact N2) (hU.append' (.cons _ _ .nil)) (by rw [List.length_append, List.length_singleton]; omega) ?_
        rw [flat_snoc]
        show _ ++ (x.cps.extract p x.cps.size).toList = _
        rw [Array.toList_extract, List.extract_eq_take_drop, List.take_of_length_le (by simp)]
      · dsimp only
        rw [if_neg hlt]
        refine rest _ us ts k ⟨_, _, rfl⟩ F N hU (by omega) ?_
        rw [List.drop_of_length_le (by omega), List.append_nil]
end Mine
end
section
open PySem PySem.W PyProof.Rows
theorem Mine.woff17 : True := by w_top off; trivial
local macro_rules | `(tactic| walk_at "none17_0") => `(tactic| skip)
namespace Mine
theorem entry_sub : entryFor table "re.Pattern.sub" = some Builtin.«re.Pattern.sub» := entryFor_of_tree (by kernel_rfl)
theorem slot_sub : Slot "re.Pattern" "sub" "re.Pattern.sub" :=
  .of (owner := "re.Pattern") (n := "sub") (by rw [typeLookup_type, builtinLookup_eq_fast]; kernel_rfl) (by decide +kernel) (by decide +kernel) (by decide +kernel)
    (by first | exact .inl (by decide +kernel) | exact .inr (by decide +kernel)) (by rw [isSubtype_type]; kernel_rfl)
theorem type_sub : typeOf (.builtin "re.Pattern.sub") = pure (.type "method_descriptor") := by show builtinType _ = _; rw [builtinType_eq_fast]; kernel_rfl
theorem args_sub (a b c : Value) : argsOk "re.Pattern.sub" ⟨[a, b, c], []⟩ := by unfold argsOk; kernel_rfl
theorem plainAttrs_pattern : PlainAttrs "re.Pattern" :=
  ⟨⟨"object.__getattribute__", by rw [typeLookup_type, builtinLookup_eq_fast]; kernel_rfl, by decide +kernel⟩, by rw [typeLookup_type, builtinLookup_eq_fast]; kernel_rfl⟩
theorem named3 (a b : Value) : Builtin.Re.reNamed "re.Pattern.sub" "sub" ["repl", "string", "count"] 2 [a, b] [] = pure [some a, some b, none] := by rfl
theorem special50 (P : Params) (prog : Program) : peek (hd.heap_39 P) ⟨prog, P⟩ (specialOf (.ref 50) (Str.ofString "__call__")) = some (some (.builtin "function.__call__")) := by kernel_rfl
theorem notHeld (x : Str) (t : Tok) : Builtin.Re.reNotHeld "re.Pattern.sub" (.str x t) = pure () := by kernel_rfl
theorem cls36 (P : Params) : ∃ o, (hd.heap_39 P).lookup 36 = some o ∧ o.cls = .type "re.Pattern" ∧ o.dict = none := ⟨_, by with_unfolding_all rfl, rfl, rfl⟩
theorem getMethod_sub {w : World} {s : Shared} {E : Value → Shared → Prop} {A : Around} {M : Model} {pl : Sem Bool} {Q : Value × List Value → Shared → Prop} (X : (hd.heap_39 w.params).In s.heap) (h : Q (.builtin "re.Pattern.sub", [.ref 36]) s) :
    wpAny M A (getMethod (.ref 36) (Str.ofString "sub") pl) Q E s := by
  obtain ⟨o, hl, hc, hdct⟩ := cls36 w.params
  exact getMethod_builtin (T := "re.Pattern") ⟨o, X 36 o hl, hc⟩ plainAttrs_pattern slot_sub type_sub (fun a e => by cases e; exact ⟨o, X 36 o hl, hdct⟩) h
theorem sub_call {prog : Program} {w : World} {x : Str} {t : Tok} (hx : x.length ≤ 65536)
    {pp : Program} {loose : List Str} {mean : ExcName → Option Value} {mg mb : Str → Option Value} {dp un : Nat} {gd : Option (List Code)} {cn : Str} {cs : Scope} {a : Addr} {ccd : Value} {cl : List (Str × Addr)} {outer : List Env} {A₀ : Around} {base h₀ : Heap} {L : Addr} {m : Str → Option Value} {news : List (Addr × Obj)} {s : Shared} {Q E : Value → Shared → Prop}
    (B : Below A₀ base outer h₀) (F : Fr h₀ L s.heap m) (X : (hd.heap_39 w.params).In h₀) (N : News h₀ L s.heap news) (T : Top pp loose mean mg mb h₀) (hk : cs.kind = .function) (hd : dp + 2 < recursionLimit) (hu : un + 111 < cLine)
    (h : ∀ (t' : Tok) (h' : Heap) (tk' : Nat), Fr h₀ L h' m → News h₀ L h' news → Q (.str (S (unesc x.cps.toList)) t') { s with heap := h', toks := tk' }) :
    wpAny (model prog w) (ktrTop dp un gd cn cs L a ccd cl outer) (call (.builtin "re.Pattern.sub") [.ref 36, .ref 50, .str x t]) Q E s := by
  have XK := X.keeps F.keep
  obtain ⟨o, hl, hc, hdct⟩ := cls36 w.params
  refine wpAny_call (codeAny_call_builtin slot_sub.plain entry_sub (slot_sub.check _ _ _ _ _ _ _ _ ⟨o, XK 36 o hl, hc⟩ (args_sub _ _ _) ?_))
  unfold Builtin.«re.Pattern.sub» Builtin.Re.reSubstitute
  dsimp only
  rw [named3]
  refine wpAny_bind (wpAny_pure ?_)
  dsimp only
  refine wpAny_bind (wpAny_pure ?_)
  refine wpAny_bind ((Looks.of_peek XK (special50 w.params prog)).here ?_)
  rw [if_pos (show (some (Value.builtin "function.__call__")).isSome = true from rfl)]
  refine wpAny_bind (wpAny_pure ?_)
  (try dsimp only)
  rw [if_pos (show (some (Value.builtin "function.__call__")).isSome = true from rfl)]
  refine wpAny_bind (wpAny_pure ?_)
  (try dsimp only)
  refine wpAny_bind (wpAny_holding (wp_wholeTarget (pat36 XK) ?_))
  rw [if_pos (show ((1 : Int) == 1) = true from rfl), notHeld]
  refine wpAny_bind (wpAny_pure ?_)
  refine wpAny_bind (newList_A F N (fun lp h' F' N' lt => ?_) (Nat.zero_le _))
  refine wpAny_pure ⟨plainId_quiet plain_subloop _, ?_⟩
  refine sub_loop x t hx B X T hk hd hu (allLt_ne lt) _ 0 rfl (Nat.zero_le _) 0 _ [] [] 0 _ F' N' .nil (Nat.zero_le _) (Nat.zero_le _) fun t' h2 tk' F2 N2 => ?_
  exact h t' h2 tk' F2 N2
local macro_rules | `(tactic| size_fits) => `(tactic| (simp only [PySem.sizeLine_eq]; omega))
local macro_rules | `(tactic| walk_at "call builtin:str.replace") => `(tactic| (k_here; k_dflt (refine' SC.replace ?ra ?rb ?rc ?rd ?re ?_; (case ra => ((show @Ne Nat _ _); omega)); (case rb => ((show @Ne Nat _ _); omega)); (case rc => ((show @Ne Nat _ _); omega)); (case rd => decide +kernel); (case re => ((have e1 : (Str.ofString " ").length = 1 := by decide +kernel); rw [e1]; omega))); intro t' k'))
local macro_rules | `(tactic| walk_at "getMethod ref") => `(tactic| (k_here; k_dflt (refine' getMethod_sub ?k1 ?_; (case k1 => k_in); k_whole)))
local macro_rules | `(tactic| walk_at "call builtin:re.Pattern.sub") => `(tactic| (k_here; k_dflt (refine' sub_call ?kx ?k1 ?k2 ?k3 ?k4 ?k5 ?k6 ?k7 ?k8 ?_; (case kx => assumption); (case k1 => k_asm); (case k2 => k_asm); (case k3 => k_asm); (case k4 => k_asm); (case k5 => k_asm); (case k6 => first | exact rfl | assumption); (case k7 => ktr_room); (case k8 => ktr_units); intro t9 h9 tk9 F9 N9; (try dsimp only); (try k_fold))))
set_option maxHeartbeats 4000000 in
theorem c_decode (prog : Program) (w : World) (x : Str) (t : Tok) (hx : x.length ≤ 65536) : Says prog w 57 4 130 [.str x t] (fun t => .str (S (unesc (subst 95 [32] x.cps.toList))) t) := by
  have hsz : x.cps.toList.length = x.length := by simp [Str.length]
  have hr : Txt.replace x (Str.ofString "_") (Str.ofString " ") = S (subst 95 [32] x.cps.toList) := by
    refine PySem.Str.ext' (Array.toList_inj.mp ?_)
    rw [show Str.ofString "_" = ⟨#[95]⟩ by decide +kernel, show Str.ofString " " = S [32] by decide +kernel, repl_one, S_list, S_list]
  have hrl : (Txt.replace x (Str.ofString "_") (Str.ofString " ")).length ≤ 65536 := by
    rw [hr, S_len]; have := subst_len 95 [32] x.cps.toList (by decide); simp only [List.length_singleton] at this; omega
  unfold Says; intro p loose mean mg mb dp un gd cn cs a ccd cl outer A₀ base h₀ L m news s Q E B F X N T hk hd hu hret; refine wpAny_call ?_; (first | k_dflt cell_enter | fail "not entered")
  (show wpAny _ _ _ _ _ (Shared.mk _ _ _ (s.toks + 1) _))
  obtain ⟨tk0, htk⟩ : ∃ n, s.toks + 1 = n := ⟨_, rfl⟩
  rw [htk]
  have htk0 : 0 < tk0 := by omega
  clear htk
  k_steps
  rw [hr, S_list]
  exact hret _ _ _ (by assumption) (by assumption)
end Mine
end
section
open PySem PySem.W PyProof.Rows
namespace Mine
open PySem.Spec PySem.Calls in
section
variable {prog : Program} {w : World} {A : Around} {E : Value → Shared → Prop} {s : Shared} {h₀ : Heap} {L : Addr} {m : Str → Option Value} {env : Env} {ct elt iter : Expr} {x : Str} {px pos : Pos} {scope : Scope} {cl : List (Str × Addr)} {Fin : List Value → List (Addr × Obj) → Prop}
theorem compEnd_mono {s₁ s₂ : Shared} {I C D : Addr} {oI oC oD : Obj} {S : List (Addr × Obj) → Prop} {r1 r2 : Value → List (Addr × Obj) → Prop} {y : Value} (h : LCg.CompEnd h₀ L m s₁ I oI C oC D oD S r1 y s₂) (f : ∀ n, r1 y n → r2 y n) : LCg.CompEnd h₀ L m s₁ I oI C oC D oD S r2 y s₂ := by
  obtain ⟨h', tk, news', e, F, N, o, hs, r⟩ := h
  exact ⟨h', tk, news', e, F, N, o, hs, f _ r⟩
theorem compEnd_mono0 {s₁ s₂ : Shared} {I C D : Addr} {oI oC oD : Obj} {S : List (Addr × Obj) → Prop} {r1 r2 : Value → List (Addr × Obj) → Prop} {y : Value} (h : LCg.CompEnd h₀ L m s₁ I oI C oC D oD S r1 y s₂) (f : ∀ v n, r1 v n → r2 v n) : LCg.CompEnd h₀ L m s₁ I oI C oC D oD S r2 y s₂ := compEnd_mono h (f y)
/-- the turns of a comprehension with a test, by an invariant -/
theorem restT_inv {S : List (Addr × Obj) → Prop} {P : Nat → Value → Prop} {n : Nat} (J : Nat → List Value → List (Addr × Obj) → Prop)
    (step : ∀ i ys news, i < n → J i ys news → ∀ v I oI C oC D m₂ h tk (E' : Value → Shared → Prop), P i v → LCg.NsObj oC m₂ → m₂ x = some v → Fr h₀ L h m → News h₀ L h ((I, oI) :: (C, oC) :: (D, LCg.lst ys) :: news) → LCg.Off3 I C D news → ((@Ne Nat I C) ∧ (@Ne Nat I D) ∧ (@Ne Nat C D)) →
      wpAny (model prog w) A (isTrue ct (compEnvC scope cl C env) (eval ct (compEnvC scope cl C env))) (fun ok s' => if ok = true then
        wpAny (model prog w) A (eval elt (compEnvC scope cl C env)) (LCg.CompEnd h₀ L m { s with heap := h, toks := tk } I oI C oC D (LCg.lst ys) S (fun y news' => J (i + 1) (ys ++ [y]) news')) E' s'
        else LCg.CompEnd h₀ L m { s with heap := h, toks := tk } I oI C oC D (LCg.lst ys) S (fun _ news' => J (i + 1) ys news') Value.none s') E' { s with heap := h, toks := tk })
    (fin : ∀ ys news, J n ys news → Fin ys news) : ∀ k i ys news, i + k = n → J i ys news → LCt.CompRestT prog w A h₀ L m env ct elt x scope cl s S P Fin k i ys news
  | 0, i, ys, news, e, hJ => LCt.CompRestT.zero (fin ys news (by rw [Nat.add_zero] at e; exact e ▸ hJ))
  | k + 1, i, ys, news, e, hJ => LCt.CompRestT.succ fun v I oI C oC D m₂ h tk E' hP hC hx F N o ne =>
    wpAny_mono (step i ys news (by omega) hJ v I oI C oC D m₂ h tk E' hP hC hx F N o ne) (fun ok s' h' => by
      split at h'
      · rename_i hok
        rw [if_pos hok]
        exact wpAny_mono h' (fun y s₂ h₂ => compEnd_mono h₂ fun n' r => restT_inv J step fin k (i + 1) _ _ (by omega) r) fun _ _ e => e
      · rename_i hok
        rw [if_neg hok]
        exact compEnd_mono h' fun n' r => restT_inv J step fin k (i + 1) _ _ (by omega) r) fun _ _ e => e
/-- the turns of a comprehension without a test -/
theorem rest_inv {S : List (Addr × Obj) → Prop} {P : Nat → Value → Prop} {n : Nat} (J : Nat → List Value → List (Addr × Obj) → Prop)
    (step : ∀ i ys news, i < n → J i ys news → ∀ v I oI C oC D m₂ h tk (E' : Value → Shared → Prop), P i v → LCg.NsObj oC m₂ → m₂ x = some v → Fr h₀ L h m → News h₀ L h ((I, oI) :: (C, oC) :: (D, LCg.lst ys) :: news) → LCg.Off3 I C D news → ((@Ne Nat I C) ∧ (@Ne Nat I D) ∧ (@Ne Nat C D)) →
        wpAny (model prog w) A (eval elt (compEnvC scope cl C env)) (LCg.CompEnd h₀ L m { s with heap := h, toks := tk } I oI C oC D (LCg.lst ys) S (fun y news' => J (i + 1) (ys ++ [y]) news')) E' { s with heap := h, toks := tk })
    (fin : ∀ ys news, J n ys news → Fin ys news) : ∀ k i ys news, i + k = n → J i ys news → LCg.CompRest prog w A h₀ L m env elt x scope cl s S P Fin k i ys news
  | 0, i, ys, news, e, hJ => LCg.CompRest.zero (fin ys news (by rw [Nat.add_zero] at e; exact e ▸ hJ))
  | k + 1, i, ys, news, e, hJ => LCg.CompRest.succ fun v I oI C oC D m₂ h tk E' hP hC hx F N o ne =>
    wpAny_mono (step i ys news (by omega) hJ v I oI C oC D m₂ h tk E' hP hC hx F N o ne) (fun y s₂ h₂ => compEnd_mono h₂ fun n' r => rest_inv J step fin k (i + 1) _ _ (by omega) r) fun _ _ e => e

/-- a text as what a comprehension goes over -/
def CompSrcS (prog : Program) (w : World) (A : Around) (h₀ : Heap) (L : Addr) (m : Str → Option Value) (env : Env) (ct elt : Expr) (x : Str) (scope : Scope) (cl : List (Str × Addr)) (Fin : Shared → List Value → List (Addr × Obj) → Prop) (xv : Value) (s₁ : Shared) : Prop :=
  ∃ y t news, xv = .str y t ∧ A.handled = none ∧ Fr h₀ L s₁.heap m ∧ News h₀ L s₁.heap news ∧ y.cps.size ≤ sizeLine ∧
    ∀ g, LCt.CompRestT prog w A h₀ L m env ct elt x scope cl { s₁ with heap := g } (fun _ => True) (SignAt y) (Fin { s₁ with heap := g }) y.cps.size 0 [] news
theorem CompSrcS.intro {Fin : Shared → List Value → List (Addr × Obj) → Prop} {y : Str} {t : Tok} {news : List (Addr × Obj)} {s₁ : Shared} (hh : A.handled = none) (F : Fr h₀ L s₁.heap m) (N : News h₀ L s₁.heap news) (hsz : y.cps.size ≤ sizeLine)
    (h : ∀ g, LCt.CompRestT prog w A h₀ L m env ct elt x scope cl { s₁ with heap := g } (fun _ => True) (SignAt y) (Fin { s₁ with heap := g }) y.cps.size 0 [] news) : CompSrcS prog w A h₀ L m env ct elt x scope cl Fin (.str y t) s₁ := ⟨y, t, news, rfl, hh, F, N, hsz, h⟩

theorem ListComp_S {Q : Value → Shared → Prop} (F₀ : Fr h₀ L s.heap m)
    (hclos : closureFor scope env = pure cl) (hcell : ∀ y ∈ scope.names, y.2 ≠ .cell) (hkind : scope.kind = .function)
    (hnames : ∀ y ∈ scope.names, y.2 = .local → scope.names.lookup y.1 = some .local) (hx : scope.names.lookup x = some .local)
    (h : wpAny (model prog w) A (eval iter env) (CompSrcS prog w A h₀ L m env ct elt x scope cl (fun s₂ => LCg.FinE h₀ L m s₂ Q)) E s)
    (hs : ∀ x, foldedSetIterable iter env x = pure x := by intro _; rfl) :
    wpAny (model prog w) A (eval (.ListComp elt [⟨.Name x px, iter, [ct], 0⟩] scope pos) env) Q E s := by
  rw [eval_ListComp]
  refine wpAny_comprehension_free (use := none) rfl hs hclos hkind hnames (wpAny_mono h (fun xv s₁ h₁ => ?_) fun _ _ e => e)
  obtain ⟨y, t, news, rfl, hh, F, N, hsz, R⟩ := h₁
  have up : ∀ (q : Obj) b o, s₁.heap.get? b = some o → (s₁.heap.push q).get? b = some o := fun q b o e => Heap.get?_push_of_some _ e
  have sz : ∀ (q : Obj) b, b ∈ [s₁.heap.objs.size] → b < (s₁.heap.push q).objs.size := fun q b hb => by
    rw [List.mem_singleton.mp hb, Heap.size_push]; exact Nat.lt_succ_self _
  cases ha : y.cps.all (· < 128)
  · refine wpAny_pyIter_wide ha ?_
    refine LCt.block_T (Walks.strWide hh s₁.heap.objs.size y t) hsz (fun i h st => by obtain ⟨o, e, _⟩ := st; exact ⟨o, e⟩) (fun i h h' o nw st e e' _ _ _ => by obtain ⟨o', q, r⟩ := st; rw [e] at q; cases q; exact ⟨o, e', r⟩) hcell hkind hx ⟨_, Heap.get?_push_size _ rfl, rfl, rfl⟩ (sz _)
      (F.keeps (up _)) (N.grown (up _)) (Nat.ne_of_lt F.ns.lt) (next_is_new F) (fun p hp => Nat.ne_of_lt (Heap.lt_size (N p hp).1)) trivial (R _) ?_
    intro D C h tk m' ys news' F' N' o1 hn hC₀ hD₀ hCL hDL hCD offC fin
    refine ⟨m', hn, fun h'' hs'' => fin D h'' tk (F'.change hs'' hCL hC₀) (fun p hp => ?_) o1⟩
    refine ⟨hs''.extBut _ _ ?_ (N' p hp).1, (N' p hp).2⟩
    rcases List.mem_cons.mp hp with rfl | hp
    · exact Ne.symm hCD
    · exact offC p hp
  · refine wpAny_pyIter_ascii ha ?_
    refine LCt.block_T (Walks.strAscii hh s₁.heap.objs.size y t) hsz (fun i h st => by obtain ⟨o, e, _⟩ := st; exact ⟨o, e⟩) (fun i h h' o nw st e e' _ _ _ => by obtain ⟨o', q, r⟩ := st; rw [e] at q; cases q; exact ⟨o, e', r⟩) hcell hkind hx ⟨_, Heap.get?_push_size _ rfl, rfl, rfl⟩ (sz _)
      (F.keeps (up _)) (N.grown (up _)) (Nat.ne_of_lt F.ns.lt) (next_is_new F) (fun p hp => Nat.ne_of_lt (Heap.lt_size (N p hp).1)) trivial (R _) ?_
    intro D C h tk m' ys news' F' N' o1 hn hC₀ hD₀ hCL hDL hCD offC fin
    refine ⟨m', hn, fun h'' hs'' => fin D h'' tk (F'.change hs'' hCL hC₀) (fun p hp => ?_) o1⟩
    refine ⟨hs''.extBut _ _ ?_ (N' p hp).1, (N' p hp).2⟩
    rcases List.mem_cons.mp hp with rfl | hp
    · exact Ne.symm hCD
    · exact offC p hp
end
end Mine
namespace Mine
open PyProof.V PySem.Spec
theorem strs_canLay : ∀ {ns : List Str}, (∀ y ∈ ns, PyData.strOk y = true) → PyData.canLayAll0 (ns.map PyData.str) = true
  | [], _ => rfl
  | a :: r, h => by simp [PyData.canLayAll0, PyData.canLay0, strs_canLay (ns := r) fun y hy => h y (.tail _ hy), h a (.head _)]
theorem strs_depth : ∀ ns : List Str, PyData.depthAll (ns.map PyData.str) = 0
  | [] => rfl
  | _ :: r => by simp [PyData.depthAll, PyData.depth, strs_depth r]
theorem strs_shaped {ns : List Str} (h : ∀ y ∈ ns, PyData.strOk y = true) : SeqAt.shaped (.list (ns.map PyData.str)) = true := by
  simp [SeqAt.shaped, PyData.canLay0, PyData.depth, strs_canLay h, strs_depth]
theorem strs_sameAll : ∀ ns ms : List Str, PySem.Spec.sameAll (ns.map PyData.str) (ms.map PyData.str) = decide (ns = ms)
  | [], [] => by simp [PySem.Spec.sameAll]
  | [], _ :: _ => by simp [PySem.Spec.sameAll]
  | _ :: _, [] => by simp [PySem.Spec.sameAll]
  | a :: r, b :: t => by
    simp only [List.map_cons, PySem.Spec.sameAll, PySem.Spec.same, strs_sameAll r t]
    by_cases h : a = b <;> by_cases h' : r = t <;> simp [h, h']
theorem strs_same (ns ms : List Str) : PySem.Spec.same (.list (ns.map PyData.str)) (.list (ms.map PyData.str)) = decide (ns = ms) := by
  simp only [PySem.Spec.same]; exact strs_sameAll ns ms
theorem strs_carried : ∀ {vs : List Value} {ns : List Str}, StrsAre vs ns → CarriedAll vs (ns.map PyData.str)
  | _, _, .nil => .nil
  | _, _, .cons _ t r => .cons (.str _ t) (strs_carried r)
section
variable {prog : Program} {w : World} {A : Around} {E : Value → Shared → Prop} {s : Shared} {a b : Addr} {xs ys : List Value} {ns ms : List Str} {Q : Value → Shared → Prop}
theorem eq_strs (ha : s.heap.IsList a xs.toArray) (hb : s.heap.IsList b ys.toArray) (hi : StrsAre xs ns) (hj : StrsAre ys ms) (h1 : ∀ y ∈ ns, PyData.strOk y = true) (h2 : ∀ y ∈ ms, PyData.strOk y = true) (hu : A.units + 64 < cLine) (h : Q (.bool (decide (ns = ms))) s) :
    wpAny (model prog w) A (compareOp .Eq (.ref a) (.ref b)) Q E s :=
  eq_dataH_same (reads_newData ha (strs_carried hi)) (reads_newData hb (strs_carried hj)) (strs_shaped h1) (strs_shaped h2) hu (SeqAt.noMix_of_shape (.list .str) rfl _ _ (list_map_has fun _ => rfl) (list_map_has fun _ => rfl)) (by rw [strs_same]; exact h)
theorem ne_strs (ha : s.heap.IsList a xs.toArray) (hb : s.heap.IsList b ys.toArray) (hi : StrsAre xs ns) (hj : StrsAre ys ms) (h1 : ∀ y ∈ ns, PyData.strOk y = true) (h2 : ∀ y ∈ ms, PyData.strOk y = true) (hu : A.units + 64 < cLine) (h : Q (.bool (!decide (ns = ms))) s) :
    wpAny (model prog w) A (compareOp .NotEq (.ref a) (.ref b)) Q E s :=
  ne_dataH_same (reads_newData ha (strs_carried hi)) (reads_newData hb (strs_carried hj)) (strs_shaped h1) (strs_shaped h2) hu (SeqAt.noMix_of_shape (.list .str) rfl _ _ (list_map_has fun _ => rfl) (list_map_has fun _ => rfl)) (by rw [strs_same]; exact h)
end
end Mine
end
section
open PySem PySem.W PyProof.Rows
theorem Mine.woff19 : True := by w_top off; trivial
namespace Mine
/-- the signs among the first i that f holds for -/
def sift (f : Nat → Bool) (l : List Nat) (i : Nat) : List Str := ((l.take i).filter f).map one
theorem sift_snoc {f : Nat → Bool} {x : Str} {i c : Nat} (h : x.cps[i]? = some c) : sift f x.cps.toList (i + 1) = sift f x.cps.toList i ++ (if f c = true then [one c] else []) := by
  unfold sift
  have h2 : x.cps.toList[i]? = some c := by rw [Array.getElem?_toList]; exact h
  rw [List.take_add_one, h2, List.filter_append, List.map_append]
  congr 1
  simp only [Option.toList]
  by_cases hf : f c = true <;> simp [hf]
theorem sift_all {f : Nat → Bool} {x : Str} {n : Nat} (hn : n = x.cps.size) : sift f x.cps.toList n = (x.cps.toList.filter f).map one := by
  unfold sift
  rw [List.take_of_length_le (by rw [hn]; simp)]
theorem sift_nil {f : Nat → Bool} {x : Str} {n : Nat} (hn : n = x.cps.size) : (sift f x.cps.toList n = []) ↔ x.cps.toList.any f = false := by
  rw [sift_all hn, List.map_eq_nil_iff, List.filter_eq_nil_iff, List.any_eq_false]
theorem sift_ok {f : Nat → Bool} {l : List Nat} {i : Nat} (h : ∀ c ∈ l, c < 1114112) : ∀ y ∈ sift f l i, PyData.strOk y = true := fun y hy => by
  unfold sift at hy
  obtain ⟨c, hc, rfl⟩ := List.mem_map.mp hy
  have := h c (List.mem_of_mem_take (List.mem_filter.mp hc).1)
  simp [PyData.strOk, one, this]
local macro_rules | `(tactic| size_fits) => `(tactic| (simp only [PySem.sizeLine_eq]; omega))
local macro_rules | `(tactic| walk_at "eval ListComp") => `(tactic| (k_here; k_dflt (refine ListComp_S (F₀ := by k_asm) (by rfl) (by decide) (by rfl) (by decide) (by rfl) ?_)))
local macro_rules | `(tactic| walk_at "compareOp Eq ref ref") => `(tactic| (k_here; k_dflt (refine' eq_strs ?ka ?kb ?ki ?kj ?ko ?kp ?ku ?_; (case ka => exact News.isList (by k_asm) (by k_mem)); (case kb => exact News.isList (by k_asm) (by k_mem)); (case ki => assumption); (case kj => exact StrsAre.nil); (case ko => assumption); (case kp => exact List.forall_mem_nil _); (case ku => ktr_units))))
theorem split_room {x : Str} {ys : List Str} (hx : x.length ≤ 65536) (h : ys = Txt.split x (Str.ofString "'")) : (ys.map (·.length)).sum + ys.length * (Str.ofString "'\"'\"'").length ≤ 16777216 := by
  have h1 := split_weight x (Str.ofString "'") (by decide)
  have h2 : (Str.ofString "'\"'\"'").length = 5 := by decide
  rw [h, h2]; omega
theorem join_sp {prog : Program} {w : World} {A : Around} {E : Value → Shared → Prop} {s : Shared} {Q : Value → Shared → Prop} {D : Addr} {items : Array Value} {x : Str} {t : Tok} {ys : List Str} (hl : s.heap.IsList D items) (hi : StrsAre items.toList ys) (he : ys = Txt.split x (Str.ofString "'")) (hx : x.length ≤ 65536)
    (h : ∀ t' k, Q (.str (S (subst 39 [39, 34, 39, 34, 39] x.cps.toList)) t') { s with toks := k }) : wpAny (model prog w) A (call (.builtin "str.join") [.str (Str.ofString "'\"'\"'") t, .ref D]) Q E s :=
  join_list hl hi (split_room hx he) fun t' k => by
    have e : Txt.join (Str.ofString "'\"'\"'") ys = S (subst 39 [39, 34, 39, 34, 39] x.cps.toList) := by
      refine PySem.Str.ext' (Array.toList_inj.mp ?_)
      rw [he, lit_q, lit_qq]
      show (Txt.join _ (Txt.split x ⟨#[39]⟩)).cps.toList = _
      rw [splitjoin_one, S_list, S_list]
    rw [e]; exact h t' k
theorem news_sub {h₀ h : Heap} {L : Addr} {a b : List (Addr × Obj)} (N : News h₀ L h b) (f : ∀ p ∈ a, p ∈ b) : News h₀ L h a := fun q hq => N q (f q hq)
theorem shell_same {x : Str} (h1 : (x != Str.ofString "") = true) (h2 : x.cps.toList.any must = false) : S (shellL x.cps.toList) = x := by
  have hne : x.cps.toList ≠ [] := fun e => by
    have h3 : x = Str.ofString "" := by rw [← S_of x, e]; decide
    rw [h3] at h1; exact absurd h1 (by decide)
  unfold shellL
  rw [if_pos ⟨hne, h2⟩, S_of]
theorem shell_quoted {x : Str} (h : x.cps.toList.any must = true) : S (shellL x.cps.toList) = Str.ofString "'" ++ S (subst 39 [39, 34, 39, 34, 39] x.cps.toList) ++ Str.ofString "'" := by
  unfold shellL
  rw [if_neg (fun q => by rw [h] at q; exact absurd q.2 (by decide)), lit_q, S_app, S_app]; rfl
theorem shell_empty {x : Str} (h : (x != Str.ofString "") = false) : S (shellL x.cps.toList) = Str.ofString "'" ++ S (subst 39 [39, 34, 39, 34, 39] x.cps.toList) ++ Str.ofString "'" := by
  have e : x = Str.ofString "" := by simpa using h
  subst e; decide +kernel
local macro_rules | `(tactic| walk_at "call builtin:str.join") => `(tactic| (k_here; k_dflt (refine' join_sp ?hl ?hi ?he ?hx ?_; (case hl => assumption); (case hi => assumption); (case he => assumption); (case hx => assumption); k_whole); intro t' k'))
set_option maxHeartbeats 4000000 in
theorem c_shell (prog : Program) (w : World) (x : Str) (t : Tok) (hx : x.length ≤ 65536) (hb : ∀ c ∈ x.cps.toList, c < 1114112) : Says prog w 146 2 110 [.str x t] (fun t => .str (S (shellL x.cps.toList)) t) := by
  have hrl : (S (subst 39 [39, 34, 39, 34, 39] x.cps.toList)).length ≤ 5 * x.length := by
    rw [S_len]; exact subst_len 39 _ _ (by decide)
  have hq : (Str.ofString "'").length = 1 := by rw [lit_q]; rfl
  unfold Says; intro p loose mean mg mb dp un gd cn cs a ccd cl outer A₀ base h₀ L m news s Q E B F X N T hk hd hu hret; refine wpAny_call ?_; (first | k_dflt cell_enter | fail "not entered")
  k_steps
  · unfold Hold
    have hsz : x.cps.size ≤ sizeLine := by rw [PySem.sizeLine_eq]; have : x.cps.size ≤ 65536 := hx; omega
    refine CompSrcS.intro rfl (by assumption) (by assumption) hsz ?_
    intro g
    refine restT_inv (fun i ys nw => nw = news ∧ StrsAre ys (sift must x.cps.toList i)) ?_ ?_ _ 0 [] news (Nat.zero_add _) ⟨rfl, .nil⟩
    · intro i ys nw hi hJ v I oI C oC D m₂ h tk E' hP hC hx F N o ne
      obtain ⟨rfl, hJ⟩ := hJ
      obtain ⟨c, u, hc, rfl⟩ := hP
      have Cm := fun t => c_must prog w c t
      have hs := sift_snoc (f := must) hc
      k_steps
      · unfold Hold
        refine LCg.CompEnd.intro (by assumption) (by assumption) nw (fun _ h => h) o trivial ⟨rfl, ?_⟩
        rw [hs, if_pos (by assumption)]
        exact hJ.append' (.cons _ _ .nil)
      · unfold Hold
        refine LCg.CompEnd.intro (by assumption) (by assumption) nw (fun _ h => h) o trivial ⟨rfl, ?_⟩
        rw [hs, if_neg (by simp_all), List.append_nil]
        exact hJ
    · intro ys nw hJ
      obtain ⟨rfl, hJ⟩ := hJ
      have hok := sift_ok (f := must) (i := x.cps.size) hb
      k_steps
      · have hn := (sift_nil (f := must) rfl).mp (of_decide_eq_true (by assumption))
        exact cb_retS hret (shell_same (by assumption) hn).symm (by assumption) (news_tail (news_tail (by assumption)))
      · have hn : x.cps.toList.any must = true := by
          rw [← Bool.not_eq_false]; intro e
          exact absurd ((sift_nil (f := must) rfl).mpr e) (of_decide_eq_false (by assumption))
        exact cb_retS hret (shell_quoted hn).symm (by assumption) (news_tail (news_tail (news_tail (by assumption))))
  · exact cb_retS hret (shell_empty (by assumption)).symm (by assumption) (news_tail (by assumption))
end Mine
end
section
open PySem PySem.W PyProof.Rows
theorem Mine.woff20 : True := by w_top off; trivial
namespace Mine
/-- the law's pattern reader: the closed runs and the open one, behind n signs -/
def prun (l : List Nat) : Nat → List (List Nat) × List Nat
  | 0 => ([], [])
  | n + 1 =>
    if l.getD n 0 = 63 then ((prun l n).1, (prun l n).2 ++ [46])
    else if l.getD n 0 ≠ 42 then ((prun l n).1, (prun l n).2 ++ esc (l.getD n 0))
    else if n = 0 ∨ l.getD (n - 1) 0 ≠ 42 then ((prun l n).1 ++ [(prun l n).2], [])
    else prun l n
theorem len_list2 {x : Str} : x.length = x.cps.toList.length := by simp [Str.length]
theorem prun_len (l : List Nat) : ∀ n, ((prun l n).1.map List.length).sum + (prun l n).2.length ≤ 2 * n ∧ (prun l n).1.length ≤ n
  | 0 => by simp [prun]
  | n + 1 => by
    have ih := prun_len l n
    rw [prun]
    split
    · simp only [List.length_append, List.length_singleton]; omega
    · split
      · have : (esc (l.getD n 0)).length ≤ 2 := by unfold esc; split <;> simp
        simp only [List.length_append]; omega
      · split
        · simp only [List.length_append, List.length_singleton, List.map_append, List.sum_append, List.map_cons, List.map_nil, List.sum_cons, List.sum_nil, List.length_nil]; omega
        · omega
theorem prun_q {l : List Nat} {n : Nat} (h : l.getD n 0 = 63) : prun l (n + 1) = ((prun l n).1, (prun l n).2 ++ [46]) := by rw [prun, if_pos h]
theorem prun_c {l : List Nat} {n : Nat} (h : l.getD n 0 ≠ 63) (h2 : l.getD n 0 ≠ 42) : prun l (n + 1) = ((prun l n).1, (prun l n).2 ++ esc (l.getD n 0)) := by rw [prun, if_neg h, if_pos h2]
theorem prun_s {l : List Nat} {n : Nat} (h : l.getD n 0 = 42) (h2 : n = 0 ∨ l.getD (n - 1) 0 ≠ 42) : prun l (n + 1) = ((prun l n).1 ++ [(prun l n).2], []) := by
  rw [prun, if_neg (by omega), if_neg (by omega), if_pos h2]
theorem prun_t {l : List Nat} {n : Nat} (h : l.getD n 0 = 42) (h2 : n ≠ 0) (h3 : l.getD (n - 1) 0 = 42) : prun l (n + 1) = prun l n := by
  rw [prun, if_neg (by omega), if_neg (by omega), if_neg (by omega)]
theorem lit_qm : (Str.ofString "?").cps.toList = [63] := by decide +kernel
theorem lit_star : (Str.ofString "*").cps.toList = [42] := by decide +kernel
theorem lit_dot : Str.ofString "." = S [46] := by decide +kernel
theorem lit_bs : Str.ofString "\\" = S [92] := by decide +kernel
theorem is_yes {b : Bool} {p : Prop} [Decidable p] (h : b = decide p) (a : b = true) : p := of_decide_eq_true (h ▸ a)
theorem is_no {b : Bool} {p : Prop} [Decidable p] (h : b = decide p) (a : b = false) : ¬ p := of_decide_eq_false (h ▸ a)
theorem ne_yes {b : Bool} {p : Prop} [Decidable p] (h : b = decide p) (a : (!b) = true) : ¬ p := is_no h (by simpa using a)
theorem ne_no {b : Bool} {p : Prop} [Decidable p] (h : b = decide p) (a : (!b) = false) : p := is_yes h (by simpa using a)
def wrapR (g : List Nat) : List Nat := [40, 63, 62, 46, 42, 63] ++ g ++ [41]
/-- what the law's pattern reader makes of a text -/
def patR : List (List Nat) → List Nat → List Nat
  | [], a => [40, 63, 115, 58] ++ a ++ [41, 92, 90]
  | f :: r, a => [40, 63, 115, 58] ++ f ++ r.flatMap wrapR ++ [46, 42] ++ a ++ [41, 92, 90]
def patL (l : List Nat) : List Nat := patR (prun l l.length).1 (prun l l.length).2
theorem wrap_sum (r : List (List Nat)) : ((r.map fun g => S (wrapR g)).map (·.length)).sum = (r.map List.length).sum + 7 * r.length := by
  induction r with
  | nil => rfl
  | cons g r ih =>
    simp only [List.map_cons, List.sum_cons, ih, List.length_cons, S_len]
    have : (wrapR g).length = g.length + 7 := by simp [wrapR]
    omega
theorem wrap_len (r : List (List Nat)) : (r.flatMap wrapR).length = (r.map List.length).sum + 7 * r.length := by
  induction r with
  | nil => rfl
  | cons g r ih =>
    have : (wrapR g).length = g.length + 7 := by simp [wrapR]
    simp only [List.flatMap_cons, List.length_append, ih, List.map_cons, List.sum_cons, List.length_cons]
    omega
theorem strs_at {us : List Value} {ss : List Str} (h : StrsAre us ss) : ∀ {i : Nat} {v : Value}, us[i]? = some v → ∃ y t, v = .str y t ∧ ss[i]? = some y := by
  induction h with
  | nil => intro i v e; simp at e
  | cons y t _ ih =>
    intro i v e
    cases i with
    | zero => exact ⟨y, t, by simpa using e.symm, rfl⟩
    | succ i => exact ih (by simpa using e)
theorem mem_sum {r : List (List Nat)} {g : List Nat} (h : g ∈ r) : g.length ≤ (r.map List.length).sum := by
  induction r with
  | nil => cases h
  | cons a r ih =>
    simp only [List.map_cons, List.sum_cons]
    rcases List.mem_cons.mp h with e | h
    · subst e; omega
    · have := ih h; omega
theorem lit_o : Str.ofString "(?>.*?" = S [40, 63, 62, 46, 42, 63] := by decide +kernel
theorem lit_c : Str.ofString ")" = S [41] := by decide +kernel
theorem lit_h : Str.ofString "(?s:" = S [40, 63, 115, 58] := by decide +kernel
theorem lit_ds : Str.ofString ".*" = S [46, 42] := by decide +kernel
theorem lit_e : Str.ofString ")\\Z" = S [41, 92, 90] := by decide +kernel
theorem join_wrap {prog : Program} {w : World} {A : Around} {E : Value → Shared → Prop} {s : Shared} {Q : Value → Shared → Prop} {D : Addr} {items : Array Value} {t : Tok} {r : List (List Nat)} (hl : s.heap.IsList D items) (hi : StrsAre items.toList (r.map fun g => S (wrapR g))) (hr : (r.map List.length).sum + 7 * r.length ≤ 655360)
    (h : ∀ t' k, Q (.str (S (r.flatMap wrapR)) t') { s with toks := k }) : wpAny (model prog w) A (call (.builtin "str.join") [.str (Str.ofString "") t, .ref D]) Q E s :=
  join_list hl hi (by rw [wrap_sum]; have e0 : (Str.ofString "").length = 0 := (by decide); rw [e0]; omega) fun t' k => by
    have e : Txt.join (Str.ofString "") (r.map fun g => S (wrapR g)) = S (r.flatMap wrapR) := by
      refine PySem.Str.ext' (Array.toList_inj.mp ?_)
      rw [join_nil_list, S_list, List.flatMap_map]
      congr 1
    rw [e]; exact h t' k
section
variable {prog : Program} {w : World} {A : Around} {E : Value → Shared → Prop} {s : Shared} {h₀ : Heap} {L D : Addr} {m : Str → Option Value} {news news' : List (Addr × Obj)} {us : List Value} {y v : Value} {n : Nat} {t : Tok}
theorem get_last {Q : Value → Shared → Prop} (hl : s.heap.IsList D (us ++ [y]).toArray) (h : Q y s) : wpAny (model prog w) A (getItem (.ref D) (.int (-1) t)) Q E s := by
  refine wpAny_getItem_list_neg hl (by decide) (by simp; omega) (by decide) ?_ h
  have e : ((-1 : Int) + ((us ++ [y]).toArray.size : Nat)).toNat = us.length := by
    rw [List.size_toArray, List.length_append, List.length_singleton]; omega
  rw [e]; simp
theorem sub_last {value slice : PySem.Expr} {Q : Value → Shared → Prop} (hl : s.heap.IsList D (us ++ [y]).toArray) (h : Q y s) (hs : subscripted slice false (.ref D) (.int (-1) t) = operate [.ref D, .int (-1) t] (getItem (.ref D) (.int (-1) t)) := by with_unfolding_all rfl) :
    wpAny (model prog w) A (subscriptTail value slice (.ref D) (.int (-1) t)) Q E s := tail_any hl.typeIs slot_list_getitem.lookup (get_last hl h) hs
theorem sub_first {value slice : PySem.Expr} {Q : Value → Shared → Prop} {f : Value} (hl : s.heap.IsList D (f :: us).toArray) (h : Q f s) (hs : subscripted slice false (.ref D) (.int 0 t) = operate [.ref D, .int 0 t] (getItem (.ref D) (.int 0 t)) := by with_unfolding_all rfl) :
    wpAny (model prog w) A (subscriptTail value slice (.ref D) (.int 0 t)) Q E s := tail_any hl.typeIs slot_list_getitem.lookup (wpAny_getItem_list hl (by decide) (by decide) (by simp) h) hs
theorem len_two {Q : Value → Shared → Prop} {f : Value} (hl : s.heap.IsList D (f :: (us ++ [y])).toArray) (hn : us.length ≤ 65536) (h : Q (.int ((us.length + 2 : Nat) : Int) (s.toks + 1)) { s with toks := s.toks + 1 + 1 }) : wpAny (model prog w) A (call (.builtin "len") [.ref D]) Q E s := by
  refine Calls.call_len_list hl (by simp; omega) ?_
  have e : (f :: (us ++ [y])).toArray.size = us.length + 2 := by simp
  rw [e]; exact h
theorem slice_mid (f v : Value) (us : List Value) : (slicePick (f :: (us ++ [v])).toArray (some 1) (some (-1)) none).toList = us := by
  have e : sliceBounds (some 1) (some (-1)) none (f :: (us ++ [v])).toArray.size = (((1 : Nat) : Int), ((us.length + 1 : Nat) : Int), 1) := by
    rw [sliceBounds_plain]
    have h1 : clipAt (f :: (us ++ [v])).toArray.size (1 : Int) = 1 := by
      have q := clipAt_nat (f :: (us ++ [v])).toArray.size 1
      have q2 : min 1 (f :: (us ++ [v])).toArray.size = 1 := by simp
      rw [q2] at q; exact q
    have h2 : clipAt (f :: (us ++ [v])).toArray.size (-1 : Int) = us.length + 1 := by
      have q := clipAt_neg (f :: (us ++ [v])).toArray.size 1 (by decide)
      have q2 : (f :: (us ++ [v])).toArray.size - 1 = us.length + 1 := by simp
      rw [q2] at q; exact q
    simp only [Option.elim]
    rw [h1, h2]
  rw [kmk_pick_nat _ e]
  simp
theorem set_last {Q : Unit → Shared → Prop} (F : Fr h₀ L s.heap m) (N : News h₀ L s.heap news) (U : Upd D (PySem.W.listOf (us ++ [y]).toArray n) (PySem.W.listOf (us ++ [v]).toArray n) news news')
    (h : ∀ h', Fr h₀ L h' m → News h₀ L h' news' → Q () { s with heap := h' }) : wpAny (model prog w) A (setItem (.ref D) (.int (-1) t) v) Q E s := by
  obtain ⟨pre, post, rfl, rfl, a, b⟩ := U.split
  have z := N (D, PySem.W.listOf (us ++ [y]).toArray n) (List.mem_append.mpr (.inr (.head _)))
  have e : ((-1 : Int) + ((us ++ [y]).toArray.size : Nat)).toNat = us.length := by
    rw [List.size_toArray, List.length_append, List.length_singleton]; omega
  refine ki_setBack z.1 (by decide) (by simp; omega) (by decide) ?_
  rw [e]
  refine h _ (F.change (Heap.SameBut.update ..) z.2.1 z.2.2) (ki_turn _ N a b ?_ ?_)
  · apply Array.toList_inj.mp; simp
  · simp
end
local macro_rules | `(tactic| walk_at "getItem ref int") => `(tactic| (k_here; (with_reducible show wpAny _ _ (getItem (Value.ref _) (Value.int (-1) _)) _ _ _); k_dflt (refine' get_last ?kl ?_; (case kl => exact News.isList (by k_asm) (by k_mem)); k_whole)))
local macro_rules | `(tactic| walk_at "setItem ref int") => `(tactic| (k_here; (with_reducible show wpAny _ _ (setItem (Value.ref _) (Value.int (-1) _) _) _ _ _); k_dflt (refine' set_last ?k1 ?k2 ?k3 ?_; (case k1 => k_asm); (case k2 => k_asm); (case k3 => k_upd); k_whole); intro h' F' N'; (try k_sweep)))
local macro_rules | `(tactic| walk_at "newList") => `(tactic| (k_here; k_dflt (refine' newList_A ?k1 ?k2 ?_ ?kz; (case k1 => k_asm); (case k2 => k_asm); (case kz => first | exact Nat.zero_le _ | size_fits | (rw [PySem.sizeLine_eq]; decide)); k_whole); intro l' h' F' N' l1; (try simp only [AllLt, and_true] at l1); (try k_sweep)))
local macro_rules | `(tactic| walk_at "subscriptTail") => `(tactic| (k_here; (with_reducible show wpAny _ _ (subscriptTail _ _ (Value.ref _) (Value.int 0 _)) _ _ _); k_dflt (refine' sub_first ?kl ?_ ?ks; (case kl => exact News.isList (by k_asm) (by k_mem)); (case ks => with_unfolding_all rfl); k_whole)))
local macro_rules | `(tactic| walk_at "subscriptTail") => `(tactic| (k_here; (with_reducible show wpAny _ _ (subscriptTail _ _ (Value.ref _) (Value.int (-1) _)) _ _ _); k_dflt (refine' sub_last (us := _ :: _) ?kl ?_ ?ks; (case kl => exact News.isList (by k_asm) (by k_mem)); (case ks => with_unfolding_all rfl); k_whole)))
local macro_rules | `(tactic| walk_at "call builtin:len") => `(tactic| (k_here; (with_reducible show wpAny _ _ (call (Value.builtin "len") [Value.ref _]) _ _ _); k_dflt (refine' len_two ?kl ?kn ?_; (case kl => exact News.isList (by k_asm) (by k_mem)); (case kn => omega); k_whole)))
local macro_rules | `(tactic| walk_at "subscriptTail Name Slice ref ref") => `(tactic| (k_here; (with_reducible show wpAny _ _ (subscriptTail _ (PySem.Expr.Slice _ _ none _) (Value.ref _) (Value.ref _)) _ _ _); k_dflt (refine' kmk_slice_lit ?F ?N ?l ?p ?q ?e ?_ ?s ?t ?z; (case F => k_asm); (case N => k_asm); (case l => exact News.isList (by k_asm) (by k_mem)); (case p => exact IsPart.int _ _); (case q => exact IsPart.int _ _); (case e => exact slice_mid _ _ _); (case s => with_unfolding_all rfl); (case t => (intro _; with_unfolding_all rfl)); (case z => (simp only [List.size_toArray, List.length_cons, List.length_append, List.length_nil, PySem.sizeLine_eq]; omega))); intro D' h' F' N' l1))
local macro_rules | `(tactic| walk_at "call builtin:str.join") => `(tactic| (k_here; k_dflt (refine' join_wrap ?hl ?hi ?hr ?_; (case hl => exact News.isList (by k_asm) (by k_mem)); (case hi => assumption); (case hr => assumption); k_whole); intro t' k'))
set_option maxHeartbeats 4000000 in
theorem c_pattern (prog : Program) (w : World) (x : Str) (t : Tok) (hx : x.length ≤ 65536) : Says prog w 158 2 110 [.str x t] (fun t => .str (S (patL x.cps.toList)) t) := by
  unfold Says; intro p loose mean mg mb dp un gd cn cs a ccd cl outer A₀ base h₀ L m news s Q E B F X N T hk hd hu hret; refine wpAny_call ?_; (first | k_dflt cell_enter | fail "not entered")
  k_steps
  rename_i l1 F1 N1 lt1 h2 t1 u1 v1 R1 F2 N2 K2
  unfold Hold
  have hlen : ((x.length : Int) - 0).toNat = x.length := by omega
  refine' kst_range (σ := List Value × Str × Tok × Nat) (fun c => (_, PySem.W.listOf (c.1 ++ [Value.str c.2.1 c.2.2.1]).toArray c.2.2.2) :: news) (fun c => []) (fun _ => True) [] (fun pre c => StrsAre c.1 ((prun x.cps.toList pre.length).1.map S) ∧ c.2.1 = S (prun x.cps.toList pre.length).2) ([], Str.ofString "", ?tok, 0) rfl R1 (small_one (by omega) (by omega) (by omega) (by omega)) (rangeSize_nat _ _) F2 N2 trivial ?hk ⟨.nil, (by decide : Str.ofString "" = S [])⟩ ?turn ?done
  case hk => exact fun p h => nomatch h
  case turn =>
    intro c pre k tk1 u h tk own hk1 hlt hoff _ hP F3 N3
    obtain ⟨us, y, yt, n⟩ := c
    dsimp only at hP N3 F3
    obtain ⟨hP, hy⟩ := hP
    simp only [List.cons_append] at N3
    have hne := own_neA hoff (by assumption)
    have hpl := prun_len x.cps.toList pre.length
    have hsz : us.length ≤ 65536 := by rw [hP.length, List.length_map]; omega
    have hyl : y.length ≤ 131072 := by rw [hy, S_len]; omega
    have hi := item_one (x := x) (i := k) (n := pre.length) (by omega) (by omega) (by omega)
    have C : ∀ t, Says prog w 153 1 8 [.str (Txt.item x k) t] (fun _ => .bool (special (x.cps.toList.getD pre.length 0))) := fun t => hi ▸ c_special prog w _ t
    have q1 := item_is (x := x) (i := k) (n := pre.length) lit_qm (by omega) (by omega) (by omega)
    have q2 := item_is (x := x) (i := k) (n := pre.length) lit_star (by omega) (by omega) (by omega)
    have lp : ∀ z : Int, (pre ++ [z]).length = pre.length + 1 := fun z => by rw [List.length_append, List.length_singleton]
    k_steps
    all_goals (unfold Hold; (rename Fr _ _ _ _ => F0); (rename News _ _ _ _ => N0); (try simp only [List.push_toArray] at N0))
    · refine end0 (us, y ++ Str.ofString ".", _, n) F0 N0 rfl rfl trivial sub1 own1 ?_ ?_
      · intro z h1 h2; simp [h1, h2, kstB]
      · rw [lp, prun_q (is_yes q1 (by assumption))]
        exact ⟨hP, by dsimp only; rw [hy, lit_dot, S_app]⟩
    · refine end0 (us, y ++ (Str.ofString "\\" ++ Txt.item x k), _, n) F0 N0 rfl rfl trivial sub1 own1 ?_ ?_
      · intro z h1 h2; simp [h1, h2, kstB]
      · rw [lp, prun_c (is_no q1 (by assumption)) (ne_yes q2 (by assumption)), hi]
        refine ⟨hP, ?_⟩
        dsimp only
        rw [hy, lit_bs, esc, if_pos (by assumption)]
        show S _ ++ (S [92] ++ S [_]) = _
        rw [S_app, S_app]; rfl
    · refine end0 (us, y ++ Txt.item x k, _, n) F0 N0 rfl rfl trivial sub1 own1 ?_ ?_
      · intro z h1 h2; simp [h1, h2, kstB]
      · rw [lp, prun_c (is_no q1 (by assumption)) (ne_yes q2 (by assumption)), hi]
        refine ⟨hP, ?_⟩
        dsimp only
        rw [hy, esc, if_neg (by simp_all)]
        show S _ ++ S [_] = _
        rw [S_app]
    · refine end0 (us ++ [.str y yt], Str.ofString "", _, n + 1) F0 N0 rfl rfl trivial sub1 own1 ?_ ?_
      · intro z h1 h2; simp [h1, h2, kstB]
      · rw [lp, prun_s (ne_no q2 (by assumption)) (.inl (by omega))]
        refine ⟨?_, (by decide : Str.ofString "" = S [])⟩
        rw [List.map_append]
        exact hP.append' (hy ▸ .cons _ _ .nil)
    · refine end0 (us ++ [.str y yt], Str.ofString "", _, n + 1) F0 N0 rfl rfl trivial sub1 own1 ?_ ?_
      · intro z h1 h2; simp [h1, h2, kstB]
      · have q3 := item_is (x := x) (i := k - 1) (n := pre.length - 1) lit_star (by omega) (by omega) (by omega)
        rw [lp, prun_s (ne_no q2 (by assumption)) (.inr (ne_yes q3 (by assumption)))]
        refine ⟨?_, (by decide : Str.ofString "" = S [])⟩
        rw [List.map_append]
        exact hP.append' (hy ▸ .cons _ _ .nil)
    · refine end0 (us, y, yt, n) F0 N0 rfl rfl trivial sub1 own1 ?_ ?_
      · intro z h1 h2; simp [h1, h2, kstB]
      · have q3 := item_is (x := x) (i := k - 1) (n := pre.length - 1) lit_star (by omega) (by omega) (by omega)
        rw [lp, prun_t (ne_no q2 (by assumption)) (by omega) (ne_no q3 (by assumption))]
        exact ⟨hP, hy⟩
  case done =>
    intro c u h tk _ hP F3 N3
    rw [rangeKs_length, hlen] at hP
    obtain ⟨us, y, yt, n⟩ := c
    dsimp only at hP N3 F3
    obtain ⟨hP, hy⟩ := hP
    have hpl := prun_len x.cps.toList x.length
    cases hr : (prun x.cps.toList x.length).1 with
    | nil =>
      rw [hr] at hP
      obtain rfl := hP.nil_inv
      have hyl : y.length ≤ 131072 := by rw [hy, S_len]; omega
      k_steps
      refine cb_retS hret ?_ (by assumption) (news_tail (by assumption))
      rw [patL, ← len_list2, hr, patR, hy, lit_h, lit_e, S_app, S_app]
    | cons f r =>
      rw [hr] at hP
      obtain ⟨i0, us, rfl, hQ⟩ := hP.cons_inv
      clear hP
      have hyl : y.length ≤ 131072 := by rw [hy, S_len]; omega
      rw [hr, List.length_cons, List.map_cons, List.sum_cons] at hpl
      have hul : us.length ≤ 65536 := by rw [hQ.length, List.length_map]; omega
      have hfl : (S f).length ≤ 131072 := by rw [S_len]; omega
      have hrl : (r.map List.length).sum + 7 * r.length ≤ 655360 := by omega
      have hml : (S (r.flatMap wrapR)).length ≤ 655360 := by rw [S_len, wrap_len]; omega
      k_steps
      · exfalso; omega
      · unfold Hold
        refine LCg.CompSrc.ledger rfl (by assumption) (by assumption) (.head _) (by rw [List.size_toArray, PySem.sizeLine_eq]; omega) ?_
        intro g
        refine rest_inv (fun i ys nw => nw = _ ∧ StrsAre ys ((r.take i).map fun g => S (wrapR g))) ?_ ?_ _ 0 [] _ (Nat.zero_add _) ⟨rfl, .nil⟩
        · intro i ys nw hi hJ v I oI C oC D m₂ h tk E' hP hC hx F N o ne
          obtain ⟨rfl, hJ⟩ := hJ
          obtain ⟨g0, t0, rfl, hg⟩ := strs_at hQ (by simpa using hP)
          rw [List.getElem?_map, Option.map_eq_some_iff] at hg
          obtain ⟨g, hg, rfl⟩ := hg
          have hgl : (S g).length ≤ 131072 := by
            have := mem_sum (List.mem_of_getElem? hg)
            rw [S_len]; omega
          k_steps
          unfold Hold
          refine LCg.CompEnd.intro (by assumption) (by assumption) _ (fun _ h => h) o (.inr ⟨_, .head _, rfl, _, rfl⟩) ⟨rfl, ?_⟩
          rw [List.take_add_one, hg, List.map_append]
          refine hJ.append' ?_
          rw [lit_o, lit_c, S_app, S_app]
          exact .cons _ _ .nil
        · intro ys nw hJ
          obtain ⟨rfl, hJ⟩ := hJ
          rw [List.take_of_length_le (by rw [List.size_toArray, hQ.length, List.length_map]; exact Nat.le_refl _)] at hJ
          k_steps
          refine cb_retS hret ?_ (by assumption) (news_tail (news_tail (news_tail (by assumption))))
          rw [patL, ← len_list2, hr, patR, hy, lit_h, lit_e, lit_ds, S_app, S_app, S_app, S_app, S_app]
end Mine
end
section
open PySem PySem.W PyProof.Rows
namespace Mine
theorem special_methdesc_get : typeLookup (.type "method_descriptor") "__get__" = pure (some (.builtin "method_descriptor.__get__")) := by rw [typeLookup_type, builtinLookup_eq_fast]; kernel_rfl
theorem special_methdesc_set : typeLookup (.type "method_descriptor") "__set__" = pure none := by rw [typeLookup_type, builtinLookup_eq_fast]; kernel_rfl
theorem special_methdesc_del : typeLookup (.type "method_descriptor") "__delete__" = pure none := by rw [typeLookup_type, builtinLookup_eq_fast]; kernel_rfl
theorem entry_methdesc_get : entryFor table "method_descriptor.__get__" = some Builtin.«method_descriptor.__get__» := entryFor_of_tree (by kernel_rfl)
theorem args_methdesc_get (a b c : Value) : argsOk "method_descriptor.__get__" ⟨[a, b, c], []⟩ := by unfold argsOk; kernel_rfl
theorem type_methdesc_get : typeOf (.builtin "method_descriptor.__get__") = pure (.type "wrapper_descriptor") := by show builtinType _ = _; rw [builtinType_eq_fast]; kernel_rfl
theorem slot_methdesc_get : Slot "method_descriptor" "__get__" "method_descriptor.__get__" :=
  .of (owner := "method_descriptor") (n := "__get__") special_methdesc_get (by decide +kernel) (by decide +kernel) (by decide +kernel)
    (by first | exact .inl (by decide +kernel) | exact .inr (by decide +kernel)) (by rw [isSubtype_type]; kernel_rfl)
section
variable {prog : Program} {w : World} {A : Around} {E : Value → Shared → Prop}
theorem bm_stores {s : Shared} {Q : Bool → Shared → Prop} (h : Q false s) : wpAny (model prog w) A (Builtin.ObjectAttr.takesStores (.builtin "list.append")) Q E s := by
  unfold Builtin.ObjectAttr.takesStores specialOf
  refine wpAny_bind (wpAny_bind (wpAny_of_eq type_list_append (wpAny_of_eq special_methdesc_set ?_)))
  dsimp only [Option.isSome]
  simp only [Bool.false_eq_true, if_false]
  refine wpAny_bind (wpAny_bind (wpAny_of_eq type_list_append (wpAny_of_eq special_methdesc_del ?_)))
  exact wpAny_pure h
set_option maxHeartbeats 1000000 in
theorem bm_find {s : Shared} {a : Addr} {xs : Array Value} {k : Nat} {Q : Builtin.ObjectAttr.Found → Shared → Prop} (hx : s.heap.get? a = some (PySem.W.listOf xs k))
    (h : Q (.bind (.builtin "method_descriptor.__get__") (.builtin "list.append")) s) : wpAny (model prog w) A (Builtin.ObjectAttr.find (.ref a) (.type "list") (Str.ofString "append")) Q E s := by
  unfold Builtin.ObjectAttr.find
  refine wpAny_bind (wpAny_of_eq slot_list_append.lookup ?_)
  refine wpAny_bind ?_
  show wpAny _ _ (specialOf (.builtin "list.append") "__get__") _ _ _
  unfold specialOf
  refine wpAny_bind (wpAny_of_eq type_list_append (wpAny_of_eq special_methdesc_get ?_))
  refine wpAny_bind ?_
  unfold Builtin.ObjectAttr.dataDescriptor?
  dsimp only
  refine wpAny_bind (bm_stores ?_)
  simp only [Bool.false_eq_true, if_false]
  refine wpAny_pure ?_
  dsimp only
  unfold Builtin.ObjectAttr.ownThenClass
  refine wpAny_bind ?_
  unfold Builtin.ObjectAttr.inOwnDict
  dsimp only
  refine wpAny_bind ?_
  unfold Builtin.ObjectAttr.ownDict
  obtain ⟨hp, g, d, tk, os⟩ := s
  have hn : (["__module__", "__name__", "__qualname__", "__doc__", "__annotations__"] : List Str).contains (Str.ofString "append") = false := by decide
  repeat (any_goals (first | assumption | wp_step))
set_option maxHeartbeats 1000000 in
theorem bm_get {s : Shared} {a : Addr} {xs : Array Value} {k : Nat} {Q : Value → Shared → Prop} (hx : s.heap.get? a = some (PySem.W.listOf xs k))
    (h : Q (.ref s.heap.objs.size) { s with heap := s.heap.push { cls := .type "builtin_function_or_method", data := .fields #[.builtin "list.append", .ref a] } }) : wpAny (model prog w) A (call (.builtin "method_descriptor.__get__") [.builtin "list.append", .ref a, .type "list"]) Q E s := by
  refine wpAny_call_entry slot_methdesc_get type_list_append entry_methdesc_get ?_ (args_methdesc_get _ _ _)
  have hT : s.TypeIs (.ref a) "list" := ⟨_, hx, rfl⟩
  unfold Builtin.«method_descriptor.__get__»
  refine wpAny_bind (wpAny_of_eq (a := (Value.builtin "list.append", some (Value.ref a), some (Value.type "list"))) rfl ?_)
  dsimp only
  have hc : Manifest.toldItsClass.contains "list.append" = false := by decide +kernel
  rw [hc]
  simp only [Bool.false_eq_true, if_false]
  refine wpAny_bind (wpAny_bind (wpAny_of_eq (a := (Str.ofString "append", Value.type "list")) (by kernel_rfl) ?_))
  dsimp only
  refine wpAny_bind (wpAny_isInstance (b := true) hT (by rw [isSubtype_type]; kernel_rfl) ?_)
  simp only [Bool.not_true, Bool.false_eq_true, if_false]
  refine wpAny_pure ?_
  refine wpAny_bind ?_
  unfold newFields
  refine wpAny_newObj_type ?_
  exact wpAny_pure ⟨_, rfl, h⟩
set_option maxHeartbeats 1000000 in
theorem bm_bind {s : Shared} {a : Addr} {xs : Array Value} {k : Nat} {Q : Fin → Shared → Prop} (hx : s.heap.get? a = some (PySem.W.listOf xs k))
    (h : Q (.done (.ret (.ref s.heap.objs.size))) { s with heap := s.heap.push { cls := .type "builtin_function_or_method", data := .fields #[.builtin "list.append", .ref a] } }) : wpAny (model prog w) A (Builtin.ObjectAttr.bindTo (.builtin "method_descriptor.__get__") (.builtin "list.append") (.ref a) (.type "list")) Q E s := by
  unfold Builtin.ObjectAttr.bindTo
  dsimp only
  refine wpAny_bind (wpAny_holding (bm_get hx ?_))
  exact wpAny_pure h
set_option maxHeartbeats 2000000 in
theorem getAttr_append {a : Addr} {xs : Array Value} {k : Nat} {s : Shared} {Q : Value → Shared → Prop}
    (hx : s.heap.get? a = some (PySem.W.listOf xs k))
    (h : ∀ tk, Q (.ref s.heap.objs.size) { s with heap := s.heap.push { cls := .type "builtin_function_or_method", data := .fields #[.builtin "list.append", .ref a] }, toks := tk }) :
    wpAny (model prog w) A (getAttr (.ref a) (Str.ofString "append") true) Q E s := by
  obtain ⟨hp, g, d, tk, os⟩ := s
  have hT : ∀ tk', (⟨hp, g, d, tk', os⟩ : Shared).TypeIs (.ref a) "list" := fun _ => ⟨_, hx, rfl⟩
  have f3 := F.slot_list_getattribute.lookup
  have f4 := F.slot_list_getattribute.bind (.ref a)
  have f5 := am_list_getattr_none
  unfold getAttr getAttrBy
  repeat (any_goals (first | assumption | exact hT _ | ((with_reducible show wpAny _ _ (call (Value.builtin "list.__getattribute__") _) _ _ _); refine Hold.out ?_) | wp_step))
  unfold Hold
  refine wpAny_call_entry F.slot_list_getattribute (hT _) am_entry_list_getattribute ?_ (F.args_list_getattribute_2 _ _)
  unfold Builtin.«object.__getattribute__»
  repeat (any_goals (first | assumption | exact hT _ | ((with_reducible show wpAny _ _ (typeLookup (PySem.W.listOf _ _).cls _) _ _ _); refine Hold.out ?_) | ((with_reducible show wpAny _ _ (Builtin.ObjectAttr.find _ _ _) _ _ _); refine Hold.out ?_) | wp_step))
  unfold Hold
  refine bm_find hx ?_
  dsimp only
  refine bm_bind hx ?_
  refine ⟨_, rfl, ?_⟩
  dsimp only
  exact wpAny_pure (h _)
/-- add = res.append -/
theorem getAttr_append_K {h₀ : Heap} {L a : Addr} {m : Str → Option Value} {news : List (Addr × Obj)} {xs : Array Value} {k : Nat} {s : Shared} {Q : Value → Shared → Prop} (F : Fr h₀ L s.heap m) (N : News h₀ L s.heap news) (hm : (a, PySem.W.listOf xs k) ∈ news)
    (h : ∀ b h' tk, Fr h₀ L h' m → News h₀ L h' ((b, ({ cls := .type "builtin_function_or_method", data := .fields #[.builtin "list.append", .ref a] } : Obj)) :: news) → AllLt b news → Q (.ref b) { s with heap := h', toks := tk }) :
    wpAny (model prog w) A (getAttr (.ref a) (Str.ofString "append") true) Q E s :=
  getAttr_append (N.get hm) fun tk => h _ _ tk (F.push _) (News.push F N _) (allLt_of fun p hp => Heap.lt_size (N p hp).1)
end
end Mine
end
section
open PySem PySem.W PyProof.Rows
namespace Mine
abbrev bmObj (D : Addr) : Obj := { cls := .type "builtin_function_or_method", data := .fields #[.builtin "list.append", .ref D] }
theorem bm_sig : Manifest.signature? "list.append" = some ⟨.oneArg, "list.append", "append", .self, [⟨"object", .posOnly, true⟩]⟩ := by kernel_rfl
theorem bm_args (a b : Value) : Bind.checkArgs "list.append" ⟨.oneArg, toString (Bind.lastOf "list") ++ toString "." ++ toString (Bind.lastOf "list.append"), "append", .self, [⟨"object", .posOnly, true⟩]⟩ ⟨[a, b], []⟩ = pure () := by kernel_rfl
theorem bm_kind : builtinKind "list.append" = some .method := by kernel_rfl
theorem bm_varargs : Manifest.varargsMethods.contains "list.append" = false := by decide +kernel
theorem bm_plain : plainId "list.append" = true := by decide +kernel
section
variable {prog : Program} {w : World} {A : Around} {E : Value → Shared → Prop} {s : Shared} {D b : Addr} {x : Value}
set_option maxHeartbeats 1000000 in
theorem bm_check {its : Array Value} {n : Nat} {Q : Unit → Shared → Prop} (ho : s.heap.get? D = some (PySem.W.listOf its n)) (h : Q () s) : wpAny (model prog w) A (checkBoundCall "list.append" ⟨[.ref D, x], []⟩) Q E s := by
  have hT : s.TypeIs (.ref D) "list" := ⟨_, ho, rfl⟩
  unfold checkBoundCall
  rw [bm_sig]
  dsimp only
  rw [bm_kind]
  dsimp only
  refine wpAny_ite_false (by decide) ?_
  refine wpAny_bind (wpAny_isInstance (b := false) hT (by rw [isSubtype_type]; kernel_rfl) ?_)
  rw [bm_varargs]
  refine wpAny_ite_false (by decide) ?_
  obtain ⟨hp, g, d, tk, os⟩ := s
  refine wpAny_bind (ks_wpAny_isType_inst ho (fun c e => by cases e) ?_)
  refine wpAny_ite_false (by decide) ?_
  refine wpAny_bind (wpAny_typeOf hT ?_)
  dsimp only
  exact wpAny_of_eq (bm_args _ _) h
theorem call_bm {its : Array Value} {n : Nat} {Q : Value → Shared → Prop} (hb : s.heap.get? b = some (bmObj D)) (ho : s.heap.get? D = some (PySem.W.listOf its n))
    (h : ∀ h', Heap.SameBut D s.heap h' → h'.get? D = some (PySem.W.listOf (its.push x) (n + 1)) → Q .none { s with heap := h' }) (hsz : its.size ≤ sizeLine) : wpAny (model prog w) A (call (.ref b) [x]) Q E s := by
  refine wpAny_call (codeAny_of_tree ?_)
  show wpAny _ _ (callAny (.ref b) ⟨[x], []⟩) _ _ _
  unfold callAny
  refine wpAny_bind (wpAny_load hb ?_)
  show wpAny _ _ (checkBoundCall "list.append" ⟨[.ref D, x], []⟩ >>= fun _ => again (.builtin "list.append" ⟨[.ref D, x], []⟩)) _ _ _
  refine wpAny_bind (bm_check ho ?_)
  refine wpAny_pure ⟨plainId_quiet bm_plain _, codeAny_builtin entry_list_append ?_⟩
  show wpAny _ _ (updateSeq D (·.push x) >>= fun _ => ret .none) _ _ s
  refine wpAny_bind ?_
  refine wpAny_updateSeq ho rfl (wpAny_pure ?_)
  exact h (s.heap.update D (Obj.mapSeq (·.push x))) (Heap.SameBut.update ..) (by rw [Heap.get?_update_self _ ho (by rw [mapSeq_push]; rfl), mapSeq_push])
theorem bm_keeper {M : Model} {h : Heap} (hb : h.get? b = some (bmObj D)) : Looks M h (keeperOf (.ref b)) .machine := fun A Q E s k q => by
  unfold keeperOf
  refine wpAny_bind (wpAny_load (k _ _ hb) ?_)
  exact wpAny_pure q
theorem call_bm_K {h₀ : Heap} {L : Addr} {m : Str → Option Value} {news news' : List (Addr × Obj)} {its : Array Value} {n : Nat} {Q : Value → Shared → Prop} (F : Fr h₀ L s.heap m) (N : News h₀ L s.heap news) (hb : (b, bmObj D) ∈ news)
    (U : Upd D (PySem.W.listOf its n) (PySem.W.listOf (its.push x) (n + 1)) news news') (h : ∀ h', Fr h₀ L h' m → News h₀ L h' news' → Q .none { s with heap := h' }) (hsz : its.size ≤ sizeLine) : wpAny (model prog w) A (call (.ref b) [x]) Q E s := by
  obtain ⟨pre, post, rfl, rfl, a, c⟩ := U.split
  have z := N (D, PySem.W.listOf its n) (List.mem_append.mpr (.inr (.head _)))
  exact call_bm (hsz := hsz) (N _ hb).1 z.1 fun h' hs ho' => h h' (F.change hs z.2.1 z.2.2) (news_set N a c hs ho')
theorem callWith_bm {env : Env} {pos : Pos} {e : PySem.Expr} {rest : List PySem.Expr} {Q : Value → Shared → Prop} {h₀ : Heap} {L : Addr} {news : List (Addr × Obj)} (_N : News h₀ L s.heap news) (_hb : (b, bmObj D) ∈ news)
    (h : wpAny (model prog w) A (spliced (backTo pos (starEach (e :: rest) env))) (fun vs s₁ => s₁.heap.get? b = some (bmObj D) ∧ wpAny (model prog w) A (call (.ref b) ([] ++ vs)) Q E s₁) E s)
    (he : starEach (e :: rest) env = (false, eval e env) :: starEach rest env := by rfl) (hplain : (backTo pos (starEach rest env)).any (·.1) = false := by rfl) :
    wpAny (model prog w) A (callWith pos (.ref b) [] (backTo pos (starEach (e :: rest) env)) []) Q E s := by
  rw [he] at h ⊢
  exact callWith_of (P := fun h => h.get? b = some (bmObj D)) (by show ((false || (backTo pos (starEach rest env)).any (·.1)) || false) = false; rw [hplain]; rfl) (fun h X => ⟨.machine, .inr (.inl rfl), bm_keeper X⟩) (Calls.evalArgs_plain h)
end
end Mine
end
section
open PySem PySem.W PyProof.Rows
theorem Mine.woff23 : True := by w_top off; trivial
namespace Mine
/-- what _translate makes of n signs: none for a star -/
def parts (l : List Nat) : Nat → List (Option (List Nat))
  | 0 => []
  | n + 1 =>
    if l.getD n 0 = 42 then (if (parts l n).getLast? = some none then parts l n else parts l n ++ [none])
    else if l.getD n 0 = 63 then parts l n ++ [some [46]]
    else parts l n ++ [some (esc (l.getD n 0))]
inductive PartsAre (st : Addr) : List Value → List (Option (List Nat)) → Prop
  | nil : PartsAre st [] []
  | star {us ps} : PartsAre st us ps → PartsAre st (us ++ [.ref st]) (ps ++ [none])
  | txt {us ps} (y : List Nat) (t : Tok) : PartsAre st us ps → PartsAre st (us ++ [.str (S y) t]) (ps ++ [some y])
theorem PartsAre.length {st : Addr} {us : List Value} {ps : List (Option (List Nat))} (h : PartsAre st us ps) : us.length = ps.length := by
  induction h with
  | nil => rfl
  | star _ ih => simp [ih]
  | txt _ _ _ ih => simp [ih]
theorem parts_len (l : List Nat) : ∀ n, (parts l n).length ≤ n
  | 0 => Nat.le_refl _
  | n + 1 => by
    have ih := parts_len l n
    rw [parts]
    split
    · split
      · omega
      · simp; omega
    · split <;> (simp; omega)
/-- what a call hands back that makes a list whose items W tells of -/
abbrev RetO (h₀ : Heap) (L : Addr) (m : Str → Option Value) (news : List (Addr × Obj)) (s : Shared) (Q : Value → Shared → Prop) (W : List Value → Prop) : Prop :=
  ∀ (l : Addr) (us : List Value) (n : Nat) (h' : Heap) (tk' : Nat), W us → Fr h₀ L h' m → News h₀ L h' ((l, PySem.W.listOf us.toArray n) :: news) → AllLt l news → Q (.ref l) { s with heap := h', toks := tk' }
def SaysO (prog : Program) (w : World) (f : Addr) (d u : Nat) (vs : List Value) (W : List Value → Prop) : Prop :=
  ∀ (p : Program) (loose : List Str) (mean : ExcName → Option Value) (mg mb : Str → Option Value) (dp un : Nat) (gd : Option (List Code)) (cn : Str) (cs : Scope) (a : Addr) (ccd : Value) (cl : List (Str × Addr)) (outer : List Env) (A₀ : Around) (base h₀ : Heap) (L : Addr) (m : Str → Option Value) (news : List (Addr × Obj)) (s : Shared) (Q E : Value → Shared → Prop),
    Below A₀ base outer h₀ → Fr h₀ L s.heap m → (hd.heap_39 w.params).In h₀ → News h₀ L s.heap news → Top p loose mean mg mb h₀ → cs.kind = .function →
    dp + d < recursionLimit → un + u < cLine → RetO h₀ L m news s Q W →
    wpAny (model prog w) (ktrTop dp un gd cn cs L a ccd cl outer) (call (.ref f) vs) Q E s
theorem parts_star {l : List Nat} {n : Nat} (h : l.getD n 0 = 42) (h2 : (parts l n).getLast? = some none) : parts l (n + 1) = parts l n := by rw [parts, if_pos h, if_pos h2]
theorem parts_new {l : List Nat} {n : Nat} (h : l.getD n 0 = 42) (h2 : (parts l n).getLast? ≠ some none) : parts l (n + 1) = parts l n ++ [none] := by rw [parts, if_pos h, if_neg h2]
theorem parts_q {l : List Nat} {n : Nat} (h : l.getD n 0 = 63) : parts l (n + 1) = parts l n ++ [some [46]] := by rw [parts, if_neg (by omega), if_pos h]
theorem parts_c {l : List Nat} {n : Nat} (h : l.getD n 0 ≠ 42) (h2 : l.getD n 0 ≠ 63) : parts l (n + 1) = parts l n ++ [some (esc (l.getD n 0))] := by rw [parts, if_neg h, if_neg h2]
theorem PartsAre.cases {st : Addr} {us : List Value} {ps : List (Option (List Nat))} (h : PartsAre st us ps) :
    (us = [] ∧ ps.getLast? ≠ some none) ∨ (∃ us', us = us' ++ [.ref st] ∧ ps.getLast? = some none) ∨ (∃ us' y t, us = us' ++ [.str y t] ∧ ps.getLast? ≠ some none) := by
  cases h with
  | nil => exact .inl ⟨rfl, by simp⟩
  | star _ => exact .inr (.inl ⟨_, rfl, by simp⟩)
  | txt _ _ _ => exact .inr (.inr ⟨_, _, _, rfl, by simp⟩)
theorem eq_no {prog : Program} {w : World} {A : Around} {E : Value → Shared → Prop} {s : Shared} {x y : Str} {t u : Tok} {Q : Value → Shared → Prop} (hn : (x == y) = false) (h : Q (.bool false) s) : wpAny (model prog w) A (compareOp .Eq (.str x t) (.str y u)) Q E s := by
  refine P.eq_str ?_
  have e : (x.cps.toList == y.cps.toList) = false := by
    rw [beq_eq_false_iff_ne] at hn ⊢
    exact fun q => hn (PySem.Str.ext' (Array.toList_inj.mp q))
  rw [e]; exact h
theorem lit_br : (Str.ofString "[").cps.toList = [91] := by decide +kernel
theorem kend1 {σ : Type} {h₀ : Heap} {L : Addr} {s : Shared} {Led : σ → List (Addr × Obj)} {ps : σ → List (Str × Value)} {Facts : σ → Prop} {stored : List Str} {m₀ m' : Str → Option Value} {P : σ → Prop} {μ : σ → Nat} {c : σ} {h' : Heap} {tk : Nat} {news' : List (Addr × Obj)} (c' : σ) {nm : Str} {v : Value}
    (F : Fr h₀ L h' m') (N : News h₀ L h' news') (hps : ps c' = [(nm, v)]) (hm : m' nm = some v) (hf : Facts c') (hn : ∀ p ∈ Led c', p ∈ news') (hr : ∀ z, z ≠ nm → stored.contains z = false → m' z = m₀ z) (hp : P c') (hd : μ c' < μ c) :
    KswEnd h₀ L s Led ps Facts stored m₀ P μ c { s with heap := h', toks := tk } :=
  ksw_end c' F N hn hf (fun p h => by rw [hps] at h; rw [List.mem_singleton.mp h]; exact hm) (fun z h2 h3 => hr z (h2 (nm, v) (by rw [hps]; exact .head _)) h3) hp hd
theorem in_one {a z : Str} (h : ([a] : List Str).contains z = false) : z ≠ a := fun e => by rw [e] at h; simp at h
theorem truthy_nil {prog : Program} {w : World} {A : Around} {E : Value → Shared → Prop} {s : Shared} {l : Addr} {Q : Bool → Shared → Prop} (hl : s.heap.IsList l ([] : List Value).toArray) (h : Q false { s with toks := s.toks + 1 + 1 }) : wpAny (model prog w) A (truthy (.ref l)) Q E s :=
  wpAny_truthy_list hl (by decide) h
theorem truthy_snoc {prog : Program} {w : World} {A : Around} {E : Value → Shared → Prop} {s : Shared} {l : Addr} {us : List Value} {v : Value} {Q : Bool → Shared → Prop} (hl : s.heap.IsList l (us ++ [v]).toArray) (hn : us.length ≤ 65536) (h : Q true { s with toks := s.toks + 1 + 1 }) : wpAny (model prog w) A (truthy (.ref l)) Q E s :=
  wpAny_truthy_list hl (by simp; omega) (by have e : (!(us ++ [v]).toArray.isEmpty) = true := (by simp); rw [e]; exact h)
local macro_rules | `(tactic| walk_at "truthy ref") => `(tactic| (k_here; k_dflt (refine' truthy_snoc ?k1 ?k2 ?_; (case k1 => exact News.isList (by k_asm) (by k_mem)); (case k2 => omega); k_whole)))
local macro_rules | `(tactic| walk_at "compareOp IsNot str ref") => `(tactic| (k_here; refine wpAny_isNot_other (by rfl) (by intro x; cases x) ?_))
local macro_rules | `(tactic| walk_at "compareOp Eq str str") => `(tactic| (k_here; (with_reducible show wpAny _ _ (compareOp CmpOp.Eq (Value.str _ _) (Value.str (Str.ofString "[") _)) _ _ _); k_dflt (refine' eq_no ?kn ?_; (case kn => assumption); k_whole)))
local macro_rules | `(tactic| walk_at "newList") => `(tactic| (k_here; k_dflt (refine' newList_A ?k1 ?k2 ?_ ?kz; (case k1 => k_asm); (case k2 => k_asm); (case kz => first | exact Nat.zero_le _ | size_fits | (rw [PySem.sizeLine_eq]; decide)); k_whole); intro l' h' F' N' l1; (try simp only [AllLt, and_true] at l1); (try k_sweep)))
local macro_rules | `(tactic| walk_at "getAttr ref") => `(tactic| (k_here; k_dflt (refine' getAttr_append_K ?k1 ?k2 ?k3 ?_; (case k1 => k_asm); (case k2 => k_asm); (case k3 => k_mem); k_whole); intro b' h' tk' F' N' l1; (try simp only [AllLt, and_true] at l1); (try k_sweep)))
local macro_rules | `(tactic| walk_at "callWith ref") => `(tactic| (k_here; k_dflt (refine' callWith_bm ?k0 ?k1 ?_; (case k0 => k_asm); (case k1 => k_mem); k_whole)))
local macro_rules | `(tactic| walk_at "And") => `(tactic| ((with_reducible show (_ = some (bmObj _)) ∧ _); refine ⟨News.get (by k_asm) (by k_mem), ?_⟩; (try dsimp only [List.nil_append, List.cons_append])))
local macro_rules | `(tactic| walk_at "call ref") => `(tactic| (k_here; k_dflt (first
  | (refine' call_bm_K ?k1 ?k2 ?k3 ?k4 ?_ ?k5; (case k1 => k_asm); (case k2 => k_asm); (case k3 => k_mem); (case k4 => k_upd); (case k5 => size_fits); intro h9 F9 N9; (try dsimp only); (try k_fold))
  | (refine' says_all ?kC ?k1 ?k2 ?k3 ?k4 ?k5 ?k6 ?k7 ?k8 ?_; (case kC => assumption); (case k1 => k_asm); (case k2 => k_asm); (case k3 => k_asm); (case k4 => k_asm); (case k5 => k_asm); (case k6 => first | exact rfl | assumption); (case k7 => ktr_room); (case k8 => ktr_units); intro t9 h9 tk9 F9 N9; (try dsimp only); (try k_fold)))))
local macro_rules | `(tactic| walk_at "subscriptTail") => `(tactic| (k_here; (with_reducible show wpAny _ _ (subscriptTail _ _ (Value.ref _) (Value.int (-1) _)) _ _ _); k_dflt (refine' sub_last ?kl ?_ ?ks; (case kl => exact News.isList (by k_asm) (by k_mem)); (case ks => with_unfolding_all rfl); k_whole)))
set_option maxHeartbeats 4000000 in
theorem c_parts (prog : Program) (w : World) (x : Str) (t t2 : Tok) (st : Addr) (hx : x.length ≤ 65536) (h91 : ∀ c ∈ x.cps.toList, c ≠ 91) : SaysO prog w 88 2 110 [.str x t, .ref st, .str (Str.ofString ".") t2] (fun us => PartsAre st us (parts x.cps.toList x.length)) := by
  unfold SaysO; intro p loose mean mg mb dp un gd cn cs a ccd cl outer A₀ base h₀ L m news s Q E B F X N T hk hd hu hret; refine wpAny_call ?_; (first | k_dflt cell_enter | fail "not entered")
  k_steps
  rename_i l1 a1 F1 N1 b1 a2 k1 F2 N2 c1 a3 F3 N3
  unfold Hold
  refine' ksw_while (σ := List Value × Nat × Int × Tok) (fun c => (_, bmObj _) :: (_, PySem.W.listOf c.1.toArray c.2.1) :: news) (fun c => [(Str.ofString "i", Value.int c.2.2.1 c.2.2.2)]) (fun _ => True) [Str.ofString "c"]
    (fun c => ∃ n : Nat, n ≤ x.length ∧ c.2.2.1 = n ∧ PartsAre st c.1 (parts x.cps.toList n)) (fun c => x.length - c.2.2.1.toNat) ([], 0, 0, _) (by assumption) (news_tail (by assumption)) trivial ?hk ⟨0, Nat.zero_le _, rfl, .nil⟩ ?turn
  case hk => intro p h; rw [List.mem_singleton.mp h]; rfl
  case turn =>
    intro c u h tk _ hP F4 N4
    obtain ⟨us, n, iv, it⟩ := c
    dsimp only at hP N4 F4
    obtain ⟨n0, hn0, rfl, hP⟩ := hP
    have hne := allLt_ne (by assumption : AllLt _ news)
    have hul : us.length ≤ 65536 := by rw [hP.length]; have := parts_len x.cps.toList n0; omega
    by_cases hlt : n0 < x.length
    · have hi := item_one (x := x) (i := (n0 : Int)) (n := n0) (by omega) (by omega) (by omega)
      have C : ∀ t, Says prog w 81 1 100 [.str (Txt.item x (n0 : Int)) t] (fun t => .str (S (esc (x.cps.toList.getD n0 0))) t) := fun t => hi ▸ c_escape prog w _ t
      have q1 := item_is (x := x) (i := (n0 : Int)) (n := n0) lit_qm (by omega) (by omega) (by omega)
      have q2 := item_is (x := x) (i := (n0 : Int)) (n := n0) lit_star (by omega) (by omega) (by omega)
      have q3 : (Txt.item x (n0 : Int) == Str.ofString "[") = false := by
        rw [item_is (x := x) (i := (n0 : Int)) (n := n0) lit_br (by omega) (by omega) (by omega), decide_eq_false_iff_not]
        refine h91 _ ?_
        rw [List.getD_eq_getElem?_getD, List.getElem?_eq_getElem (by rw [← len_list2]; exact hlt)]
        exact List.getElem_mem _
      rcases hP.cases with ⟨rfl, hL⟩ | ⟨us', rfl, hL⟩ | ⟨us', y, yt, rfl, hL⟩
      · k_steps
        all_goals (first | (exact News.get (by assumption) (.head _)) | skip)
        all_goals (unfold Hold; (rename Fr _ _ _ _ => F0); (rename News _ _ _ _ => N0); (try simp only [List.push_toArray] at N0))
        · refine kend1 ([] ++ [.ref st], n + 1, (n0 : Int) + 1, _) F0 N0 rfl rfl trivial (fun _ h => h) (fun z h1 h2 => by simp [h1, in_one h2, kstB]) ⟨n0 + 1, hlt, by simp, ?_⟩ (by dsimp only; omega)
          rw [parts_new (is_yes q2 (by assumption)) hL]; exact hP.star
        · refine kend1 ([] ++ [.str (Str.ofString ".") _], n + 1, (n0 : Int) + 1, _) F0 N0 rfl rfl trivial (fun _ h => h) (fun z h1 h2 => by simp [h1, in_one h2, kstB]) ⟨n0 + 1, hlt, by simp, ?_⟩ (by dsimp only; omega)
          rw [parts_q (is_yes q1 (by assumption)), lit_dot]; exact hP.txt _ _
        · refine kend1 ([] ++ [.str (S (esc (x.cps.toList.getD n0 0))) _], n + 1, (n0 : Int) + 1, _) F0 N0 rfl rfl trivial (fun _ h => h) (fun z h1 h2 => by simp [h1, in_one h2, kstB]) ⟨n0 + 1, hlt, by simp, ?_⟩ (by dsimp only; omega)
          rw [parts_c (is_no q2 (by assumption)) (is_no q1 (by assumption))]; exact hP.txt _ _
      · have hul : us'.length ≤ 65536 := by rw [List.length_append] at hul; omega
        k_steps
        all_goals (first | (exact News.get (by assumption) (.head _)) | skip)
        all_goals (unfold Hold; (rename Fr _ _ _ _ => F0); (rename News _ _ _ _ => N0); (try simp only [List.push_toArray] at N0))
        · refine kend1 (us' ++ [.ref st], n, (n0 : Int) + 1, _) F0 N0 rfl rfl trivial (fun _ h => h) (fun z h1 h2 => by simp [h1, in_one h2, kstB]) ⟨n0 + 1, hlt, by simp, ?_⟩ (by dsimp only; omega)
          rw [parts_star (is_yes q2 (by assumption)) hL]; exact hP
        · refine kend1 (us' ++ [.ref st] ++ [.str (Str.ofString ".") _], n + 1, (n0 : Int) + 1, _) F0 N0 rfl rfl trivial (fun _ h => h) (fun z h1 h2 => by simp [h1, in_one h2, kstB]) ⟨n0 + 1, hlt, by simp, ?_⟩ (by dsimp only; omega)
          rw [parts_q (is_yes q1 (by assumption)), lit_dot]; exact hP.txt _ _
        · refine kend1 (us' ++ [.ref st] ++ [.str (S (esc (x.cps.toList.getD n0 0))) _], n + 1, (n0 : Int) + 1, _) F0 N0 rfl rfl trivial (fun _ h => h) (fun z h1 h2 => by simp [h1, in_one h2, kstB]) ⟨n0 + 1, hlt, by simp, ?_⟩ (by dsimp only; omega)
          rw [parts_c (is_no q2 (by assumption)) (is_no q1 (by assumption))]; exact hP.txt _ _
      · have hul : us'.length ≤ 65536 := by rw [List.length_append] at hul; omega
        k_steps
        all_goals (first | (exact News.get (by assumption) (.head _)) | skip)
        all_goals (unfold Hold; (rename Fr _ _ _ _ => F0); (rename News _ _ _ _ => N0); (try simp only [List.push_toArray] at N0))
        · refine kend1 (us' ++ [.str y yt] ++ [.ref st], n + 1, (n0 : Int) + 1, _) F0 N0 rfl rfl trivial (fun _ h => h) (fun z h1 h2 => by simp [h1, in_one h2, kstB]) ⟨n0 + 1, hlt, by simp, ?_⟩ (by dsimp only; omega)
          rw [parts_new (is_yes q2 (by assumption)) hL]; exact hP.star
        · refine kend1 (us' ++ [.str y yt] ++ [.str (Str.ofString ".") _], n + 1, (n0 : Int) + 1, _) F0 N0 rfl rfl trivial (fun _ h => h) (fun z h1 h2 => by simp [h1, in_one h2, kstB]) ⟨n0 + 1, hlt, by simp, ?_⟩ (by dsimp only; omega)
          rw [parts_q (is_yes q1 (by assumption)), lit_dot]; exact hP.txt _ _
        · refine kend1 (us' ++ [.str y yt] ++ [.str (S (esc (x.cps.toList.getD n0 0))) _], n + 1, (n0 : Int) + 1, _) F0 N0 rfl rfl trivial (fun _ h => h) (fun z h1 h2 => by simp [h1, in_one h2, kstB]) ⟨n0 + 1, hlt, by simp, ?_⟩ (by dsimp only; omega)
          rw [parts_c (is_no q2 (by assumption)) (is_no q1 (by assumption))]; exact hP.txt _ _
    · k_steps
      · obtain rfl : n0 = x.length := by omega
        exact hret _ _ _ _ _ hP (by assumption) (news_tail (by assumption)) (by assumption)
      · exfalso; omega
end Mine
end
section
open PySem PySem.W PyProof.Rows
namespace Mine
/-- what _join_translated_parts makes behind a star, acc being gathered -/
def gath : List Nat → List (Option (List Nat)) → List Nat
  | acc, [] => [46, 42] ++ acc
  | acc, some y :: r => gath (acc ++ y) r
  | acc, none :: r => [40, 63, 62, 46, 42, 63] ++ acc ++ [41] ++ gath [] r
def body : List (Option (List Nat)) → List Nat
  | [] => []
  | some y :: r => y ++ body r
  | none :: r => gath [] r
/-- the signs of texts, one behind the other -/
def cat (ys : List Str) : List Nat := ys.flatMap fun p => p.cps.toList
theorem join_cat (ys : List Str) : Txt.join (Str.ofString "") ys = S (cat ys) := by
  refine PySem.Str.ext' (Array.toList_inj.mp ?_)
  rw [join_nil_list, S_list]; rfl
theorem cat_snoc (ys : List Str) (y : List Nat) : cat (ys ++ [S y]) = cat ys ++ y := by
  unfold cat; rw [List.flatMap_append, List.flatMap_singleton, S_list]
theorem cat_len (ys : List Str) : (ys.map (·.length)).sum = (cat ys).length := by
  induction ys with
  | nil => rfl
  | cons a r ih => simp only [List.map_cons, List.sum_cons, ih, cat, List.flatMap_cons, List.length_append]; simp [Str.length]
theorem drop_some {α : Type} {l : List α} {k : Nat} {a : α} (h : l[k]? = some a) : l.drop k = a :: l.drop (k + 1) := by
  obtain ⟨hk, he⟩ := List.getElem?_eq_some_iff.mp h
  rw [List.drop_eq_getElem_cons hk, he]
theorem body_drop_some {ps : List (Option (List Nat))} {k : Nat} {y : List Nat} (h : ps[k]? = some (some y)) : body (ps.drop k) = y ++ body (ps.drop (k + 1)) := by rw [drop_some h]; rfl
theorem body_drop_none {ps : List (Option (List Nat))} {k : Nat} (h : ps[k]? = some none) : body (ps.drop k) = gath [] (ps.drop (k + 1)) := by rw [drop_some h]; rfl
theorem gath_drop_some {ps : List (Option (List Nat))} {k : Nat} {y f : List Nat} (h : ps[k]? = some (some y)) : gath f (ps.drop k) = gath (f ++ y) (ps.drop (k + 1)) := by rw [drop_some h]; rfl
theorem gath_drop_none {ps : List (Option (List Nat))} {k : Nat} {f : List Nat} (h : ps[k]? = some none) : gath f (ps.drop k) = [40, 63, 62, 46, 42, 63] ++ f ++ [41] ++ gath [] (ps.drop (k + 1)) := by rw [drop_some h]; rfl
theorem gath_drop_end {ps : List (Option (List Nat))} {f : List Nat} : gath f (ps.drop ps.length) = [46, 42] ++ f := by rw [List.drop_length]; rfl
theorem gath_len (acc : List Nat) (ps : List (Option (List Nat))) : acc.length ≤ (gath acc ps).length := by
  induction ps generalizing acc with
  | nil => simp only [gath, List.length_append]; omega
  | cons p r ih =>
    cases p with
    | none => simp only [gath, List.length_append]; omega
    | some y => have := ih (acc ++ y); simp only [gath, List.length_append] at this ⊢; omega
/-- no two stars side by side -/
def NoDD (ps : List (Option (List Nat))) : Prop := ∀ k, ps[k]? = some none → ps[k + 1]? ≠ some none
end Mine
end
section
open PySem PySem.W PyProof.Rows
theorem Mine.woff25 : True := by w_top off; trivial
namespace Mine
theorem PartsAre.at {st : Addr} {us : List Value} {ps : List (Option (List Nat))} (h : PartsAre st us ps) : ∀ k : Nat, (ps[k]? = none → us[k]? = none) ∧ (ps[k]? = some none → us[k]? = some (.ref st)) ∧ (∀ y, ps[k]? = some (some y) → ∃ t, us[k]? = some (.str (S y) t)) := by
  induction h with
  | nil => intro k; simp
  | @star us ps h ih =>
    intro k
    have hl := h.length
    rcases Nat.lt_trichotomy k ps.length with hk | hk | hk
    · rw [List.getElem?_append_left hk, List.getElem?_append_left (hl ▸ hk)]; exact ih k
    · subst hk
      rw [List.getElem?_append_right (Nat.le_refl _), List.getElem?_append_right (by omega), hl]
      simp
    · rw [List.getElem?_append_right (by omega), List.getElem?_append_right (by omega)]
      have e1 : ([none] : List (Option (List Nat)))[k - ps.length]? = none := by rw [List.getElem?_eq_none_iff]; simp; omega
      have e2 : ([.ref st] : List Value)[k - us.length]? = none := by rw [List.getElem?_eq_none_iff]; simp; omega
      rw [e1, e2]; simp
  | @txt us ps y t h ih =>
    intro k
    have hl := h.length
    rcases Nat.lt_trichotomy k ps.length with hk | hk | hk
    · rw [List.getElem?_append_left hk, List.getElem?_append_left (hl ▸ hk)]; exact ih k
    · subst hk
      rw [List.getElem?_append_right (Nat.le_refl _), List.getElem?_append_right (by omega), hl]
      simp
    · rw [List.getElem?_append_right (by omega), List.getElem?_append_right (by omega)]
      have e1 : ([some y] : List (Option (List Nat)))[k - ps.length]? = none := by rw [List.getElem?_eq_none_iff]; simp; omega
      have e2 : ([.str (S y) t] : List Value)[k - us.length]? = none := by rw [List.getElem?_eq_none_iff]; simp; omega
      rw [e1, e2]; simp
/-- the def at f is called with a list that stands in the ledger -/
def SaysP (prog : Program) (w : World) (f : Addr) (d u : Nat) (vs : List Value) (il : Addr) (us : List Value) (nn : Nat) (R : Tok → Value) : Prop :=
  ∀ (p : Program) (loose : List Str) (mean : ExcName → Option Value) (mg mb : Str → Option Value) (dp un : Nat) (gd : Option (List Code)) (cn : Str) (cs : Scope) (a : Addr) (ccd : Value) (cl : List (Str × Addr)) (outer : List Env) (A₀ : Around) (base h₀ : Heap) (L : Addr) (m : Str → Option Value) (news : List (Addr × Obj)) (s : Shared) (Q E : Value → Shared → Prop),
    Below A₀ base outer h₀ → Fr h₀ L s.heap m → (hd.heap_39 w.params).In h₀ → News h₀ L s.heap ((il, PySem.W.listOf us.toArray nn) :: news) → Top p loose mean mg mb h₀ → cs.kind = .function →
    dp + d < recursionLimit → un + u < cLine → RetV h₀ L m news s Q R →
    wpAny (model prog w) (ktrTop dp un gd cn cs L a ccd cl outer) (call (.ref f) vs) Q E s
section
variable {prog : Program} {w : World} {A : Around} {E : Value → Shared → Prop} {s : Shared} {D : Addr} {us : List Value}
theorem len_is {Q : Value → Shared → Prop} {n : Nat} (hl : s.heap.IsList D us.toArray) (hn : us.length = n) (hz : n ≤ 65536) (h : Q (.int (n : Int) (s.toks + 1)) { s with toks := s.toks + 1 + 1 }) : wpAny (model prog w) A (call (.builtin "len") [.ref D]) Q E s := by
  refine Calls.call_len_list hl (by rw [List.size_toArray]; omega) ?_
  rw [List.size_toArray, hn]; exact h
theorem sub_at {value slice : PySem.Expr} {Q : Value → Shared → Prop} {k : Int} {t : Tok} {v : Value} (hl : s.heap.IsList D us.toArray) (hx : us[k.toNat]? = some v) (hj : 0 ≤ k) (hz : k ≤ 65536) (h : Q v s) (hs : subscripted slice false (.ref D) (.int k t) = operate [.ref D, .int k t] (getItem (.ref D) (.int k t)) := by with_unfolding_all rfl) :
    wpAny (model prog w) A (subscriptTail value slice (.ref D) (.int k t)) Q E s := tail_any hl.typeIs slot_list_getitem.lookup (wpAny_getItem_list hl hj (by omega) (by simpa using hx) h) hs
end
theorem join_ys {prog : Program} {w : World} {A : Around} {E : Value → Shared → Prop} {s : Shared} {Q : Value → Shared → Prop} {D : Addr} {items : Array Value} {t : Tok} {ys : List Str} (hl : s.heap.IsList D items) (hi : StrsAre items.toList ys) (hr : (cat ys).length ≤ 655360)
    (h : ∀ t' k, Q (.str (S (cat ys)) t') { s with toks := k }) : wpAny (model prog w) A (call (.builtin "str.join") [.str (Str.ofString "") t, .ref D]) Q E s :=
  join_list hl hi (by rw [cat_len]; have e0 : (Str.ofString "").length = 0 := (by decide); rw [e0]; omega) fun t' k => by
    rw [join_cat]; exact h t' k
theorem strs_push {zs : List Value} {ys : List Str} {y : Str} {t : Tok} (h : StrsAre zs ys) : StrsAre (zs.toArray.push (.str y t)).toList (ys ++ [y]) := by
  rw [List.push_toArray]; exact h.append' (.cons _ _ .nil)
theorem fin_eq (a : List Nat) : Str.empty ++ Str.ofString "(?s:" ++ S a ++ Str.ofString ")\\Z" = S ([40, 63, 115, 58] ++ a ++ [41, 92, 90]) := by
  have e : Str.empty = S [] := by decide
  rw [e, lit_h, lit_e, S_app, S_app, S_app]; rfl
theorem grp_eq (a : List Nat) : Str.empty ++ Str.ofString "(?>.*?" ++ S a ++ Str.ofString ")" = S ([40, 63, 62, 46, 42, 63] ++ a ++ [41]) := by
  have e : Str.empty = S [] := by decide
  rw [e, lit_o, lit_c, S_app, S_app, S_app]; rfl
theorem ne_of_news {h₀ h : Heap} {L d : Addr} {o : Obj} {r : List (Addr × Obj)} (_N : News h₀ L h ((d, o) :: r)) (q : AllLt d r) : ∀ p ∈ r, p.1 ≠ d := allLt_ne q
/-- the state of the second loop of _join_translated_parts -/
def OutInv (ps : List (Option (List Nat))) (k : Nat) (T : List Nat) : Prop := (k = ps.length ∧ T = body ps) ∨ (ps[k]? = some none ∧ T ++ gath [] (ps.drop (k + 1)) = body ps)
theorem OutInv.len {ps : List (Option (List Nat))} {k : Nat} {T : List Nat} (h : OutInv ps k T) : T.length ≤ (body ps).length := by
  rcases h with ⟨_, h⟩ | ⟨_, h⟩
  · rw [h]; exact Nat.le_refl _
  · rw [← h, List.length_append]; omega
local macro_rules | `(tactic| walk_at "exec While BoolOp") => `(tactic| (refine Hold.out ?_))
local macro_rules | `(tactic| walk_at "newList") => `(tactic| (k_here; k_dflt (refine' newList_A ?k1 ?k2 ?_ ?kz; (case k1 => k_asm); (case k2 => k_asm); (case kz => first | exact Nat.zero_le _ | size_fits | (rw [PySem.sizeLine_eq]; decide)); k_whole); intro l' h' F' N' l1; (try simp only [AllLt, and_true] at l1); (try k_sweep)))
local macro_rules | `(tactic| walk_at "getAttr ref") => `(tactic| (k_here; k_dflt (refine' getAttr_append_K ?k1 ?k2 ?k3 ?_; (case k1 => k_asm); (case k2 => k_asm); (case k3 => k_mem); k_whole); intro b' h' tk' F' N' l1; (try simp only [AllLt, and_true] at l1); (try k_sweep)))
local macro_rules | `(tactic| walk_at "callWith ref") => `(tactic| (k_here; k_dflt (refine' callWith_bm ?k0 ?k1 ?_; (case k0 => k_asm); (case k1 => k_mem); k_whole)))
local macro_rules | `(tactic| walk_at "call builtin:len") => `(tactic| (k_here; (with_reducible show wpAny _ _ (call (Value.builtin "len") [Value.ref _]) _ _ _); k_dflt (refine' len_is ?kl ?kn ?kz ?_; (case kl => exact News.isList (by k_asm) (by k_mem)); (case kn => assumption); (case kz => assumption); k_whole)))
local macro_rules | `(tactic| walk_at "subscriptTail") => `(tactic| (k_here; (try dsimp only); (with_reducible show wpAny _ _ (subscriptTail _ _ (Value.ref _) (Value.int _ _)) _ _ _); k_dflt (refine' sub_at ?kl ?kx ?kj ?kz ?_ ?ks; (case kl => exact News.isList (by k_asm) (by k_mem)); (case kx => assumption); (case kj => omega); (case kz => omega); (case ks => with_unfolding_all rfl); k_whole)))
local macro_rules | `(tactic| walk_at "compareOp IsNot str ref") => `(tactic| (k_here; refine wpAny_isNot_other (by rfl) (by intro x; cases x) ?_))
local macro_rules | `(tactic| walk_at "compareOp IsNot ref ref") => `(tactic| (k_here; refine wpAny_isNot_ref_self ?_))
local macro_rules | `(tactic| walk_at "compareOp Is ref ref") => `(tactic| (k_here; refine wpAny_is_ref_self ?_))
local macro_rules | `(tactic| walk_at "call ref") => `(tactic| (k_here; k_dflt (refine' call_bm_K ?k1 ?k2 ?k3 ?k4 ?_ ?k5; (case k1 => k_asm); (case k2 => k_asm); (case k3 => k_mem); (case k4 => k_upd); (case k5 => size_fits); intro h9 F9 N9; (try dsimp only); (try k_fold))))
local macro_rules | `(tactic| walk_at "call builtin:str.join") => `(tactic| (k_here; k_dflt (refine' join_ys ?hl ?hi ?hr ?_; (case hl => exact News.isList (by k_asm) (by k_mem)); (case hi => first | assumption | exact strs_push (by assumption)); (case hr => assumption); k_whole); intro t' k'))
set_option maxHeartbeats 4000000 in
theorem c_join (prog : Program) (w : World) (il st : Addr) (us : List Value) (nn : Nat) (ps : List (Option (List Nat))) (hps : PartsAre st us ps) (hdd : NoDD ps) (hl : ps.length ≤ 65536) (hb : (body ps).length ≤ 655360) :
    SaysP prog w 95 2 110 [.ref il, .ref st] il us nn (fun t => .str (S ([40, 63, 115, 58] ++ body ps ++ [41, 92, 90])) t) := by
  unfold SaysP; intro p loose mean mg mb dp un gd cn cs a ccd cl outer A₀ base h₀ L m news s Q E B F X N T hk hd hu hret; refine wpAny_call ?_; (first | k_dflt cell_enter | fail "not entered")
  have hul : us.length = ps.length := hps.length
  k_steps
  rename_i l1 a1 F1 N1 b1 a2 k1 F2 N2 c1 a3 F3 N3
  unfold Hold
  rename (_ < _ ∧ AllLt _ news) => q1
  have hne1 := allLt_ne (show AllLt _ ((il, PySem.W.listOf us.toArray nn) :: news) from q1)
  refine' ksw_while (σ := List Value × Nat × Int × Tok) (fun c => (_, bmObj _) :: (_, PySem.W.listOf c.1.toArray c.2.1) :: (il, PySem.W.listOf us.toArray nn) :: news) (fun c => [(Str.ofString "i", Value.int c.2.2.1 c.2.2.2)]) (fun _ => True) []
    (fun c => ∃ k : Nat, k ≤ ps.length ∧ c.2.2.1 = k ∧ c.1.length ≤ k ∧ ∃ ys, StrsAre c.1 ys ∧ cat ys ++ body (ps.drop k) = body ps) (fun c => ps.length - c.2.2.1.toNat) ([], 0, 0, _) (by assumption) (news_tail (by assumption)) trivial ?hk ⟨0, Nat.zero_le _, rfl, Nat.le_refl _, [], .nil, rfl⟩ ?turn
  case hk => intro p h; rw [List.mem_singleton.mp h]; rfl
  case turn =>
    intro c u h tk _ hP F4 N4
    obtain ⟨zs, n, iv, it⟩ := c
    dsimp only at hP N4 F4
    obtain ⟨k, hk0, rfl, hzk, ys, hys, hbody⟩ := hP
    have hz : zs.length ≤ 65536 := by omega
    by_cases hlt : k < ps.length
    · cases hpk : ps[k]? with
      | none => rw [List.getElem?_eq_none_iff] at hpk; omega
      | some q =>
        cases q with
        | some y =>
          obtain ⟨yt, hy⟩ := (hps.at (k : Int).toNat).2.2 y hpk
          k_steps
          all_goals (first | (exact News.get (by assumption) (.head _)) | skip)
          all_goals (unfold Hold; (rename Fr _ _ _ _ => F0); (rename News _ _ _ _ => N0); (try simp only [List.push_toArray] at N0))
          refine kend1 (zs ++ [.str (S y) yt], n + 1, (k : Int) + 1, _) F0 N0 rfl rfl trivial (fun _ h => h) (fun z h1 h2 => by simp [h1, kstB]) ⟨k + 1, hlt, by simp, by rw [List.length_append, List.length_singleton]; omega, ys ++ [S y], hys.append' (.cons _ _ .nil), ?_⟩ (by dsimp only; omega)
          rw [cat_snoc, List.append_assoc, ← body_drop_some hpk]; exact hbody
        | none =>
          have hy := (hps.at (k : Int).toNat).2.1 hpk
          have hO : OutInv ps k (cat ys) := .inr ⟨hpk, by rw [← body_drop_none hpk]; exact hbody⟩
          k_steps
          clear hy hpk hbody hlt
          unfold Hold
          refine' ksw_while (σ := List Value × Nat × Int × Tok) (fun c => (_, bmObj _) :: (_, PySem.W.listOf c.1.toArray c.2.1) :: (il, PySem.W.listOf us.toArray nn) :: news) (fun c => [(Str.ofString "i", Value.int c.2.2.1 c.2.2.2)]) (fun _ => True) [Str.ofString "fixed"]
            (fun c => ∃ k : Nat, k ≤ ps.length ∧ c.2.2.1 = k ∧ c.1.length ≤ k ∧ ∃ ys, StrsAre c.1 ys ∧ OutInv ps k (cat ys)) (fun c => ps.length - c.2.2.1.toNat) (zs, n, (k : Int), _) (by assumption) (by assumption) trivial ?hk2 ⟨k, hk0, rfl, hzk, ys, hys, hO⟩ ?turn2
          case hk2 => intro p h; rw [List.mem_singleton.mp h]; rfl
          case turn2 =>
            clear hys hO hzk hz
            intro c u h tk _ hP F4 N4
            obtain ⟨zs, n, iv, it⟩ := c
            dsimp only at hP N4 F4
            obtain ⟨k, hk0, rfl, hzk, ys, hys, hO⟩ := hP
            have hz : zs.length ≤ 65536 := by omega
            have hcl : (cat ys).length ≤ 655360 := Nat.le_trans hO.len hb
            have hsl : (S (cat ys)).length ≤ 655360 := by rw [S_len]; exact hcl
            rcases hO with ⟨hke, hT⟩ | ⟨hpk, hT⟩
            · k_steps
              · refine cb_retS hret ?_ (by assumption) (news_sub (by assumption) fun p h => .tail _ (.tail _ (.tail _ h)))
                rw [hT, fin_eq]
              · exfalso; omega
            · have hy := (hps.at (k : Int).toNat).2.1 hpk
              have hlt : k < ps.length := (List.getElem?_eq_some_iff.mp hpk).1
              by_cases hend : k + 1 = ps.length
              · have hT2 : cat (ys ++ [Str.ofString ".*"]) = body ps := by
                  rw [lit_ds, cat_snoc, ← hT, hend, gath_drop_end]; rfl
                have hcl2 : (cat (ys ++ [Str.ofString ".*"])).length ≤ 655360 := by rw [hT2]; exact hb
                have hsl2 : (S (cat (ys ++ [Str.ofString ".*"]))).length ≤ 655360 := by rw [S_len]; exact hcl2
                k_steps
                all_goals (first | (exact News.get (by assumption) (.head _)) | skip)
                · refine cb_retS hret ?_ (by assumption) (news_sub (by assumption) fun p h => .tail _ (.tail _ (.tail _ h)))
                  rw [hT2, fin_eq]
                all_goals (exfalso; omega)
              · cases hpk2 : ps[k + 1]? with
                | none => rw [List.getElem?_eq_none_iff] at hpk2; omega
                | some q =>
                  cases q with
                  | none => exact absurd hpk2 (hdd k hpk)
                  | some y1 =>
                    have hend2 : ((k : Int) + 1) ≠ (ps.length : Int) := by omega
                    have ek : ((k : Int) + 1).toNat = k + 1 := by omega
                    obtain ⟨yt1, hy1⟩ := (hps.at ((k : Int) + 1).toNat).2.2 y1 (by rw [ek]; exact hpk2)
                    k_steps
                    all_goals (first | (exfalso; omega) | skip)
                    · unfold Hold
                      rename (_ < _ ∧ _ < _ ∧ _ < _ ∧ AllLt _ news) => q2
                      rename (News _ _ _ (_ :: _ :: _ :: _ :: news)) => N7
                      have hne2 := ne_of_news N7 q2
                      refine' ksw_while (σ := List Value × Nat × Int × Tok) (fun c => (_, PySem.W.listOf c.1.toArray c.2.1) :: (_, bmObj _) :: (_, PySem.W.listOf zs.toArray n) :: (il, PySem.W.listOf us.toArray nn) :: news) (fun c => [(Str.ofString "i", Value.int c.2.2.1 c.2.2.2)]) (fun _ => True) []
                        (fun c => ∃ j : Nat, j ≤ ps.length ∧ c.2.2.1 = j ∧ k + 1 ≤ j ∧ c.1.length ≤ j ∧ ∃ gs, StrsAre c.1 gs ∧ cat ys ++ gath (cat gs) (ps.drop j) = body ps) (fun c => ps.length - c.2.2.1.toNat) ([], 0, (k : Int) + 1, _) (by assumption) (by assumption) trivial ?hk3 ⟨k + 1, hlt, by simp, Nat.le_refl _, Nat.zero_le _, [], .nil, hT⟩ ?turn3
                      case hk3 => intro p h; rw [List.mem_singleton.mp h]; rfl
                      case turn3 =>
                        clear hy1
                        intro c u h tk _ hP F5 N5
                        obtain ⟨fs, fm, iv, it⟩ := c
                        dsimp only at hP N5 F5
                        obtain ⟨j, hj0, rfl, hkj, hfj, gs, hgs, hG⟩ := hP
                        have hfz : fs.length ≤ 65536 := by omega
                        have hgl : (cat gs).length ≤ 655360 := by
                          have h1 := gath_len (cat gs) (ps.drop j)
                          have h2 : (cat ys ++ gath (cat gs) (ps.drop j)).length ≤ 655360 := by rw [hG]; exact hb
                          rw [List.length_append] at h2; omega
                        have hgs2 : (S (cat gs)).length ≤ 655360 := by rw [S_len]; exact hgl
                        by_cases hjl : j < ps.length
                        · cases hpj : ps[j]? with
                          | none => rw [List.getElem?_eq_none_iff] at hpj; omega
                          | some q =>
                            cases q with
                            | some y =>
                              obtain ⟨yt, hyj⟩ := (hps.at (j : Int).toNat).2.2 y hpj
                              clear hy
                              k_steps
                              unfold Hold
                              (rename Fr _ _ _ _ => F0); (rename News _ _ _ _ => N0); (try simp only [List.push_toArray] at N0)
                              refine kend1 (fs ++ [.str (S y) yt], fm + 1, (j : Int) + 1, _) F0 N0 rfl rfl trivial (fun _ h => h) (fun z h1 h2 => by simp [h1, kstB]) ⟨j + 1, hjl, by simp, by omega, by rw [List.length_append, List.length_singleton]; omega, gs ++ [S y], hgs.append' (.cons _ _ .nil), ?_⟩ (by dsimp only; omega)
                              rw [cat_snoc, ← gath_drop_some hpj]; exact hG
                            | none =>
                              have hyj := (hps.at (j : Int).toNat).2.1 hpj
                              clear hy
                              k_steps
                              all_goals (first | (exfalso; omega) | skip)
                              all_goals (first | (exact News.get (by assumption) (.tail _ (.head _))) | skip)
                              unfold Hold
                              (rename Fr _ _ _ _ => F0); (rename News _ _ _ _ => N0); (try simp only [List.push_toArray] at N0)
                              refine kend1 (zs ++ [.str (Str.empty ++ Str.ofString "(?>.*?" ++ S (cat gs) ++ Str.ofString ")") _], n + 1, (j : Int), _) F0 N0 rfl rfl trivial (fun _ h => .tail _ h) (fun z h1 h2 => by simp [h1, in_one h2, kstB]) ⟨j, hj0, rfl, by rw [List.length_append, List.length_singleton]; omega, ys ++ [S ([40, 63, 62, 46, 42, 63] ++ cat gs ++ [41])], hys.append' (grp_eq _ ▸ .cons _ _ .nil), .inr ⟨hpj, ?_⟩⟩ (by dsimp only; omega)
                              rw [cat_snoc, List.append_assoc, ← gath_drop_none hpj]; exact hG
                        · obtain rfl : j = ps.length := by omega
                          k_steps
                          all_goals (first | (exfalso; omega) | skip)
                          all_goals (first | (exact News.get (by assumption) (.tail _ (.head _))) | skip)
                          unfold Hold
                          (rename Fr _ _ _ _ => F0); (rename News _ _ _ _ => N0); (try simp only [List.push_toArray] at N0)
                          refine kend1 (zs ++ [.str (Str.ofString ".*") _] ++ [.str (S (cat gs)) _], n + 1 + 1, (ps.length : Int), _) F0 N0 rfl rfl trivial (fun _ h => .tail _ h) (fun z h1 h2 => by simp [h1, in_one h2, kstB]) ⟨ps.length, Nat.le_refl _, rfl, by simp only [List.length_append, List.length_singleton]; omega, ys ++ [Str.ofString ".*"] ++ [S (cat gs)], (hys.append' (.cons _ _ .nil)).append' (.cons _ _ .nil), .inl ⟨rfl, ?_⟩⟩ (by dsimp only; omega)
                          rw [cat_snoc, lit_ds, cat_snoc, ← hG, gath_drop_end, List.append_assoc]
    · obtain rfl : k = ps.length := by omega
      have hT : cat ys = body ps := by
        rw [List.drop_length] at hbody; rw [← hbody]; show _ = _ ++ []; rw [List.append_nil]
      have hcl : (cat ys).length ≤ 655360 := by rw [hT]; exact hb
      have hsl : (S (cat ys)).length ≤ 655360 := by rw [S_len]; exact hcl
      k_steps
      unfold Hold
      refine' ksw_while (σ := List Value × Nat × Int × Tok) (fun c => (_, bmObj _) :: (_, PySem.W.listOf c.1.toArray c.2.1) :: (il, PySem.W.listOf us.toArray nn) :: news) (fun c => [(Str.ofString "i", Value.int c.2.2.1 c.2.2.2)]) (fun _ => True) [Str.ofString "fixed"]
        (fun c => c.2.2.1 = (ps.length : Int) ∧ StrsAre c.1 ys) (fun c => 0) (zs, n, (ps.length : Int), _) (by assumption) (by assumption) trivial ?hk4 ⟨rfl, hys⟩ ?turn4
      case hk4 => intro p h; rw [List.mem_singleton.mp h]; rfl
      case turn4 =>
        clear hys hz
        intro c u h tk _ hP F4 N4
        obtain ⟨zs, n, iv, it⟩ := c
        dsimp only at hP N4 F4
        obtain ⟨rfl, hys⟩ := hP
        k_steps
        · refine cb_retS hret ?_ (by assumption) (news_sub (by assumption) fun p h => .tail _ (.tail _ (.tail _ h)))
          rw [hT, fin_eq]
        all_goals (exfalso; omega)
end Mine
end
section
open PySem PySem.W PyProof.Rows
namespace Mine
def grpStep (c : List (List Nat) × List Nat) : Option (List Nat) → List (List Nat) × List Nat
  | none => (c.1 ++ [c.2], [])
  | some y => (c.1, c.2 ++ y)
def grpOut : List (List Nat) × List Nat → List Nat
  | ([], a) => a
  | (f :: r, a) => f ++ r.flatMap wrapR ++ [46, 42] ++ a
theorem gath_grp (ps : List (Option (List Nat))) : ∀ (f : List Nat) (r1 : List (List Nat)) (acc : List Nat), f ++ r1.flatMap wrapR ++ gath acc ps = grpOut (ps.foldl grpStep (f :: r1, acc)) := by
  induction ps with
  | nil => intro f r1 acc; simp [gath, grpOut]
  | cons p r ih =>
    intro f r1 acc
    cases p with
    | none =>
      rw [List.foldl_cons, gath]
      show _ = grpOut (r.foldl grpStep (f :: (r1 ++ [acc]), []))
      rw [← ih, List.flatMap_append]
      simp [wrapR]
    | some y => exact ih f r1 (acc ++ y)
theorem body_grp (ps : List (Option (List Nat))) : ∀ acc : List Nat, acc ++ body ps = grpOut (ps.foldl grpStep ([], acc)) := by
  induction ps with
  | nil => intro acc; simp [body, grpOut]
  | cons p r ih =>
    intro acc
    cases p with
    | none =>
      rw [List.foldl_cons, body]
      show _ = grpOut (r.foldl grpStep ([acc], []))
      rw [← gath_grp]; simp
    | some y =>
      rw [List.foldl_cons, body, ← List.append_assoc, ih]
      rfl
theorem parts_last (l : List Nat) (n : Nat) : (parts l n).getLast? = some none ↔ (n ≠ 0 ∧ l.getD (n - 1) 0 = 42) := by
  cases n with
  | zero => simp [parts]
  | succ n =>
    by_cases h : l.getD n 0 = 42
    · by_cases h2 : (parts l n).getLast? = some none
      · rw [parts_star h h2]; simp only [h2, true_iff]; exact ⟨by omega, by simpa using h⟩
      · rw [parts_new h h2]; simp only [List.getLast?_append, List.getLast?_singleton, Option.or_some, true_iff]; simp; simpa using h
    · have e : (parts l (n + 1)).getLast? ≠ some none := by
        by_cases h2 : l.getD n 0 = 63
        · rw [parts_q h2]; simp
        · rw [parts_c h h2]; simp
      constructor
      · intro q; exact absurd q e
      · intro q; exact absurd (by simpa using q.2) h
theorem parts_prun (l : List Nat) : ∀ n, (parts l n).foldl grpStep ([], []) = prun l n
  | 0 => rfl
  | n + 1 => by
    have ih := parts_prun l n
    by_cases h : l.getD n 0 = 42
    · by_cases h2 : (parts l n).getLast? = some none
      · have h3 := (parts_last l n).mp h2
        rw [parts_star h h2, prun_t h h3.1 h3.2]; exact ih
      · rw [parts_new h h2, prun_s h (by
          by_cases hn : n = 0
          · exact .inl hn
          · exact .inr fun q => h2 ((parts_last l n).mpr ⟨hn, q⟩)), List.foldl_append, ih]
        rfl
    · by_cases h2 : l.getD n 0 = 63
      · rw [parts_q h2, prun_q h2, List.foldl_append, ih]; rfl
      · rw [parts_c h h2, prun_c h2 h, List.foldl_append, ih]; rfl
theorem trans_pat (l : List Nat) : [40, 63, 115, 58] ++ body (parts l l.length) ++ [41, 92, 90] = patL l := by
  have e := body_grp (parts l l.length) []
  rw [List.nil_append, parts_prun] at e
  rw [e]
  unfold patL
  cases hr : prun l l.length with
  | mk i a =>
    cases i with
    | nil => rfl
    | cons f r => simp [grpOut, patR]
theorem body_len (l : List Nat) (h : l.length ≤ 65536) : (body (parts l l.length)).length ≤ 655360 := by
  have e := body_grp (parts l l.length) []
  rw [List.nil_append, parts_prun] at e
  rw [e]
  have hp := prun_len l l.length
  cases hr : prun l l.length with
  | mk i a =>
    rw [hr] at hp
    cases i with
    | nil => simp only [grpOut]; simp at hp; omega
    | cons f r =>
      simp only [grpOut, List.length_append, wrap_len, List.length_cons, List.length_nil]
      simp only [List.map_cons, List.sum_cons, List.length_cons] at hp
      omega
theorem noDD_snoc {ps : List (Option (List Nat))} {q : Option (List Nat)} (h : NoDD ps) (hq : q = none → ps.getLast? ≠ some none) : NoDD (ps ++ [q]) := by
  intro k h1 h2
  by_cases hk : k + 1 < ps.length
  · rw [List.getElem?_append_left (by omega)] at h1
    rw [List.getElem?_append_left hk] at h2
    exact h k h1 h2
  · by_cases hk2 : k + 1 = ps.length
    · rw [List.getElem?_append_right (by omega), hk2, Nat.sub_self] at h2
      have hq2 : q = none := by simpa using h2
      rw [List.getElem?_append_left (by omega)] at h1
      refine hq hq2 ?_
      rw [List.getLast?_eq_getElem?, ← hk2]; exact h1
    · rw [List.getElem?_append_right (by omega)] at h2
      have : 1 ≤ k + 1 - ps.length := by omega
      rw [List.getElem?_eq_none (by simp; omega)] at h2
      cases h2
theorem parts_noDD (l : List Nat) : ∀ n, NoDD (parts l n)
  | 0 => by intro k h; simp [parts] at h
  | n + 1 => by
    have ih := parts_noDD l n
    by_cases h : l.getD n 0 = 42
    · by_cases h2 : (parts l n).getLast? = some none
      · rw [parts_star h h2]; exact ih
      · rw [parts_new h h2]; exact noDD_snoc ih fun _ => h2
    · by_cases h2 : l.getD n 0 = 63
      · rw [parts_q h2]; exact noDD_snoc ih fun e => nomatch e
      · rw [parts_c h h2]; exact noDD_snoc ih fun e => nomatch e
end Mine
end
section
open PySem PySem.W PyProof.Rows
namespace Mine
theorem plain_obj_new : plainId "object.__new__" = true := by decide +kernel
theorem slot_obj_init : Slot "object" "__init__" "object.__init__" :=
  .of (owner := "object") (n := "__init__") (by rw [typeLookup_type, builtinLookup_eq_fast]; kernel_rfl) (by decide +kernel) (by decide +kernel) (by decide +kernel)
    (by first | exact .inl (by decide +kernel) | exact .inr (by decide +kernel)) (by rw [isSubtype_type]; kernel_rfl)
theorem lk_obj_new : typeLookup (.type "object") "__new__" = pure (some (.builtin "object.__new__")) := by rw [typeLookup_type, builtinLookup_eq_fast]; kernel_rfl
theorem sub_obj : isSubtype (.type "object") (.type "object") = pure true := by rw [isSubtype_type]; kernel_rfl
theorem made_obj : Bind.madeBy (.type "object") = pure (some "object.__new__") := madeBy_type F.mro_object lk_obj_new (by decide +kernel)
theorem called_obj : TypeCalled "object" "object.__new__" "object.__init__" :=
  ⟨by decide +kernel, by decide +kernel, ⟨_, _, F.mro_object⟩, made_obj, plain_obj_new, sub_obj, slot_obj_init⟩
theorem typeCall_obj : checkTypeCall "object" ⟨[], []⟩ = pure () := by kernel_rfl
theorem newCall_obj : checkBuiltinCall "object.__new__" ⟨[.type "object"], []⟩ = pure () := by kernel_rfl
theorem entry_obj_new : entryFor table "object.__new__" = some Builtin.«object.__new__» := entryFor_of_tree (by kernel_rfl)
theorem initArgs_obj (o : Value) : argsOk "object.__init__" ⟨[o], []⟩ := by unfold argsOk; kernel_rfl
section
variable {prog : Program} {w : World} {A : Around} {E : Value → Shared → Prop} {s : Shared}
set_option maxHeartbeats 1000000 in
theorem code_obj_new {Q₁ : Value → Shared → Prop} (h : Q₁ (.ref s.heap.objs.size) { s with heap := s.heap.push { cls := .type "object", data := .plain } }) :
    codeAny (model prog w) A (.call (.builtin "object.__new__") ⟨[.type "object"], []⟩) (wants Q₁ E) s := by
  refine codeAny_of_tree ?_
  show wpAny _ A.in1 (do checkBuiltinCall "object.__new__" ⟨[.type "object"], []⟩; again (.builtin "object.__new__" ⟨[.type "object"], []⟩)) _ _ s
  refine wpAny_bind (wpAny_of_eq newCall_obj (wpAny_pure ⟨plainId_quiet plain_obj_new _, codeAny_builtin entry_obj_new ?_⟩))
  have hm := made_obj
  unfold Builtin.«object.__new__»
  obtain ⟨hp, g, d, tk, os⟩ := s
  repeat (any_goals (first | assumption | wp_step))


theorem call_obj {Q : Value → Shared → Prop} (h : Q (.ref s.heap.objs.size) { s with heap := s.heap.push { cls := .type "object", data := .plain } }) : wpAny (model prog w) A (call (.type "object") []) Q E s := by
  refine callType_codes (Q₁ := fun obj s₁ => s₁.TypeIs obj "object" ∧ Q obj s₁) called_obj typeCall_obj F.entry_object_init ?_ ?_
  · exact code_obj_new ⟨⟨_, Heap.get?_push_size _ rfl, rfl⟩, h⟩
  · rintro obj s₁ ⟨hT, hq⟩
    exact ⟨hT, initArgs_obj obj, wpAny_pure ⟨rfl, hq⟩⟩
end
end Mine
end
section
open PySem PySem.W PyProof.Rows
theorem Mine.woff28 : True := by w_top off; trivial
namespace Mine
theorem call_obj_K {prog : Program} {w : World} {A : Around} {E : Value → Shared → Prop} {s : Shared} {h₀ : Heap} {L : Addr} {m : Str → Option Value} {news : List (Addr × Obj)} {Q : Value → Shared → Prop} (F : Fr h₀ L s.heap m) (N : News h₀ L s.heap news)
    (h : ∀ b h', Fr h₀ L h' m → News h₀ L h' news → Q (.ref b) { s with heap := h' }) : wpAny (model prog w) A (call (.type "object") []) Q E s :=
  call_obj (h _ _ (F.push _) (news_tail (News.push F N _)))
section
variable {prog : Program} {w : World} {f : Addr} {d u : Nat} {y : Str} {t t2 : Tok} {st : Addr} {p : Program} {loose : List Str} {mean : ExcName → Option Value} {mg mb : Str → Option Value} {dp un : Nat} {gd : Option (List Code)} {cn : Str} {cs : Scope} {a : Addr} {ccd : Value} {cl : List (Str × Addr)} {outer : List Env} {A₀ : Around} {base h₀ : Heap} {L : Addr} {m : Str → Option Value} {news : List (Addr × Obj)} {s : Shared} {Q E : Value → Shared → Prop}
theorem saysO_use {W : Addr → List Value → Prop} (C : ∀ t t2 st, SaysO prog w f d u [.str y t, .ref st, .str (Str.ofString ".") t2] (W st)) (B : Below A₀ base outer h₀) (F : Fr h₀ L s.heap m) (X : (Mine.hd.heap_39 w.params).In h₀) (N : News h₀ L s.heap news) (T : Top p loose mean mg mb h₀) (hk : cs.kind = .function)
    (hd : dp + d < recursionLimit) (hu : un + u < cLine) (ret : ∀ (l : Addr) (us : List Value) (n : Nat) (h' : Heap) (tk' : Nat), W st us → Fr h₀ L h' m → News h₀ L h' ((l, PySem.W.listOf us.toArray n) :: news) → Q (.ref l) { s with heap := h', toks := tk' }) :
    wpAny (model prog w) (ktrTop dp un gd cn cs L a ccd cl outer) (call (.ref f) [.str y t, .ref st, .str (Str.ofString ".") t2]) Q E s :=
  C t t2 st _ _ _ _ _ _ _ _ _ _ _ _ _ _ _ _ _ _ _ _ _ _ _ B F X N T hk hd hu fun l us n h' tk' hi F N _ => ret l us n h' tk' hi F N
theorem saysP_use {W : Addr → List Value → Prop} {R : Tok → Value} {il : Addr} {us : List Value} {nn : Nat} (C : ∀ il st us nn, W st us → SaysP prog w f d u [.ref il, .ref st] il us nn R) (hW : W st us) (B : Below A₀ base outer h₀) (F : Fr h₀ L s.heap m) (X : (Mine.hd.heap_39 w.params).In h₀) (N : News h₀ L s.heap ((il, PySem.W.listOf us.toArray nn) :: news)) (T : Top p loose mean mg mb h₀) (hk : cs.kind = .function)
    (hd : dp + d < recursionLimit) (hu : un + u < cLine) (ret : ∀ (t : Tok) (h' : Heap) (tk' : Nat), Fr h₀ L h' m → News h₀ L h' news → Q (R t) { s with heap := h', toks := tk' }) :
    wpAny (model prog w) (ktrTop dp un gd cn cs L a ccd cl outer) (call (.ref f) [.ref il, .ref st]) Q E s :=
  C il st us nn hW _ _ _ _ _ _ _ _ _ _ _ _ _ _ _ _ _ _ _ _ _ _ _ B F X N T hk hd hu ret
end
local macro_rules | `(tactic| walk_at "call type:object") => `(tactic| (k_here; k_dflt (refine' call_obj_K ?k1 ?k2 ?_; (case k1 => k_asm); (case k2 => k_asm); k_whole); intro b9 h9 F9 N9; (try dsimp only); (try k_fold)))
local macro_rules | `(tactic| walk_at "call ref") => `(tactic| (k_here; k_dflt (first
  | (refine' saysO_use ?kC ?k1 ?k2 ?k3 ?k4 ?k5 ?k6 ?k7 ?k8 ?_; (case kC => assumption); (case k1 => k_asm); (case k2 => k_asm); (case k3 => k_asm); (case k4 => k_asm); (case k5 => k_asm); (case k6 => first | exact rfl | assumption); (case k7 => ktr_room); (case k8 => ktr_units); intro l9 us9 n9 h9 tk9 W9 F9 N9; (try dsimp only); (try k_fold))
  | (refine' saysP_use ?kC ?kW ?k1 ?k2 ?k3 ?k4 ?k5 ?k6 ?k7 ?k8 ?_; (case kC => assumption); (case kW => assumption); (case k1 => k_asm); (case k2 => k_asm); (case k3 => k_asm); (case k4 => k_asm); (case k5 => k_asm); (case k6 => first | exact rfl | assumption); (case k7 => ktr_room); (case k8 => ktr_units); intro t9 h9 tk9 F9 N9; (try dsimp only); (try k_fold)))))
set_option maxHeartbeats 4000000 in
theorem c_translate (prog : Program) (w : World) (x : Str) (t : Tok) (hx : x.length ≤ 65536) (h91 : ∀ c ∈ x.cps.toList, c ≠ 91) : Says prog w 69 3 130 [.str x t] (fun t => .str (S (patL x.cps.toList)) t) := by
  have hxl : x.cps.toList.length ≤ 65536 := by rw [← len_list2]; exact hx
  have C1 : ∀ t t2 st, SaysO prog w 88 2 110 [.str x t, .ref st, .str (Str.ofString ".") t2] ((fun st us => PartsAre st us (parts x.cps.toList x.length)) st) := fun t t2 st => c_parts prog w x t t2 st hx h91
  have C2 : ∀ il st us nn, (fun st us => PartsAre st us (parts x.cps.toList x.length)) st us → SaysP prog w 95 2 110 [.ref il, .ref st] il us nn (fun t => .str (S ([40, 63, 115, 58] ++ body (parts x.cps.toList x.length) ++ [41, 92, 90])) t) :=
    fun il st us nn h => c_join prog w il st us nn _ h (parts_noDD _ _) (Nat.le_trans (parts_len _ _) hx) (by rw [len_list2]; exact body_len _ hxl)
  unfold Says; intro p loose mean mg mb dp un gd cn cs a ccd cl outer A₀ base h₀ L m news s Q E B F X N T hk hd hu hret; refine wpAny_call ?_; (first | k_dflt cell_enter | fail "not entered")
  k_steps
  refine cb_retS hret ?_ (by assumption) (by assumption)
  rw [← trans_pat, len_list2]
end Mine
end
section
open PySem PySem.W PyProof.Rows
namespace Mine
def usp (c : Nat) : Nat := if c = 95 then 32 else c
theorem subst_usp (l : List Nat) : subst 95 [32] l = l.map usp := by
  induction l with
  | nil => rfl
  | cons a r ih =>
    have e : subst 95 [32] (a :: r) = (if a = 95 then [32] else [a]) ++ subst 95 [32] r := by simp [subst]
    rw [e, ih, List.map_cons]
    unfold usp
    split <;> rfl
theorem usp_getD (l : List Nat) (j : Nat) : (l.map usp).getD j 0 = usp (l.getD j 0) := by
  rw [List.getD_eq_getElem?_getD, List.getD_eq_getElem?_getD, List.getElem?_map]
  cases l[j]? with
  | none => rfl
  | some a => rfl
theorem usp_61 (c : Nat) : usp c = 61 ↔ c = 61 := by unfold usp; split <;> omega
theorem usp_fig (c : Nat) : 0 ≤ fig (usp c) ↔ 0 ≤ fig c := by
  by_cases h : c = 95
  · subst h; decide
  · have e : usp c = c := if_neg h
    rw [e]
theorem hitL_usp (l : List Nat) (i : Nat) : hitL (l.map usp) i ↔ hitL l i := by
  unfold hitL
  rw [usp_getD, usp_getD, usp_getD, usp_61, usp_fig, usp_fig]
theorem octAt_hit {l : List Nat} {n : Nat} (h : hitL l n) : octAt l n = [16 * fig (l.getD (n + 1) 0) + fig (l.getD (n + 2) 0)] := by
  unfold octAt; exact if_pos h
theorem octAt_miss {l : List Nat} {n : Nat} (h : ¬ hitL l n) : octAt l n = [] := by
  unfold octAt; exact if_neg h
theorem hex_usp {c : Nat} (h : 0 ≤ fig c) : usp c = c := by
  unfold usp
  split
  · rename_i e; subst e; exact absurd h (by decide)
  · rfl
theorem unesc_nil : unesc [] = [] := by simp [unesc]
theorem unesc_drop_hit {l : List Nat} {n : Nat} (h : hitL l n) : unesc ((l.drop n).map usp) = octet (l.getD (n + 1) 0) (l.getD (n + 2) 0) :: unesc ((l.drop (n + 3)).map usp) := by
  have h0 : hitL ((l.drop n).map usp) 0 := (hitL_usp _ _).mpr ((hitL_drop l n 0).mpr h)
  rw [unesc_first 0 _ h0 (fun i hi => absurd hi (Nat.not_lt_zero _)), usp_getD, usp_getD]
  have e1 : (l.drop n).getD 1 0 = l.getD (n + 1) 0 := by simp [List.getD_eq_getElem?_getD]
  have e2 : (l.drop n).getD 2 0 = l.getD (n + 2) 0 := by simp [List.getD_eq_getElem?_getD]
  rw [e1, e2, hex_usp h.2.1, hex_usp h.2.2, ← List.map_drop, List.drop_drop]
  rfl
theorem unesc_drop_miss {l : List Nat} {n : Nat} (hn : n < l.length) (h : ¬ hitL l n) : unesc ((l.drop n).map usp) = usp (l.getD n 0) :: unesc ((l.drop (n + 1)).map usp) := by
  have hd : l.drop n = l.getD n 0 :: l.drop (n + 1) := by
    rw [List.drop_eq_getElem_cons hn, List.getD_eq_getElem?_getD, List.getElem?_eq_getElem hn]; rfl
  have h0 : ¬ hitL (usp (l.getD n 0) :: (l.drop (n + 1)).map usp) 0 := fun q => h (by
    have q2 : hitL ((l.drop n).map usp) 0 := by rw [hd]; exact q
    exact (hitL_drop l n 0).mp ((hitL_usp _ _).mp q2))
  rw [hd, List.map_cons, unesc_skip h0]
theorem rd_inv (l : List Nat) : ∀ n, n ≤ l.length → n + (rd l n).2 ≤ l.length ∧ (rd l n).1 ++ unesc ((l.drop (n + (rd l n).2)).map usp) = unesc (l.map usp)
  | 0, _ => ⟨by simp [rd], by simp [rd]⟩
  | n + 1, hn => by
    obtain ⟨h1, h2⟩ := rd_inv l n (by omega)
    by_cases hs : 0 < (rd l n).2
    · rw [rd_skip hs]
      dsimp only
      have e : n + 1 + ((rd l n).2 - 1) = n + (rd l n).2 := by omega
      rw [e]; exact ⟨h1, h2⟩
    · have h0 : (rd l n).2 = 0 := by omega
      rw [h0, Nat.add_zero] at h2
      by_cases hh : hitL l n
      · have hl := hitL_len hh
        rw [rd_oct hs (octAt_hit hh)]
        dsimp only
        refine ⟨by omega, ?_⟩
        rw [← h2, unesc_drop_hit hh, List.append_assoc]
        have e : n + 1 + 2 = n + 3 := by omega
        rw [e]; rfl
      · rw [rd_plain hs (octAt_miss hh)]
        dsimp only
        refine ⟨by omega, ?_⟩
        rw [← h2, unesc_drop_miss (by omega) hh, List.append_assoc]
        rfl
theorem rd_unesc (l : List Nat) : (rd l l.length).1 = unesc (subst 95 [32] l) := by
  obtain ⟨h1, h2⟩ := rd_inv l l.length (Nat.le_refl _)
  have h0 : (rd l l.length).2 = 0 := by omega
  rw [h0, Nat.add_zero, List.drop_length] at h2
  rw [subst_usp, ← h2]
  show _ = _ ++ unesc []
  rw [unesc_nil, List.append_nil]
end Mine
end
section
open PySem PySem.W PyProof.Rows
theorem Mine.woff30 : True := by w_top off; trivial
namespace Mine
/-- one step of an order: 100 decodes, 113 quotes, another translates -/
def stepO (l : List Nat) (c : Nat) : List Nat := if c = 100 then unesc (subst 95 [32] l) else if c = 113 then shellL l else patL l
def runO (o l : List Nat) : List Nat := o.foldl stepO l
/-- what the steps ask of the texts between -/
def FitO (o l : List Nat) : Prop := ∀ k, k < o.length → (runO (o.take k) l).length ≤ 65536 ∧ (∀ c ∈ runO (o.take k) l, c < 1114112) ∧ (o.getD k 0 ≠ 100 → o.getD k 0 ≠ 113 → ∀ c ∈ runO (o.take k) l, c ≠ 91)
theorem eq_yes {prog : Program} {w : World} {A : Around} {E : Value → Shared → Prop} {s : Shared} {x y : Str} {t u : Tok} {Q : Value → Shared → Prop} (hn : (x == y) = true) (h : Q (.bool true) s) : wpAny (model prog w) A (compareOp .Eq (.str x t) (.str y u)) Q E s := by
  refine P.eq_str ?_
  have e : (x.cps.toList == y.cps.toList) = true := by
    rw [beq_iff_eq] at hn ⊢
    rw [hn]
  rw [e]; exact h
theorem one_is {n c : Nat} {y : Str} (hy : y.cps.toList = [c]) : ((⟨#[n]⟩ : Str) == y) = decide (n = c) := by
  rw [Bool.eq_iff_iff, beq_iff_eq, decide_eq_true_eq]
  constructor
  · intro h; rw [← h] at hy; simpa using hy
  · intro h; refine PySem.Str.ext' (Array.toList_inj.mp ?_); rw [hy, h]
theorem lit_d : (Str.ofString "d").cps.toList = [100] := by decide +kernel
theorem lit_lq : (Str.ofString "q").cps.toList = [113] := by decide +kernel
theorem codes_at {o : Str} {pre post : List Int} {n : Nat} (h : KStt.codes o = pre ++ (n : Int) :: post) : o.cps.toList[pre.length]? = some n := by
  have e : (KStt.codes o)[pre.length]? = some (n : Int) := by rw [h, List.getElem?_append_right (Nat.le_refl _), Nat.sub_self]; rfl
  have e2 : KStt.codes o = o.cps.toList.map (fun c : Nat => (c : Int)) := rfl
  rw [e2, List.getElem?_map, Option.map_eq_some_iff] at e
  obtain ⟨a, ha, hb⟩ := e
  rw [ha]; congr 1; exact Int.ofNat.inj hb
theorem codes_len {o : Str} : (KStt.codes o).length = o.cps.toList.length := by
  have e2 : KStt.codes o = o.cps.toList.map (fun c : Nat => (c : Int)) := rfl
  rw [e2, List.length_map]
theorem runO_snoc {o l : List Nat} {k n : Nat} (h : o[k]? = some n) : runO (o.take (k + 1)) l = stepO (runO (o.take k) l) n := by
  unfold runO
  rw [List.take_add_one, h, List.foldl_append]; rfl
local macro_rules | `(tactic| walk_at "pyIter str") => `(tactic| (refine Hold.out ?_))
local macro_rules | `(tactic| walk_at "exec For Name Name cons nil") => `(tactic| (k_here; (rename Fr _ _ _ _ => lF'); (with_unfolding_all refine' For_invVF lF' ?k1 ?k2 ?_; (case k1 => exact rfl); (case k2 => exact rfl); k_whole)))
local macro_rules | `(tactic| walk_at "compareOp Eq str str") => `(tactic| (k_here; k_dflt (first
  | (refine' eq_no ?kn ?_; (case kn => assumption); k_whole)
  | (refine' eq_yes ?kn2 ?_; (case kn2 => assumption); k_whole))))
set_option maxHeartbeats 4000000 in
theorem c_after (prog : Program) (w : World) (o x : Str) (t u : Tok) (hf : FitO o.cps.toList x.cps.toList) : Says prog w 165 5 200 [.str o t, .str x u] (fun t => .str (S (runO o.cps.toList x.cps.toList)) t) := by
  unfold Says; intro p loose mean mg mb dp un gd cn cs a ccd cl outer A₀ base h₀ L m news s Q E B F X N T hk hd hu hret; refine wpAny_call ?_; (first | k_dflt cell_enter | fail "not entered")
  k_steps
  unfold Hold
  rename (Fr _ _ _ _) => F1
  rename (News _ _ _ _) => N1
  refine' KStt.kst_text (σ := Str × Tok) (fun _ => news) (fun c => [(Str.ofString "text", Value.str c.1 c.2)]) (fun _ => True) [] (fun pre c => c.1 = S (runO (o.cps.toList.take pre.length) x.cps.toList)) (x, u) rfl F1 N1 trivial ?hk (by rw [List.length_nil, List.take_zero]; exact (S_of x).symm) ?turn ?done
  case hk => intro p h; rw [List.mem_singleton.mp h]; rfl
  case done =>
    intro c u h tk _ hP F3 N3
    obtain ⟨y, yt⟩ := c
    dsimp only at hP N3 F3
    rw [codes_len, List.take_length] at hP
    k_steps
    exact cb_retS hret hP (by assumption) (by assumption)
  case turn =>
    intro c pre post n t2 u2 h tk own hcod hoff _ hP F3 N3
    obtain ⟨y, yt⟩ := c
    dsimp only at hP N3 F3
    have hat := codes_at hcod
    have hlt : pre.length < o.cps.toList.length := (List.getElem?_eq_some_iff.mp hat).1
    obtain ⟨f1, f2, f3⟩ := hf pre.length hlt
    have hD : o.cps.toList.getD pre.length 0 = n := by rw [List.getD_eq_getElem?_getD, hat]; rfl
    have hs := runO_snoc (l := x.cps.toList) hat
    rw [hD] at f3
    generalize runO (o.cps.toList.take pre.length) x.cps.toList = l at hP f1 f2 f3 hs
    have lp : (pre ++ [(n : Int)]).length = pre.length + 1 := by rw [List.length_append, List.length_singleton]
    have q1 := one_is (n := n) lit_d
    have q2 := one_is (n := n) lit_lq
    have fl : (S l).length ≤ 65536 := by rw [S_len]; exact f1
    subst hP
    by_cases h1 : n = 100
    · rw [decide_eq_true h1] at q1
      have C : ∀ t, Says prog w 57 4 130 [.str (S l) t] (fun t => .str (S (stepO l n)) t) := fun t => by
        have q := c_decode prog w (S l) t fl
        rw [S_list] at q; unfold stepO; rw [if_pos h1]; exact q
      k_steps
      unfold Hold
      (rename Fr _ _ _ _ => F0); (rename News _ _ _ _ => N0)
      refine end1 (S (stepO l n), _) F0 N0 rfl rfl rfl trivial (fun p hp => List.mem_append_left _ hp) (fun p hp => List.mem_append_right _ hp) ?_ ?_
      · intro z e1 e2 e3; simp [e1, e2, kstB]
      · rw [lp, hs]
    · rw [decide_eq_false h1] at q1
      by_cases h2 : n = 113
      · rw [decide_eq_true h2] at q2
        have C : ∀ t, Says prog w 108 1 100 [.str (S l) t] (fun t => .str (S (stepO l n)) t) := fun t => by
          have q := c_quote prog w (S l) t fl
          rw [S_list] at q; unfold stepO; rw [if_neg h1, if_pos h2]; exact q
        k_steps
        unfold Hold
        (rename Fr _ _ _ _ => F0); (rename News _ _ _ _ => N0)
        refine end1 (S (stepO l n), _) F0 N0 rfl rfl rfl trivial (fun p hp => List.mem_append_left _ hp) (fun p hp => List.mem_append_right _ hp) ?_ ?_
        · intro z e1 e2 e3; simp [e1, e2, kstB]
        · rw [lp, hs]
      · rw [decide_eq_false h2] at q2
        have C : ∀ t, Says prog w 69 3 130 [.str (S l) t] (fun t => .str (S (stepO l n)) t) := fun t => by
          have q := c_translate prog w (S l) t fl (by rw [S_list]; exact f3 h1 h2)
          rw [S_list] at q; unfold stepO; rw [if_neg h1, if_neg h2]; exact q
        k_steps
        unfold Hold
        (rename Fr _ _ _ _ => F0); (rename News _ _ _ _ => N0)
        refine end1 (S (stepO l n), _) F0 N0 rfl rfl rfl trivial (fun p hp => List.mem_append_left _ hp) (fun p hp => List.mem_append_right _ hp) ?_ ?_
        · intro z e1 e2 e3; simp [e1, e2, kstB]
        · rw [lp, hs]
set_option maxHeartbeats 4000000 in
theorem c_due (prog : Program) (w : World) (o x : Str) (t u : Tok) (hf : FitO o.cps.toList x.cps.toList) : Says prog w 172 5 200 [.str o t, .str x u] (fun t => .str (S (runO o.cps.toList x.cps.toList)) t) := by
  unfold Says; intro p loose mean mg mb dp un gd cn cs a ccd cl outer A₀ base h₀ L m news s Q E B F X N T hk hd hu hret; refine wpAny_call ?_; (first | k_dflt cell_enter | fail "not entered")
  k_steps
  unfold Hold
  rename (Fr _ _ _ _) => F1
  rename (News _ _ _ _) => N1
  refine' KStt.kst_text (σ := Str × Tok) (fun _ => news) (fun c => [(Str.ofString "text", Value.str c.1 c.2)]) (fun _ => True) [] (fun pre c => c.1 = S (runO (o.cps.toList.take pre.length) x.cps.toList)) (x, u) rfl F1 N1 trivial ?hk (by rw [List.length_nil, List.take_zero]; exact (S_of x).symm) ?turn ?done
  case hk => intro p h; rw [List.mem_singleton.mp h]; rfl
  case done =>
    intro c u h tk _ hP F3 N3
    obtain ⟨y, yt⟩ := c
    dsimp only at hP N3 F3
    rw [codes_len, List.take_length] at hP
    k_steps
    exact cb_retS hret hP (by assumption) (by assumption)
  case turn =>
    intro c pre post n t2 u2 h tk own hcod hoff _ hP F3 N3
    obtain ⟨y, yt⟩ := c
    dsimp only at hP N3 F3
    have hat := codes_at hcod
    have hlt : pre.length < o.cps.toList.length := (List.getElem?_eq_some_iff.mp hat).1
    obtain ⟨f1, f2, f3⟩ := hf pre.length hlt
    have hD : o.cps.toList.getD pre.length 0 = n := by rw [List.getD_eq_getElem?_getD, hat]; rfl
    have hs := runO_snoc (l := x.cps.toList) hat
    rw [hD] at f3
    generalize runO (o.cps.toList.take pre.length) x.cps.toList = l at hP f1 f2 f3 hs
    have lp : (pre ++ [(n : Int)]).length = pre.length + 1 := by rw [List.length_append, List.length_singleton]
    have q1 := one_is (n := n) lit_d
    have q2 := one_is (n := n) lit_lq
    have fl : (S l).length ≤ 65536 := by rw [S_len]; exact f1
    subst hP
    by_cases h1 : n = 100
    · rw [decide_eq_true h1] at q1
      have C : ∀ t, Says prog w 134 3 120 [.str (S l) t] (fun t => .str (S (stepO l n)) t) := fun t => by
        have q := c_read prog w (S l) t fl
        rw [S_len, S_list, rd_unesc] at q; unfold stepO; rw [if_pos h1]; exact q
      k_steps
      unfold Hold
      (rename Fr _ _ _ _ => F0); (rename News _ _ _ _ => N0)
      refine end1 (S (stepO l n), _) F0 N0 rfl rfl rfl trivial (fun p hp => List.mem_append_left _ hp) (fun p hp => List.mem_append_right _ hp) ?_ ?_
      · intro z e1 e2 e3; simp [e1, e2, kstB]
      · rw [lp, hs]
    · rw [decide_eq_false h1] at q1
      by_cases h2 : n = 113
      · rw [decide_eq_true h2] at q2
        have C : ∀ t, Says prog w 146 2 110 [.str (S l) t] (fun t => .str (S (stepO l n)) t) := fun t => by
          have q := c_shell prog w (S l) t fl (by rw [S_list]; exact f2)
          rw [S_list] at q; unfold stepO; rw [if_neg h1, if_pos h2]; exact q
        k_steps
        unfold Hold
        (rename Fr _ _ _ _ => F0); (rename News _ _ _ _ => N0)
        refine end1 (S (stepO l n), _) F0 N0 rfl rfl rfl trivial (fun p hp => List.mem_append_left _ hp) (fun p hp => List.mem_append_right _ hp) ?_ ?_
        · intro z e1 e2 e3; simp [e1, e2, kstB]
        · rw [lp, hs]
      · rw [decide_eq_false h2] at q2
        have C : ∀ t, Says prog w 158 2 110 [.str (S l) t] (fun t => .str (S (stepO l n)) t) := fun t => by
          have q := c_pattern prog w (S l) t fl
          rw [S_list] at q; unfold stepO; rw [if_neg h1, if_neg h2]; exact q
        k_steps
        unfold Hold
        (rename Fr _ _ _ _ => F0); (rename News _ _ _ _ => N0)
        refine end1 (S (stepO l n), _) F0 N0 rfl rfl rfl trivial (fun p hp => List.mem_append_left _ hp) (fun p hp => List.mem_append_right _ hp) ?_ ?_
        · intro z e1 e2 e3; simp [e1, e2, kstB]
        · rw [lp, hs]
end Mine
end
section
open PySem PySem.W PyProof.Rows
namespace Mine
theorem ints_mem {vs : List Value} {ns : List Int} (h : IntsAre vs ns) : ∀ v ∈ vs, ∃ x t, v = .int x t ∧ x ∈ ns := by
  induction h with
  | nil => intro v hv; cases hv
  | cons y t _ ih =>
    intro v hv
    rcases List.mem_cons.mp hv with e | hv
    · exact ⟨y, t, e, .head _⟩
    · obtain ⟨x, t, e, hx⟩ := ih v hv
      exact ⟨x, t, e, .tail _ hx⟩
theorem ints_of {ns : List Int} : ∀ l : List Value, (∀ v ∈ l, ∃ x t, v = .int x t ∧ x ∈ ns) → ∃ ms, IntsAre l ms ∧ ∀ x ∈ ms, x ∈ ns
  | [], _ => ⟨[], .nil, List.forall_mem_nil _⟩
  | v :: r, h => by
    obtain ⟨ms, h1, h2⟩ := ints_of r fun v hv => h v (.tail _ hv)
    obtain ⟨x, t, rfl, hx⟩ := h v (.head _)
    exact ⟨x :: ms, .cons _ _ h1, List.forall_mem_cons.mpr ⟨hx, h2⟩⟩
theorem pick_ints {vs : List Value} {ns : List Int} (h : IntsAre vs ns) (lo hi st : Option Int) : ∃ ms, IntsAre (slicePick vs.toArray lo hi st).toList ms ∧ ∀ x ∈ ms, x ∈ ns := by
  refine ints_of _ fun v hv => ints_mem h v ?_
  unfold slicePick at hv
  rw [List.toList_toArray] at hv
  obtain ⟨i, _, hi⟩ := List.mem_filterMap.mp hv
  have := Array.mem_of_getElem? hi
  simpa using this
theorem sum_nonneg : ∀ ms : List Int, (∀ x ∈ ms, 0 ≤ x) → 0 ≤ ms.sum
  | [], _ => by simp
  | a :: r, h => by
    have := sum_nonneg r fun x hx => h x (.tail _ hx)
    have := h a (.head _)
    rw [List.sum_cons]; omega
end Mine
end
section
open PySem PySem.W PyProof.Rows
namespace Mine
/-- every sign 53 stands ahead of 70, 67 or 68 -/
def safe53 : List Nat → Bool
  | [] => true
  | [a] => a != 53
  | a :: b :: r => (a != 53 || b == 70 || b == 67 || b == 68) && safe53 (b :: r)
theorem safe53_tail {a : Nat} {r : List Nat} (h : safe53 (a :: r) = true) : safe53 r = true := by
  cases r with
  | nil => rfl
  | cons b r => simp only [safe53, Bool.and_eq_true] at h; exact h.2
theorem safe53_append : ∀ {a b : List Nat}, safe53 a = true → safe53 b = true → safe53 (a ++ b) = true
  | [], _, _, h => h
  | [x], b, h, h2 => by
    cases b with
    | nil => exact h
    | cons y r =>
      have hx : (x != 53) = true := h
      show ((x != 53 || y == 70 || y == 67 || y == 68) && safe53 (y :: r)) = true
      rw [hx, h2]; rfl
  | x :: y :: r, b, h, h2 => by
    have h3 : ((x != 53 || y == 70 || y == 67 || y == 68) && safe53 (y :: r)) = true := h
    rw [Bool.and_eq_true] at h3
    show ((x != 53 || y == 70 || y == 67 || y == 68) && safe53 ((y :: r) ++ b)) = true
    rw [h3.1, safe53_append h3.2 h2]; rfl
def pieceB (l : List Nat) : Bool := decide (l.length ≤ 3) && l.all (fun c => decide (c < 1114112) && (c != 91)) && safe53 l
def Piece (p : Str) : Prop := pieceB p.cps.toList = true
def GoodT (l : List Nat) : Prop := l.length ≤ 24 ∧ (∀ c ∈ l, c < 1114112) ∧ (∀ c ∈ l, c ≠ 91) ∧ safe53 l = true
theorem piece_len {p : Str} (h : Piece p) : p.cps.toList.length ≤ 3 := by
  unfold Piece pieceB at h; simp only [Bool.and_eq_true, decide_eq_true_eq] at h; exact h.1.1
theorem piece_all {p : Str} (h : Piece p) : ∀ c ∈ p.cps.toList, c < 1114112 ∧ c ≠ 91 := by
  unfold Piece pieceB at h; simp only [Bool.and_eq_true, decide_eq_true_eq, List.all_eq_true, bne_iff_ne] at h; exact h.1.2
theorem piece_safe {p : Str} (h : Piece p) : safe53 p.cps.toList = true := by
  unfold Piece pieceB at h; simp only [Bool.and_eq_true] at h; exact h.2
theorem pieces_good : ∀ {ps : List Str}, (∀ p ∈ ps, Piece p) → (cat ps).length ≤ 3 * ps.length ∧ (∀ c ∈ cat ps, c < 1114112 ∧ c ≠ 91) ∧ safe53 (cat ps) = true
  | [], _ => ⟨by simp [cat], by simp [cat], rfl⟩
  | p :: r, h => by
    obtain ⟨h1, h2, h3⟩ := pieces_good fun q hq => h q (List.mem_cons_of_mem _ hq)
    have hp := h p List.mem_cons_self
    have e : cat (p :: r) = p.cps.toList ++ cat r := rfl
    rw [e]
    refine ⟨?_, ?_, safe53_append (piece_safe hp) h3⟩
    · have := piece_len hp
      rw [List.length_append, List.length_cons]; omega
    · intro c hc
      rcases List.mem_append.mp hc with hc | hc
      · exact piece_all hp c hc
      · exact h2 c hc
theorem goodT_cat {ps : List Str} (h : ∀ p ∈ ps, Piece p) (hn : ps.length ≤ 8) : GoodT (cat ps) := by
  obtain ⟨h1, h2, h3⟩ := pieces_good h
  exact ⟨by omega, fun c hc => (h2 c hc).1, fun c hc => (h2 c hc).2, h3⟩
theorem piece_one {c : Nat} (h : c < 1114112) (h1 : c ≠ 91) (h2 : c ≠ 53) : Piece ⟨#[c]⟩ := by
  unfold Piece pieceB
  simp [safe53, h, h1, h2]
end Mine
end
section
open PySem PySem.W PyProof.Rows
theorem Mine.woff33 : True := by w_top off; trivial
namespace Mine
/-- the def at f makes a text that G tells of, of a list of ints of the base -/
def SaysT (prog : Program) (w : World) (f : Addr) (d u : Nat) (G : List Nat → Prop) : Prop :=
  ∀ (p : Program) (loose : List Str) (mean : ExcName → Option Value) (mg mb : Str → Option Value) (dp un : Nat) (gd : Option (List Code)) (cn : Str) (cs : Scope) (a : Addr) (ccd : Value) (cl : List (Str × Addr)) (outer : List Env) (A₀ : Around) (base h₀ : Heap) (L : Addr) (m : Str → Option Value) (news : List (Addr × Obj)) (s : Shared) (Q E : Value → Shared → Prop) (il : Addr) (vs : List Value) (ns : List Int),
    Below A₀ base outer h₀ → Fr h₀ L s.heap m → (hd.heap_39 w.params).In h₀ → News h₀ L s.heap news → Top p loose mean mg mb h₀ → cs.kind = .function →
    dp + d < recursionLimit → un + u < cLine → h₀.IsList il vs.toArray → IntsAre vs ns → vs.length ≤ 1000000 → (∀ (l : List Nat) (t : Tok) (h' : Heap) (tk' : Nat), G l → Fr h₀ L h' m → News h₀ L h' news → Q (.str (S l) t) { s with heap := h', toks := tk' }) →
    wpAny (model prog w) (ktrTop dp un gd cn cs L a ccd cl outer) (call (.ref f) [.ref il]) Q E s
/-- the 14 first texts that tempt -/
def temptA : List Str := [Str.ofString "=27", Str.ofString "'", Str.ofString "=2A", Str.ofString "*", Str.ofString "_", Str.ofString "=5F", Str.ofString "=3D", Str.ofString "=2d", Str.ofString "=E9", Str.ofString "=41", Str.ofString "=", Str.ofString "=2", Str.ofString "A", Str.ofString "1"]
def temptB : List Str := [Str.ofString "?", Str.ofString "=3f", Str.ofString " ", Str.ofString "-", Str.ofString "=2E", Str.ofString ".", Str.ofString "\\", Str.ofString "=5C", Str.ofString "=20", Str.ofString "\t", Str.ofString "=5D", Str.ofString "=C", Str.ofString "a7", ⟨#[Int.toNat 1636]⟩]
theorem ext_K {prog : Program} {w : World} {A : Around} {E : Value → Shared → Prop} {s : Shared} {h₀ : Heap} {L D b : Addr} {m : Str → Option Value} {news news' : List (Addr × Obj)} {us us2 : List Value} {ss ss2 : List Str} {n n2 : Nat} {Q : Value → Shared → Prop} (F : Fr h₀ L s.heap m) (N : News h₀ L s.heap news) (hb : (b, PySem.W.listOf us2.toArray n2) ∈ news) (h1 : StrsAre us ss) (h2 : StrsAre us2 ss2) (hz : ss.length ≤ 1000) (hz2 : ss2.length ≤ 1000) (hne : ss2.length ≠ 0)
    (U : Upd D (PySem.W.listOf us.toArray n) (PySem.W.listOf (us ++ us2).toArray (n + 1)) news news') (h : ∀ h', Fr h₀ L h' m → News h₀ L h' news' → Q .none { s with heap := h' }) : wpAny (model prog w) A (call (.builtin "list.extend") [.ref D, .ref b]) Q E s := by
  have e1 := h1.length
  have e2 := h2.length
  refine kl_extend F N hb rfl (by show us2.length ≠ 0; omega) U ?_ (by show us.length ≤ sizeLine; rw [PySem.sizeLine_eq]; omega) (by simp only [List.size_toArray, PySem.sizeLine_eq]; omega) h
  have ht : Builtin.List.listTooLong (us.toArray.size + us2.toArray.size) = false := by
    unfold Builtin.List.listTooLong; simp only [List.size_toArray, decide_eq_false_iff_not, PySem.sizeLine_eq]; omega
  rw [ht]; simp
theorem newList_strs {M : Model} {A : Around} {E : Value → Shared → Prop} {s : Shared} {h₀ : Heap} {L : Addr} {m : Str → Option Value} {news : List (Addr × Obj)} {vs : List Value} {ss : List Str} {Q : Value → Shared → Prop} (F : Fr h₀ L s.heap m) (N : News h₀ L s.heap news) (hW : StrsAre vs ss) (hz : ss.length ≤ 1000)
    (h : ∀ l h' us, StrsAre us ss → Fr h₀ L h' m → News h₀ L h' ((l, PySem.W.listOf us.toArray 0) :: news) → AllLt l news → Q (.ref l) { s with heap := h' }) : wpAny M A (newList vs) Q E s :=
  newList_A F N (fun l h' F' N' lt => h l h' vs hW F' N' lt) (by rw [hW.length, PySem.sizeLine_eq]; omega)
theorem callWith_list {M : Model} {A : Around} {E : Value → Shared → Prop} {s : Shared} {id : String} {first : List Value} {env : Env} {pos lp : Pos} {es : List PySem.Expr} {Q : Value → Shared → Prop}
    (h : wpAny M A (eval (.List es lp) env) (fun v s₁ => wpAny M A (call (.builtin id) (first ++ [v])) Q E s₁) E s) : wpAny M A (callWith pos (.builtin id) first (backTo pos (starEach [.List es lp] env)) []) Q E s := by
  show wpAny M A (callWith pos (.builtin id) first [(false, eval (.List es lp) env)] []) Q E s
  exact Calls.callWith_builtin rfl (Calls.evalArgs_plain (Calls.spliced_cons (wpAny_mono h (fun _ _ h₁ => Calls.spliced_nil h₁) fun _ _ e => e)))
theorem ints_at {us : List Value} {ss : List Int} (h : IntsAre us ss) : ∀ {i : Nat} {v : Value}, us[i]? = some v → ∃ y t, v = .int y t ∧ ss[i]? = some y := by
  induction h with
  | nil => intro i v e; simp at e
  | cons y t _ ih =>
    intro i v e
    cases i with
    | zero => exact ⟨y, t, by simpa using e.symm, rfl⟩
    | succ i => exact ih (by simpa using e)
theorem sub_tempt {prog : Program} {w : World} {A : Around} {E : Value → Shared → Prop} {s : Shared} {D : Addr} {us : List Value} {ss : List Str} {value slice : PySem.Expr} {Q : Value → Shared → Prop} {k : Int} {t : Tok} (hl : s.heap.IsList D us.toArray) (hs : StrsAre us ss) (hp : ∀ y ∈ ss, Piece y) (h0 : 0 ≤ k) (h1 : k < ss.length) (h2 : ss.length ≤ 1000) (h : ∀ y t', Piece y → Q (.str y t') s)
    (hsub : subscripted slice false (.ref D) (.int k t) = operate [.ref D, .int k t] (getItem (.ref D) (.int k t)) := by with_unfolding_all rfl) : wpAny (model prog w) A (subscriptTail value slice (.ref D) (.int k t)) Q E s := by
  have hlen := hs.length
  have hk : k.toNat < us.length := by omega
  obtain ⟨y, t', e, hy⟩ := strs_at hs (List.getElem?_eq_getElem hk)
  refine sub_at hl (v := us[k.toNat]) (List.getElem?_eq_getElem hk) h0 (by omega) ?_ hsub
  rw [e]
  exact h y t' (hp y (List.mem_of_getElem? hy))
theorem tempt_pieces : ∀ y ∈ temptA ++ temptB, Piece y := by
  have e : (temptA ++ temptB).all (fun y => pieceB y.cps.toList) = true := by decide +kernel
  intro y hy
  exact List.all_eq_true.mp e y hy
theorem lit_55 : (Str.ofString "[5").cps.toList = [91, 53] := by decide +kernel
theorem occ_55 {c : Nat} (h : (Builtin.Str.occurrences (Str.ofString "[5") ⟨#[c]⟩ 0 (Str.length (Str.ofString "[5")) 1).isEmpty = true) : c ≠ 91 ∧ c ≠ 53 := by
  have e : (!(Builtin.Str.occurrences (Str.ofString "[5") ⟨#[c]⟩ 0 (Str.length (Str.ofString "[5")) 1).isEmpty) = decide (c ∈ [91, 53]) := by
    rw [StrLaws.found_one, lit_55]
  rw [h] at e
  have e2 : ¬ c ∈ [91, 53] := of_decide_eq_false e.symm
  simpa using e2
section
variable {h₀ : Heap} {x : Str} {Facts : List Value × Nat → Prop} {stored : List Str} {m₀ : Str → Option Value} {P : List Int → List Value × Nat → Prop} {pre : List Int}
theorem end_push {pl : Addr} {tail own tl : List (Addr × Obj)} {q0 : Addr × Obj} {qs : List Value} {v : Value} {n : Nat} {L : Addr} {m' : Str → Option Value} {adr : List Addr} {s₁ : Shared} {h' : Heap} {tk : Nat}
    (F : Fr h₀ L h' m') (N : News h₀ L h' (q0 :: (pl, PySem.W.listOf (qs ++ [v]).toArray (n + 1)) :: tl)) (htl : tl = tail ++ own) (ha : (((pl, PySem.W.listOf (qs ++ [v]).toArray (n + 1)) :: tail).map (·.1)) = adr) (hf : Facts (qs ++ [v], n + 1)) (hr : ∀ z, z ≠ x → stored.contains z = false → m' z = m₀ z) (hp : P pre (qs ++ [v], n + 1)) :
    InvEndN h₀ L (KstS (fun c => (pl, PySem.W.listOf c.1.toArray c.2) :: tail) (fun _ => []) Facts x stored m₀ P pre) own adr s₁ { s₁ with heap := h', toks := tk } :=
  end0 (qs ++ [v], n + 1) F N rfl ha hf (fun p hp => .tail _ (by rw [htl]; exact List.mem_append_left own hp)) (fun p hp => .tail _ (.tail _ (by rw [htl]; exact List.mem_append_right _ hp))) hr hp
theorem end_stay {pl : Addr} {tail own tl : List (Addr × Obj)} {q0 : Addr × Obj} {qs : List Value} {n : Nat} {L : Addr} {m' : Str → Option Value} {adr : List Addr} {s₁ : Shared} {h' : Heap} {tk : Nat}
    (F : Fr h₀ L h' m') (N : News h₀ L h' (q0 :: (pl, PySem.W.listOf qs.toArray n) :: tl)) (htl : tl = tail ++ own) (ha : (((pl, PySem.W.listOf qs.toArray n) :: tail).map (·.1)) = adr) (hf : Facts (qs, n)) (hr : ∀ z, z ≠ x → stored.contains z = false → m' z = m₀ z) (hp : P pre (qs, n)) :
    InvEndN h₀ L (KstS (fun c => (pl, PySem.W.listOf c.1.toArray c.2) :: tail) (fun _ => []) Facts x stored m₀ P pre) own adr s₁ { s₁ with heap := h', toks := tk } :=
  end0 (qs, n) F N rfl ha hf (fun p hp => .tail _ (by rw [htl]; exact List.mem_append_left own hp)) (fun p hp => .tail _ (.tail _ (by rw [htl]; exact List.mem_append_right _ hp))) hr hp
end
theorem piece_P {qs : List Value} {ps : List Str} {y : Str} {t : Tok} {n : Nat} (h : StrsAre qs ps) (hl : ps.length ≤ n) (hp : ∀ p ∈ ps, Piece p) (hy : Piece y) : ∃ ps' : List Str, StrsAre (qs ++ [.str y t]) ps' ∧ ps'.length ≤ n + 1 ∧ ∀ p ∈ ps', Piece p :=
  ⟨ps ++ [y], h.append' (.cons _ _ .nil), by rw [List.length_append, List.length_singleton]; omega, fun p hp' => by
    rcases List.mem_append.mp hp' with h' | h'
    · exact hp p h'
    · rw [List.mem_singleton.mp h']; exact hy⟩
theorem piece_br : Piece (Str.ofString "]") := by unfold Piece; decide +kernel
theorem piece_chr {n : Int} (h0 : 161 ≤ n) (h1 : n < 10000) : Piece ⟨#[n.toNat]⟩ := piece_one (by omega) (by omega) (by omega)
theorem piece_sign {n : Int} (h0 : 33 ≤ n) (h1 : n < 200) (h : (Builtin.Str.occurrences (Str.ofString "[5") ⟨#[n.toNat]⟩ 0 (Str.length (Str.ofString "[5")) 1).isEmpty = true) : Piece ⟨#[n.toNat]⟩ :=
  piece_one (by omega) (occ_55 h).1 (occ_55 h).2
theorem lit3 {h₀ h : Heap} {L nl : Addr} {q : Addr × Obj} {a b c : Tok} {n : Nat} {r : List (Addr × Obj)} (_ : News h₀ L h (q :: (nl, PySem.W.listOf #[Value.int 0 a, Value.int 3 b, Value.int 4 c] n) :: r)) : IntsAre [Value.int 0 a, Value.int 3 b, Value.int 4 c] [0, 3, 4] := .cons _ _ (.cons _ _ (.cons _ _ .nil))
theorem in_two {a b z : Str} (h : ([a, b] : List Str).contains z = false) : z ≠ a ∧ z ≠ b := by simpa using h
def Pass0 : Prop := True
theorem pass0 : Pass0 := trivial
/-- behind the if: the numbers, made or written -/
def NumsPost (x : Str) (m0 : Str → Option Value) (h₀ : Heap) (L : Addr) (rest : List (Addr × Obj)) (s : Shared) (f : Flow) (s' : Shared) : Prop :=
  ∃ (a : Addr) (us : List Value) (ms : List Int) (n : Nat) (h' : Heap) (tk' : Nat), f = .next ∧ s' = { s with heap := h', toks := tk' } ∧ IntsAre us ms ∧ ms.length ≤ 63 ∧ (∀ y ∈ ms, 0 ≤ y ∧ y < 1000000) ∧ Fr h₀ L h' (fun y => if y = x then some (.ref a) else m0 y) ∧ News h₀ L h' ((a, PySem.W.listOf us.toArray n) :: rest)
theorem cut_nums {M : Model} {A : Around} {E : Value → Shared → Prop} {s : Shared} {T : Sem Flow} {Q : Flow → Shared → Prop} {h₀ : Heap} {L D : Addr} {x : Str} {m0 : Str → Option Value} {q : Addr × Obj} {rest : List (Addr × Obj)} (F : Fr h₀ L s.heap (fun y => if y = x then some (.ref D) else m0 y)) (N : News h₀ L s.heap (q :: rest))
    (h1 : Fr h₀ L s.heap (fun y => if y = x then some (.ref D) else m0 y) → News h₀ L s.heap (q :: rest) → wpAny M A T (NumsPost x m0 h₀ L rest s) E s)
    (h2 : ∀ (a : Addr) (us : List Value) (ms : List Int) (n : Nat) (h' : Heap) (tk' : Nat), IntsAre us ms → ms.length ≤ 63 → (∀ y ∈ ms, 0 ≤ y ∧ y < 1000000) → Fr h₀ L h' (fun y => if y = x then some (.ref a) else m0 y) → News h₀ L h' ((a, PySem.W.listOf us.toArray n) :: rest) → Q .next { s with heap := h', toks := tk' }) : wpAny M A T Q E s :=
  wpAny_mono (h1 F N) (fun v s' h => by obtain ⟨a, us, ms, n, h', tk', rfl, rfl, i1, i2, i3, F', N'⟩ := h; exact h2 a us ms n h' tk' i1 i2 i3 F' N') fun _ _ e => e
theorem nums_end1 {x : Str} {m0 : Str → Option Value} {v : Value} {h₀ h' : Heap} {L a : Addr} {rest l : List (Addr × Obj)} {s : Shared} {tk' n : Nat} {t0 t3 t4 : Tok} (F : Fr h₀ L h' (fun y => if y = x then some (.ref a) else if y = x then some v else m0 y)) (N : News h₀ L h' ((a, PySem.W.listOf #[Value.int 0 t0, Value.int 3 t3, Value.int 4 t4] n) :: l)) (hs : ∀ p ∈ rest, p ∈ l) :
    NumsPost x m0 h₀ L rest s .next { s with heap := h', toks := tk' } := by
  have e : (fun y => if y = x then some (Value.ref a) else if y = x then some v else m0 y) = fun y => if y = x then some (.ref a) else m0 y := by
    funext y
    by_cases h : y = x
    · rw [if_pos h, if_pos h]
    · rw [if_neg h, if_neg h, if_neg h]
  rw [e] at F
  exact ⟨a, [Value.int 0 t0, Value.int 3 t3, Value.int 4 t4], [0, 3, 4], n, h', tk', rfl, rfl, .cons _ _ (.cons _ _ (.cons _ _ .nil)), by decide, by decide, F, fun p hp => by
    rcases List.mem_cons.mp hp with rfl | hp
    · exact N _ (.head _)
    · exact N p (.tail _ (hs p hp))⟩
theorem nums_end2 {x : Str} {m0 : Str → Option Value} {h₀ h' : Heap} {L a : Addr} {rest l : List (Addr × Obj)} {us : List Value} {ms : List Int} {s : Shared} {tk' n : Nat} (i1 : IntsAre us ms) (i2 : ms.length ≤ 63) (i3 : ∀ y ∈ ms, 0 ≤ y ∧ y < 1000000) (F : Fr h₀ L h' (fun y => if y = x then some (.ref a) else m0 y)) (N : News h₀ L h' l) (hm : (a, PySem.W.listOf us.toArray n) ∈ l) (hs : ∀ p ∈ rest, p ∈ l) :
    NumsPost x m0 h₀ L rest s .next { s with heap := h', toks := tk' } :=
  ⟨a, us, ms, n, h', tk', rfl, rfl, i1, i2, i3, F, fun p hp => by
    rcases List.mem_cons.mp hp with rfl | hp
    · exact N _ hm
    · exact N p (hs p hp)⟩
local macro_rules | `(tactic| walk_at "exec If") => `(tactic| ((fail_if_success rename Pass0 => hPs); refine Hold.out ?_))
local macro_rules | `(tactic| walk_at "NumsPost") => `(tactic| (refine Hold.out ?_))
local macro_rules | `(tactic| walk_at "newList") => `(tactic| (k_here; (with_reducible show wpAny _ _ (newList [Value.str (Str.ofString "=27") _, _, _, _, _, _, _, _, _, _, _, _, _, _]) _ _ _); k_dflt (refine' newList_strs (ss := temptA) ?k1 ?k2 ?kw ?kz ?_; (case k1 => k_asm); (case k2 => k_asm); (case kw => (unfold temptA; repeat (first | exact .nil | refine .cons _ _ ?_))); (case kz => decide); k_whole); intro l' h' us' hW' F' N' l1; (try simp only [AllLt, and_true] at l1); (try k_sweep)))
local macro_rules | `(tactic| walk_at "newList") => `(tactic| (k_here; (with_reducible show wpAny _ _ (newList []) _ _ _); k_dflt (refine' newList_A ?k1 ?k2 ?_ ?kz; (case k1 => k_asm); (case k2 => k_asm); (case kz => first | exact Nat.zero_le _ | size_fits | (rw [PySem.sizeLine_eq]; decide)); k_whole); intro l' h' F' N' l1; (try simp only [AllLt, and_true] at l1); (try k_sweep)))
local macro_rules | `(tactic| walk_at "newList") => `(tactic| (k_here; (with_reducible show wpAny _ _ (newList [Value.str (Str.ofString "?") _, _, _, _, _, _, _, _, _, _, _, _, _, _]) _ _ _); k_dflt (refine' newList_strs (ss := temptB) ?k1 ?k2 ?kw ?kz ?_; (case k1 => k_asm); (case k2 => k_asm); (case kw => (unfold temptB; repeat (first | exact .nil | refine .cons _ _ ?_))); (case kz => decide); k_whole); intro l' h' us' hW' F' N' l1; (try simp only [AllLt, and_true] at l1); (try k_sweep)))
local macro_rules | `(tactic| walk_at "callWith builtin:list.extend") => `(tactic| (k_here; (try dsimp only); refine callWith_list ?_; (try dsimp only [List.cons_append, List.nil_append])))
local macro_rules | `(tactic| walk_at "call builtin:list.extend") => `(tactic| (k_here; k_dflt (refine' ext_K (ss := temptA) (ss2 := temptB) ?k1 ?k2 ?k3 ?k4 ?k5 ?k6 ?k7 ?k8 ?k9 ?_; (case k1 => k_asm); (case k2 => k_asm); (case k3 => k_mem); (case k4 => assumption); (case k5 => assumption); (case k6 => decide); (case k7 => decide); (case k8 => decide); (case k9 => k_upd); k_whole); intro h' F' N'; (try k_sweep)))
local macro_rules | `(tactic| walk_at "exec Assign cons ListComp") => `(tactic| (k_here; k_dflt (refine LCg.Assign_ListComp_U (F₀ := by k_asm) (by rfl) (by with_unfolding_all rfl) (by rfl) (by decide) (by rfl) (by decide) (by rfl) (by rfl) (by rfl) ?_)))
local macro_rules | `(tactic| walk_at "subscriptTail Name Slice ref ref") => `(tactic| ((with_reducible show wpAny _ _ (subscriptTail _ (PySem.Expr.Slice none _ none _) (Value.ref _) (Value.ref _)) _ _ _); (refine Hold.out ?_)))
local macro_rules | `(tactic| walk_at "call type:range") => `(tactic| (k_here; (rename Fr _ _ _ _ => rF'); (rename News _ _ _ _ => rN'); (with_unfolding_all refine range1_rows rF' rN' ?_; intro _ _ _ _ _ _ _ _ _)))
local macro_rules | `(tactic| walk_at "call builtin:len") => `(tactic| (k_here; (with_reducible show wpAny _ _ (call (Value.builtin "len") [Value.ref _]) _ _ _); k_dflt (refine' len_is ?kl ?kn ?kz ?_; (case kl => exact News.isList (by k_asm) (by k_mem)); (case kn => assumption); (case kz => omega); k_whole)))
local macro_rules | `(tactic| walk_at "subscriptTail") => `(tactic| (k_here; (try dsimp only); (with_reducible show wpAny _ _ (subscriptTail _ _ (Value.ref _) (Value.int _ _)) _ _ _); k_dflt (refine' sub_tempt (ss := temptA ++ temptB) ?kl ?kx tempt_pieces ?kj ?kz ?ky ?_ ?ks; (case kl => exact News.isList (by k_asm) (by k_mem)); (case kx => assumption); (case kj => omega); (case kz => (show _ < (28 : Int)); omega); (case ky => decide); (case ks => with_unfolding_all rfl); k_whole); intro y9 t9 hp9))
local macro_rules | `(tactic| walk_at "subscriptTail Name Slice ref ref") => `(tactic| (k_here; (with_reducible show wpAny _ _ (subscriptTail _ (PySem.Expr.Slice _ _ (some _) _) (Value.ref _) (Value.ref _)) _ _ _); k_dflt (refine' kmk_slice3_lit ?F ?N ?l ?p ?q ?k ?o ?e ?_ ?s ?t ?z; (case F => k_asm); (case N => k_asm); (case l => exact News.isList (by k_asm) (by k_mem)); (case p => exact IsPart.int _ _); (case q => exact IsPart.none); (case k => exact IsPart.int _ _); (case o => decide); (case e => exact rfl); (case s => with_unfolding_all rfl); (case t => (intro _; with_unfolding_all rfl)); (case z => (simp only [List.size_toArray, List.length_cons, List.length_nil, PySem.sizeLine_eq]; omega))); intro D' h' F' N' l1'; (have l1 := allLt_of l1'); (clear l1'); (simp only [AllLt, and_true] at l1)))
local macro_rules | `(tactic| walk_at "call builtin:str.join") => `(tactic| (k_here; k_dflt (refine' join_ys ?hl ?hi ?hr ?_; (case hl => exact News.isList (by k_asm) (by k_mem)); (case hi => assumption); (case hr => assumption); k_whole); intro t' k'))
set_option maxHeartbeats 4000000 in
theorem c_text (prog : Program) (w : World) : SaysT prog w 113 2 100 GoodT := by
  unfold SaysT; intro p loose mean mg mb dp un gd cn cs a ccd cl outer A₀ base h₀ L m news s Q E il vs ns B F X N T hk hd hu hIL hI hvl hret; refine wpAny_call ?_; (first | k_dflt cell_enter | fail "not entered")
  k_steps
  unfold Hold
  rename (Fr h₀ L _ _) => FG1
  have hIL2 := Fr.lst FG1 hIL
  clear hIL
  refine kmk_slice_ints (ns := ns) (vs := vs) (lo := none) (hi := some 63) (by assumption) (by assumption) (Fr.lst (by assumption) hIL2) IsPart.none (IsPart.int _ _) hI (kmk_upto hI (by decide)) rfl ?_ (by with_unfolding_all rfl) (by intro _; with_unfolding_all rfl) (by simp only [List.size_toArray, PySem.sizeLine_eq]; omega)
  intro D1 ws1 h1 F1 N1 lt1 hW1 hC1 hL1
  k_steps
  unfold Hold
  refine LCg.CompSrc.ledger rfl F1 N1 (.head _) (by have := hW1.length; have := List.length_take_le (Int.toNat 63) ns; rw [List.size_toArray, PySem.sizeLine_eq]; omega) ?_
  intro g
  refine rest_inv (fun i ys nw => nw = _ ∧ ∃ ms : List Int, IntsAre ys ms ∧ ms.length = i ∧ ∀ x ∈ ms, 0 ≤ x ∧ x < 1000000) ?_ ?_ _ 0 [] _ (Nat.zero_add _) ⟨rfl, [], .nil, rfl, List.forall_mem_nil _⟩
  · intro i ys nw hi hJ v I oI C oC D m₂ h tk E' hP hC hx F N o ne
    obtain ⟨rfl, ms, hms, hml, hmb⟩ := hJ
    obtain ⟨z0, t0, rfl, hz0⟩ := ints_at hW1 (by simpa using hP)
    k_steps
    unfold Hold
    refine LCg.CompEnd.intro (by assumption) (by assumption) _ (fun _ h => h) o (.inr ⟨_, .head _, rfl, _, rfl⟩) ⟨rfl, ms ++ [z0.fmod (10 ^ Int.toNat 6)], hms.append (.cons _ _ .nil), by rw [List.length_append, List.length_singleton, hml], ?_⟩
    intro y hy
    rcases List.mem_append.mp hy with hy | hy
    · exact hmb y hy
    · rw [List.mem_singleton.mp hy]
      have e : ((10 : Int) ^ Int.toNat 6) = 1000000 := by decide
      rw [e]
      exact ⟨Int.fmod_nonneg_of_pos _ (by decide), Int.fmod_lt_of_pos _ (by decide)⟩
  · intro ys nw hJ
    obtain ⟨rfl, ms, hms, hml, hmb⟩ := hJ
    have hm63 : ms.length ≤ 63 := by
      have := hW1.length; have := List.length_take_le (Int.toNat 63) ns
      rw [List.size_toArray] at hml; omega
    k_steps
    unfold Hold
    (rename Fr _ _ _ _ => Fa); (rename News _ _ _ _ => Na)
    refine cut_nums Fa Na ?_ ?_
    · clear Fa Na
      intro Fa Na
      have hps := pass0
      k_steps
      all_goals unfold Hold
      · exact nums_end1 (by assumption) (by assumption) (fun p hp => .tail _ (.tail _ hp))
      · exact nums_end2 hms hm63 hmb (by assumption) (by assumption) (.tail _ (.head _)) (fun p hp => .tail _ (.tail _ hp))
    · clear Fa Na hms hml hmb hm63
      intro nl ys2 ms nn h5 tk5 hms hm63 hmb F5 N5
      have hyl := hms.length
      have hps := pass0
      k_steps
      unfold Hold
      rename (IsRange _ _ _ _ _ _ _ _) => R9
      (rename Fr _ _ _ _ => F9); (rename News _ _ _ _ => N9)
      rename (_ < _ ∧ _ < _ ∧ _ < _ ∧ _ < _ ∧ AllLt _ news) => q9
      have hne9 := ne_of_news N9 q9
      refine' kst_range (σ := List Value × Nat) (fun c => (_, PySem.W.listOf c.1.toArray c.2) :: _) (fun c => []) (fun _ => True) [Str.ofString "number", Str.ofString "sign"] (fun pre c => ∃ ps : List Str, StrsAre c.1 ps ∧ ps.length ≤ pre.length ∧ ∀ p ∈ ps, Piece p) ([], 0) rfl R9 (small_one (by omega) (by omega) (by split <;> omega) (by split <;> omega)) (rangeSize_nat _ _) F9 N9 trivial ?hk9 ⟨[], .nil, Nat.le_refl _, List.forall_mem_nil _⟩ ?turn9 ?done9
      case hk9 => exact fun p h => nomatch h
      case turn9 =>
        intro c pre k tk1 u h tk own hk1 hlt hoff _ hP F3 N3
        obtain ⟨qs, qn⟩ := c
        dsimp only at hP N3 F3
        obtain ⟨ps, hps, hpl, hpp⟩ := hP
        simp only [List.cons_append] at N3
        obtain ⟨ws, hws, hwm⟩ := pick_ints hms (some k) none (some 8)
        have hsum := sum_nonneg ws fun x hx => (hmb x (hwm x hx)).1
        have hne := own_neA hoff (show AllLt _ _ from q9)
        simp only [List.cons_append] at hne
        have hqs : qs.length ≤ 100 := by rw [hps.length]; split at hlt <;> omega
        have htw : StrsAre (_ ++ _) (temptA ++ temptB) := StrsAre.append' (by assumption) (by assumption)
        have hfm0 : 0 ≤ ws.sum.fmod 32 := Int.fmod_nonneg_of_pos _ (by decide)
        have hf1 : 0 ≤ (ws.sum.fdiv 32).fmod 94 := Int.fmod_nonneg_of_pos _ (by decide)
        have hf2 : (ws.sum.fdiv 32).fmod 94 < 94 := Int.fmod_lt_of_pos _ (by decide)
        have hf3 : 0 ≤ (ws.sum.fdiv 32).fmod 8000 := Int.fmod_nonneg_of_pos _ (by decide)
        have hf4 : (ws.sum.fdiv 32).fmod 8000 < 8000 := Int.fmod_lt_of_pos _ (by decide)
        have lp : (pre ++ [k]).length = pre.length + 1 := by rw [List.length_append, List.length_singleton]
        k_steps
        all_goals (unfold Hold; (rename Fr _ _ _ _ => F0); (rename News _ _ _ _ => N0); (try simp only [List.push_toArray] at N0))
        · refine end_push F0 N0 rfl rfl trivial ?_ (by rw [lp]; exact piece_P hps hpl hpp (by assumption))
          intro z e1 e2; have n1 := in_two e2; simp [e1, n1.1, n1.2, kstB]
        · refine end_push F0 N0 rfl rfl trivial ?_ (by rw [lp]; exact piece_P hps hpl hpp (piece_sign (by omega) (by omega) (by assumption)))
          intro z e1 e2; have n1 := in_two e2; simp [e1, n1.1, n1.2, kstB]
        · refine end_push F0 N0 rfl rfl trivial ?_ (by rw [lp]; exact piece_P hps hpl hpp piece_br)
          intro z e1 e2; have n1 := in_two e2; simp [e1, n1.1, n1.2, kstB]
        · refine end_push F0 N0 rfl rfl trivial ?_ (by rw [lp]; exact piece_P hps hpl hpp (piece_chr (by omega) (by omega)))
          intro z e1 e2; have n1 := in_two e2; simp [e1, n1.1, n1.2, kstB]
        · refine end_stay F0 N0 rfl rfl trivial ?_ ⟨ps, hps, by rw [lp]; omega, hpp⟩
          intro z e1 e2; have n1 := in_two e2; simp [e1, n1.1, n1.2, kstB]
      case done9 =>
        intro c u h tk _ hP F3 N3
        obtain ⟨qs, qn⟩ := c
        dsimp only at hP N3 F3
        obtain ⟨ps, hps, hpl, hpp⟩ := hP
        rw [rangeKs_length] at hpl
        have hp8 : ps.length ≤ 8 := by split at hpl <;> omega
        have hpg := pieces_good hpp
        have hr9 : (cat ps).length ≤ 655360 := by omega
        k_steps
        exact hret (cat ps) _ _ _ (goodT_cat hpp hp8) (by assumption) (news_tail (news_tail (news_tail (news_tail (news_tail (by assumption))))))
end Mine
end
section
open PySem PySem.W PyProof.Rows
namespace Mine
/-- the law's reading of a text -/
def dec (l : List Nat) : List Nat := unesc (l.map usp)
/-- the octets that stand escaped in a text -/
def octl : List Nat → List Nat
  | a :: b :: c :: r => (if a = 61 ∧ 0 ≤ fig b ∧ 0 ≤ fig c then [octet b c] else []) ++ octl (b :: c :: r)
  | _ => []
theorem tok_ind {P : List Nat → Prop} (h0 : P []) (h1 : ∀ b c r, 0 ≤ fig b → 0 ≤ fig c → P r → P (61 :: b :: c :: r)) (h2 : ∀ a r, ¬ hitL (a :: r) 0 → P r → P (a :: r)) : ∀ l, P l := by
  have key : ∀ n l, l.length ≤ n → P l := by
    intro n
    induction n with
    | zero => intro l hl; have : l = [] := List.length_eq_zero_iff.mp (by omega); subst this; exact h0
    | succ n ih =>
      intro l hl
      match l with
      | [] => exact h0
      | a :: r =>
        by_cases h : hitL (a :: r) 0
        · have hl3 := hitL_len h
          match r, hl3, h, hl with
          | b :: c :: r, _, h, hl =>
            have h' : a = 61 ∧ 0 ≤ fig b ∧ 0 ≤ fig c := h
            obtain ⟨rfl, hb, hc⟩ := h'
            exact h1 b c r hb hc (ih r (by simp at hl; omega))
        · exact h2 a r h (ih r (by simp at hl; omega))
  exact fun l => key l.length l (Nat.le_refl _)
theorem hex61 {c : Nat} (h : 0 ≤ fig c) : c ≠ 61 := fun e => by subst e; exact absurd h (by decide)
theorem dec_nil : dec [] = [] := by unfold dec; exact unesc_nil
theorem hit_map (a : Nat) (r : List Nat) : hitL (usp a :: r.map usp) 0 ↔ hitL (a :: r) 0 := hitL_usp (a :: r) 0
theorem dec_hit {b c : Nat} {r : List Nat} (hb : 0 ≤ fig b) (hc : 0 ≤ fig c) : dec (61 :: b :: c :: r) = octet b c :: dec r := by
  unfold dec
  simp only [List.map_cons]
  rw [hex_usp hb, hex_usp hc]
  exact unesc_hit (by exact ⟨rfl, hb, hc⟩)
theorem dec_skip {a : Nat} {r : List Nat} (h : ¬ hitL (a :: r) 0) : dec (a :: r) = usp a :: dec r := by
  unfold dec
  rw [List.map_cons, unesc_skip (fun q => h ((hit_map a r).mp q))]
theorem octl_skip : ∀ {a : Nat} {r : List Nat}, ¬ hitL (a :: r) 0 → octl (a :: r) = octl r
  | _, [], _ => rfl
  | _, [_], _ => rfl
  | a, b :: c :: r, h => by
    have h' : ¬ (a = 61 ∧ 0 ≤ fig b ∧ 0 ≤ fig c) := h
    rw [octl, if_neg h', List.nil_append]
theorem octl_no61 {a : Nat} {r : List Nat} (h : a ≠ 61) : octl (a :: r) = octl r := octl_skip fun q => h q.1
theorem octl_hit {b c : Nat} {r : List Nat} (hb : 0 ≤ fig b) (hc : 0 ≤ fig c) : octl (61 :: b :: c :: r) = octet b c :: octl r := by
  rw [octl, if_pos ⟨rfl, hb, hc⟩, octl_no61 (hex61 hb), octl_no61 (hex61 hc)]; rfl
/-- a sign that no escape holds -/
abbrev bar (s : Nat) : Prop := s ≠ 61 ∧ fig s < 0
theorem hit_bar : ∀ {a : Nat} {r b : List Nat} {s : Nat}, fig s < 0 → hitL (a :: (r ++ s :: b)) 0 → hitL (a :: r) 0
  | _, [], _, _, hs, h => absurd h.2.1 (by show ¬ 0 ≤ fig _; exact Int.not_le.mpr hs)
  | _, [_], _, _, hs, h => absurd h.2.2 (by show ¬ 0 ≤ fig _; exact Int.not_le.mpr hs)
  | _, _ :: _ :: _, _, _, _, h => h
theorem no_hit61 {a : Nat} {r : List Nat} (h : a ≠ 61) : ¬ hitL (a :: r) 0 := fun q => h q.1
theorem dec_bar {s : Nat} (hs : bar s) (b : List Nat) : ∀ a, dec (a ++ s :: b) = dec a ++ usp s :: dec b := by
  refine tok_ind ?_ ?_ ?_
  · rw [dec_nil]; exact dec_skip (no_hit61 hs.1)
  · intro x y r hx hy ih
    rw [dec_hit hx hy]
    show dec (61 :: x :: y :: (r ++ s :: b)) = _
    rw [dec_hit hx hy, ih]; rfl
  · intro a r h ih
    rw [dec_skip h]
    show dec (a :: (r ++ s :: b)) = _
    rw [dec_skip (fun q => h (hit_bar hs.2 q)), ih]; rfl
theorem octl_bar {s : Nat} (hs : bar s) (b : List Nat) : ∀ a, octl (a ++ s :: b) = octl a ++ octl b := by
  refine tok_ind ?_ ?_ ?_
  · exact octl_no61 hs.1
  · intro x y r hx hy ih
    rw [octl_hit hx hy]
    show octl (61 :: x :: y :: (r ++ s :: b)) = _
    rw [octl_hit hx hy, ih]; rfl
  · intro a r h ih
    rw [octl_skip h]
    show octl (a :: (r ++ s :: b)) = _
    rw [octl_skip (fun q => h (hit_bar hs.2 q)), ih]
theorem dec_pre : ∀ {m : List Nat} (_ : ∀ s ∈ m, bar s) (b : List Nat), dec (m ++ b) = m.map usp ++ dec b
  | [], _, _ => rfl
  | s :: m, h, b => by
    show dec (s :: (m ++ b)) = _
    rw [dec_skip (no_hit61 (h s (.head _)).1), dec_pre (fun x hx => h x (.tail _ hx)) b]; rfl
theorem octl_pre : ∀ {m : List Nat} (_ : ∀ s ∈ m, bar s) (b : List Nat), octl (m ++ b) = octl b
  | [], _, _ => rfl
  | s :: m, h, b => by
    show octl (s :: (m ++ b)) = _
    rw [octl_no61 (h s (.head _)).1, octl_pre (fun x hx => h x (.tail _ hx)) b]
/-- barrier signs between -/
theorem dec_mid {s : Nat} {m : List Nat} (h : ∀ x ∈ s :: m, bar x) (a b : List Nat) : dec (a ++ (s :: m) ++ b) = dec a ++ (s :: m).map usp ++ dec b := by
  rw [List.append_assoc]
  show dec (a ++ s :: (m ++ b)) = _
  rw [dec_bar (h s (.head _)), dec_pre (fun x hx => h x (.tail _ hx))]
  simp
theorem octl_mid {s : Nat} {m : List Nat} (h : ∀ x ∈ s :: m, bar x) (a b : List Nat) : octl (a ++ (s :: m) ++ b) = octl a ++ octl b := by
  rw [List.append_assoc]
  show octl (a ++ s :: (m ++ b)) = _
  rw [octl_bar (h s (.head _)), octl_pre (fun x hx => h x (.tail _ hx))]
/-- signs weighed and added up -/
def wt (f : Nat → Int) (l : List Nat) : Int := (l.map f).sum
theorem wt_nil (f : Nat → Int) : wt f [] = 0 := rfl
theorem wt_cons (f : Nat → Int) (a : Nat) (l : List Nat) : wt f (a :: l) = f a + wt f l := by unfold wt; rw [List.map_cons, List.sum_cons]
theorem wt_app (f : Nat → Int) : ∀ a b : List Nat, wt f (a ++ b) = wt f a + wt f b
  | [], b => by rw [wt_nil]; simp
  | x :: a, b => by rw [List.cons_append, wt_cons, wt_cons, wt_app f a b]; omega
theorem wt_nonneg {f : Nat → Int} (h : ∀ c, 0 ≤ f c) : ∀ l, 0 ≤ wt f l
  | [] => by rw [wt_nil]; omega
  | a :: l => by have := h a; have := wt_nonneg h l; rw [wt_cons]; omega
theorem wt_zero {f : Nat → Int} (h : ∀ c, 0 ≤ f c) : ∀ {l}, wt f l = 0 → ∀ c ∈ l, f c = 0
  | a :: l, e, c, hc => by
    have h1 := h a; have h2 := wt_nonneg h l; rw [wt_cons] at e
    rcases List.mem_cons.mp hc with rfl | hc
    · omega
    · exact wt_zero h (by omega) c hc
theorem wt_all {f : Nat → Int} : ∀ {l}, (∀ c ∈ l, f c = 0) → wt f l = 0
  | [], _ => wt_nil f
  | a :: l, h => by rw [wt_cons, h a (.head _), wt_all fun c hc => h c (.tail _ hc)]; rfl
theorem wt_congr {f g : Nat → Int} : ∀ {l}, (∀ c ∈ l, f c = g c) → wt f l = wt g l
  | [], _ => rfl
  | a :: l, h => by rw [wt_cons, wt_cons, h a (.head _), wt_congr fun c hc => h c (.tail _ hc)]
theorem wt_add (f g : Nat → Int) : ∀ l, wt (fun c => f c + g c) l = wt f l + wt g l
  | [] => rfl
  | a :: l => by rw [wt_cons, wt_cons, wt_cons, wt_add f g l]; omega
/-- a weight that tells no escape's signs -/
def flat (f : Nat → Int) : Prop := f 61 = 0 ∧ ∀ c, 0 ≤ fig c → f c = 0
theorem usp_bar {a : Nat} (h : a ≠ 95) : usp a = a := if_neg h
theorem wt_dec {f : Nat → Int} (hf : flat f) : ∀ l, wt f (dec l) = wt (fun c => f (usp c)) l + wt f (octl l) := by
  refine tok_ind ?_ ?_ ?_
  · rw [dec_nil]; rfl
  · intro b c r hb hc ih
    rw [dec_hit hb hc, octl_hit hb hc]
    simp only [wt_cons]
    rw [ih, hex_usp hb, hex_usp hc, usp_bar (by decide), hf.1, hf.2 b hb, hf.2 c hc]
    omega
  · intro a r h ih
    rw [dec_skip h, octl_skip h]
    simp only [wt_cons]
    rw [ih]; omega
theorem any_dec {p : Nat → Bool} (h61 : p 61 = false) (hx : ∀ c, 0 ≤ fig c → p c = false) : ∀ l, (dec l).any p = (l.any (fun c => p (usp c)) || (octl l).any p) := by
  refine tok_ind ?_ ?_ ?_
  · rw [dec_nil]; rfl
  · intro b c r hb hc ih
    rw [dec_hit hb hc, octl_hit hb hc]
    simp only [List.any_cons]
    rw [ih, hex_usp hb, hex_usp hc, usp_bar (by decide), h61, hx b hb, hx c hc]
    simp only [Bool.false_or]
    cases p (octet b c) <;> simp
  · intro a r h ih
    rw [dec_skip h, octl_skip h]
    simp only [List.any_cons]
    rw [ih, Bool.or_assoc]
/-- a sign-wise rewriting that leaves escapes alone -/
def Nice (e : Nat → List Nat) : Prop := ∀ c, e c = [c] ∨ (bar c ∧ e c ≠ [] ∧ ∀ d ∈ e c, bar d)
theorem nice_61 {e : Nat → List Nat} (he : Nice e) : e 61 = [61] := by
  rcases he 61 with h | h
  · exact h
  · exact absurd rfl h.1.1
theorem nice_hex {e : Nat → List Nat} (he : Nice e) {c : Nat} (h : 0 ≤ fig c) : e c = [c] := by
  rcases he c with q | q
  · exact q
  · exact absurd h (Int.not_le.mpr q.1.2)
theorem nice_head {e : Nat → List Nat} (he : Nice e) : ∀ {r : List Nat}, 0 ≤ fig ((r.flatMap e).getD 0 0) → ∃ x r', r = x :: r' ∧ e x = [x] ∧ 0 ≤ fig x
  | [], h => absurd h (by rw [List.flatMap_nil]; decide)
  | x :: r, h => by
    rw [List.flatMap_cons] at h
    rcases he x with q | q
    · rw [q] at h; exact ⟨x, r, rfl, q, h⟩
    · obtain ⟨_, hn, hd⟩ := q
      cases hx : e x with
      | nil => exact absurd hx hn
      | cons d t =>
        rw [hx] at h hd
        have := (hd d (.head _)).2
        have h' : 0 ≤ fig d := h
        omega
theorem hit_flat {e : Nat → List Nat} (he : Nice e) {a : Nat} {r : List Nat} (h : hitL (a :: r.flatMap e) 0) : hitL (a :: r) 0 := by
  obtain ⟨h1, h2, h3⟩ := h
  obtain ⟨x, r1, rfl, ex, hx⟩ := nice_head he (r := r) h2
  rw [List.flatMap_cons, ex] at h3
  obtain ⟨y, r2, rfl, ey, hy⟩ := nice_head he (r := r1) h3
  exact ⟨h1, hx, hy⟩
theorem octl_flat {e : Nat → List Nat} (he : Nice e) : ∀ l, octl (l.flatMap e) = octl l := by
  refine tok_ind rfl ?_ ?_
  · intro b c r hb hc ih
    simp only [List.flatMap_cons]
    rw [nice_61 he, nice_hex he hb, nice_hex he hc, octl_hit hb hc]
    show octl (61 :: b :: c :: r.flatMap e) = _
    rw [octl_hit hb hc, ih]
  · intro a r h ih
    rw [List.flatMap_cons, octl_skip h]
    rcases he a with q | q
    · rw [q]
      show octl (a :: r.flatMap e) = _
      rw [octl_skip (fun t => h (hit_flat he t)), ih]
    · rw [octl_pre q.2.2, ih]
theorem dec_flat {e : Nat → List Nat} (he : Nice e) : ∀ l, (∀ a ∈ l, e (usp a) = (e a).map usp) → (∀ o ∈ octl l, e o = [o]) → dec (l.flatMap e) = (dec l).flatMap e := by
  refine tok_ind (fun _ _ => by rw [List.flatMap_nil, dec_nil]; rfl) ?_ ?_
  · intro b c r hb hc ih hu ho
    rw [octl_hit hb hc] at ho
    simp only [List.flatMap_cons]
    rw [nice_61 he, nice_hex he hb, nice_hex he hc, dec_hit hb hc, List.flatMap_cons, ho _ (.head _), ← ih (fun a ha => hu a (.tail _ (.tail _ (.tail _ ha)))) (fun o h => ho o (.tail _ h))]
    show dec (61 :: b :: c :: r.flatMap e) = _
    rw [dec_hit hb hc]; rfl
  · intro a r h ih hu ho
    rw [octl_skip h] at ho
    rw [List.flatMap_cons, dec_skip h, List.flatMap_cons, hu a (.head _), ← ih (fun a ha => hu a (.tail _ ha)) ho]
    rcases he a with q | q
    · rw [q]
      show dec (a :: r.flatMap e) = _
      rw [dec_skip (fun t => h (hit_flat he t))]; rfl
    · rw [dec_pre q.2.2]
end Mine
end
section
open PySem PySem.W PyProof.Rows
namespace Mine
/-- the runs between the stars, stars side by side taken as one -/
def segs : List Nat → List (List Nat)
  | [] => [[]]
  | c :: r => if c = 42 then (if r.head? = some 42 then segs r else [] :: segs r) else (c :: (segs r).headD []) :: (segs r).tail
theorem segs_cons {l : List Nat} : ∃ h t, segs l = h :: t := by
  cases l with
  | nil => exact ⟨_, _, rfl⟩
  | cons c r =>
    unfold segs
    split
    · split
      · exact segs_cons
      · exact ⟨_, _, rfl⟩
    · exact ⟨_, _, rfl⟩
theorem segs_c {c : Nat} {r h : List Nat} {t : List (List Nat)} (hc : c ≠ 42) (e : segs r = h :: t) : segs (c :: r) = (c :: h) :: t := by
  rw [segs, if_neg hc, e]; rfl
theorem segs_s {r : List Nat} (h : r.head? ≠ some 42) : segs (42 :: r) = [] :: segs r := by
  rw [segs, if_pos rfl, if_neg h]
theorem segs_t {r : List Nat} (h : r.head? = some 42) : segs (42 :: r) = segs r := by
  rw [segs, if_pos rfl, if_pos h]
theorem head_snoc {x : Nat} {r : List Nat} {c : Nat} : ((x :: r) ++ [c]).head? = (x :: r).head? := rfl
theorem segs_again : ∀ {l : List Nat}, l.getLast? = some 42 → segs (l ++ [42]) = segs l
  | [x], h => by
    have : x = 42 := by simpa using h
    subst this; exact segs_t rfl
  | x :: y :: r, h => by
    have ih := segs_again (l := y :: r) (by simpa using h)
    by_cases hx : x = 42
    · subst hx
      by_cases hy : y = 42
      · subst hy
        show segs (42 :: ((42 :: r) ++ [42])) = _
        rw [segs_t rfl, segs_t rfl, ih]
      · have hn : (y :: r).head? ≠ some 42 := by simpa using hy
        show segs (42 :: ((y :: r) ++ [42])) = _
        rw [segs_s hn, segs_s (by simpa using hy), ih]
    · obtain ⟨h, t, e⟩ := segs_cons (l := y :: r)
      show segs (x :: ((y :: r) ++ [42])) = _
      rw [segs_c hx e, segs_c hx (ih.trans e)]
theorem segs_new : ∀ {l : List Nat}, l.getLast? ≠ some 42 → segs (l ++ [42]) = segs l ++ [[]]
  | [], _ => by simp [segs]
  | [x], h => by
    have : x ≠ 42 := by simpa using h
    simp [segs, this]
  | x :: y :: r, h => by
    have ih := segs_new (l := y :: r) (by simpa using h)
    by_cases hx : x = 42
    · subst hx
      by_cases hy : y = 42
      · subst hy
        show segs (42 :: ((42 :: r) ++ [42])) = _
        rw [segs_t rfl, segs_t rfl, ih]
      · have hn : (y :: r).head? ≠ some 42 := by simpa using hy
        show segs (42 :: ((y :: r) ++ [42])) = _
        rw [segs_s hn, segs_s (by simpa using hy), ih]; rfl
    · obtain ⟨h, t, e⟩ := segs_cons (l := y :: r)
      show segs (x :: ((y :: r) ++ [42])) = _
      rw [segs_c hx e, segs_c hx (ih.trans (by rw [e]; rfl))]; rfl
theorem segs_put {c : Nat} (hc : c ≠ 42) : ∀ {l : List Nat} {i : List (List Nat)} {a : List Nat}, segs l = i ++ [a] → segs (l ++ [c]) = i ++ [a ++ [c]]
  | [], i, a, h => by
    have h' : i = [] ∧ a = [] := by
      cases i with
      | nil => simp [segs] at h; exact ⟨rfl, h⟩
      | cons b i => simp [segs] at h
    rw [h'.1, h'.2]; simp [segs, hc]
  | x :: r, i, a, h => by
    by_cases hx : x = 42
    · subst hx
      by_cases hr : r.head? = some 42
      · rw [segs_t hr] at h
        cases r with
        | nil => cases hr
        | cons y r =>
          show segs (42 :: ((y :: r) ++ [c])) = _
          have hr' : ((y :: r) ++ [c]).head? = some 42 := hr
          rw [segs_t hr', segs_put hc h]
      · rw [segs_s hr] at h
        have hr2 : (r ++ [c]).head? ≠ some 42 := by
          cases r with
          | nil => simpa using hc
          | cons y r => exact hr
        obtain ⟨i', rfl, hi⟩ : ∃ i', i = [] :: i' ∧ segs r = i' ++ [a] := by
          cases i with
          | nil =>
            obtain ⟨h', t', e⟩ := segs_cons (l := r)
            rw [e] at h; simp at h
          | cons b i => simp only [List.cons_append, List.cons.injEq] at h; exact ⟨i, by rw [h.1], h.2⟩
        show segs (42 :: (r ++ [c])) = _
        rw [segs_s hr2, segs_put hc hi]; rfl
    · obtain ⟨h', t', e⟩ := segs_cons (l := r)
      rw [segs_c hx e] at h
      show segs (x :: (r ++ [c])) = _
      cases i with
      | nil =>
        simp only [List.nil_append, List.cons.injEq] at h
        have ih := segs_put hc (l := r) (i := []) (a := h') (by rw [e, h.2]; rfl)
        rw [segs_c hx ih, ← h.1]; rfl
      | cons b i =>
        simp only [List.cons_append, List.cons.injEq] at h
        have ih := segs_put hc (l := r) (i := h' :: i) (a := a) (by rw [e, h.2]; rfl)
        rw [segs_c hx ih, ← h.1]; rfl
theorem segs_pre : ∀ {r h : List Nat} {t : List (List Nat)}, segs r = h :: t → ∃ m, r = h ++ m
  | [], h, t, e => by simp [segs] at e; obtain ⟨rfl, _⟩ := e; exact ⟨[], rfl⟩
  | x :: r, h, t, e => by
    by_cases hx : x = 42
    · subst hx
      by_cases hr : r.head? = some 42
      · rw [segs_t hr] at e
        obtain ⟨m, hm⟩ := segs_pre e
        cases h with
        | nil => exact ⟨_, rfl⟩
        | cons y h =>
          exfalso
          have : y = 42 := by rw [hm] at hr; simpa using hr
          subst this
          exact segs_head e
      · rw [segs_s hr] at e
        simp only [List.cons.injEq] at e
        exact ⟨42 :: r, by rw [← e.1]; rfl⟩
    · obtain ⟨h', t', e'⟩ := segs_cons (l := r)
      rw [segs_c hx e'] at e
      simp only [List.cons.injEq] at e
      obtain ⟨m, hm⟩ := segs_pre e'
      exact ⟨m, by rw [← e.1, hm]; rfl⟩
where segs_head : ∀ {r h : List Nat} {t : List (List Nat)}, segs r = (42 :: h) :: t → False
  | [], h, t, e => by simp [segs] at e
  | x :: r, h, t, e => by
    by_cases hx : x = 42
    · subst hx
      by_cases hr : r.head? = some 42
      · rw [segs_t hr] at e
        exact segs_head e
      · rw [segs_s hr] at e; simp at e
    · obtain ⟨h', t', e'⟩ := segs_cons (l := r)
      rw [segs_c hx e'] at e
      simp only [List.cons.injEq] at e
      exact hx e.1.1
theorem hit_grow : ∀ {a : Nat} {h m : List Nat}, hitL (a :: h) 0 → hitL (a :: (h ++ m)) 0
  | _, [], _, q => absurd q.2.1 (by show ¬ 0 ≤ fig 0; decide)
  | _, [_], _, q => absurd q.2.2 (by show ¬ 0 ≤ fig 0; decide)
  | _, _ :: _ :: _, _, q => q
theorem hex42 {c : Nat} (h : 0 ≤ fig c) : c ≠ 42 := fun e => by subst e; exact absurd h (by decide)
theorem octl_segs : ∀ l, octl l = (segs l).flatMap octl := by
  refine tok_ind rfl ?_ ?_
  · intro b c r hb hc ih
    obtain ⟨h, t, e⟩ := segs_cons (l := r)
    rw [segs_c (by decide) (segs_c (hex42 hb) (segs_c (hex42 hc) e)), octl_hit hb hc, ih, e]
    simp only [List.flatMap_cons]
    rw [octl_hit hb hc]; rfl
  · intro a r h ih
    rw [octl_skip h, ih]
    by_cases ha : a = 42
    · subst ha
      by_cases hr : r.head? = some 42
      · rw [segs_t hr]
      · rw [segs_s hr]; rfl
    · obtain ⟨h', t, e⟩ := segs_cons (l := r)
      obtain ⟨m, hm⟩ := segs_pre e
      rw [segs_c ha e, e]
      simp only [List.flatMap_cons]
      rw [octl_skip (fun q => h (by rw [hm]; exact hit_grow q))]
theorem wt_segs {f : Nat → Int} (h42 : f 42 = 0) : ∀ l, wt f l = wt f (segs l).flatten
  | [] => rfl
  | a :: r => by
    have ih := wt_segs h42 r
    rw [wt_cons, ih]
    by_cases ha : a = 42
    · subst ha
      rw [h42]
      by_cases hr : r.head? = some 42
      · rw [segs_t hr]; omega
      · rw [segs_s hr]; simp
    · obtain ⟨h', t, e⟩ := segs_cons (l := r)
      rw [segs_c ha e, e]
      simp only [List.flatten_cons, List.cons_append, wt_cons]
theorem mem_segs : ∀ {l r : List Nat} {c : Nat}, r ∈ segs l → c ∈ r → c ∈ l
  | [], r, c, h, hc => by simp [segs] at h; subst h; cases hc
  | a :: l, r, c, h, hc => by
    by_cases ha : a = 42
    · subst ha
      by_cases hr : l.head? = some 42
      · rw [segs_t hr] at h; exact .tail _ (mem_segs h hc)
      · rw [segs_s hr] at h
        rcases List.mem_cons.mp h with e | h
        · subst e; cases hc
        · exact .tail _ (mem_segs h hc)
    · obtain ⟨h', t, e⟩ := segs_cons (l := l)
      rw [segs_c ha e] at h
      rcases List.mem_cons.mp h with e2 | h
      · subst e2
        rcases List.mem_cons.mp hc with rfl | hc
        · exact .head _
        · exact .tail _ (mem_segs (r := h') (by rw [e]; exact .head _) hc)
      · exact .tail _ (mem_segs (r := r) (by rw [e]; exact .tail _ h) hc)
theorem usp_42 (c : Nat) : usp c = 42 ↔ c = 42 := by unfold usp; split <;> omega
theorem dec_head : ∀ (r : List Nat), 42 ∉ octl r → ((dec r).head? = some 42 ↔ r.head? = some 42) := by
  refine tok_ind ?_ ?_ ?_
  · intro _; rw [dec_nil]
  · intro b c r hb hc _ ho
    rw [octl_hit hb hc] at ho
    rw [dec_hit hb hc]
    simp only [List.head?_cons, Option.some.injEq]
    constructor
    · intro e; exact absurd (by rw [e]; exact .head _) ho
    · intro e; exact absurd e (by decide)
  · intro a r h _ _
    rw [dec_skip h]
    simp only [List.head?_cons, Option.some.injEq]
    exact usp_42 a
theorem segs_dec : ∀ l, 42 ∉ octl l → segs (dec l) = (segs l).map dec := by
  refine tok_ind ?_ ?_ ?_
  · intro _; rw [dec_nil]; simp [segs, dec_nil]
  · intro b c r hb hc ih ho
    rw [octl_hit hb hc] at ho
    have ho' : octet b c ≠ 42 := fun e => ho (by rw [e]; exact .head _)
    obtain ⟨h, t, e⟩ := segs_cons (l := r)
    have ih' := ih (fun q => ho (.tail _ q))
    rw [e, List.map_cons] at ih'
    rw [dec_hit hb hc, segs_c ho' ih', segs_c (by decide) (segs_c (hex42 hb) (segs_c (hex42 hc) e)), List.map_cons, dec_hit hb hc]
  · intro a r h ih ho
    rw [octl_skip h] at ho
    have ih' := ih ho
    rw [dec_skip h]
    by_cases ha : a = 42
    · subst ha
      have hd := dec_head r ho
      show segs (42 :: dec r) = _
      by_cases hr : r.head? = some 42
      · rw [segs_t (hd.mpr hr), segs_t hr, ih']
      · rw [segs_s (fun q => hr (hd.mp q)), segs_s hr, ih', List.map_cons, dec_nil]
    · obtain ⟨h', t, e⟩ := segs_cons (l := r)
      obtain ⟨m, hm⟩ := segs_pre e
      rw [e, List.map_cons] at ih'
      rw [segs_c (fun q => ha ((usp_42 a).mp q)) ih', segs_c ha e, List.map_cons, dec_skip (fun q => h (by rw [hm]; exact hit_grow q))]
end Mine
end
section
open PySem PySem.W PyProof.Rows
namespace Mine
/-- what a pattern says for one sign that is no star -/
def escE (c : Nat) : List Nat := if c = 63 then [46] else esc c
theorem hex_lt {c : Nat} (h : 0 ≤ fig c) : c < 128 := by unfold fig at h; split at h <;> (try split at h) <;> (try split at h) <;> omega
theorem hex_plain {c : Nat} (h : 0 ≤ fig c) : special c = false := by
  have e : ∀ c : Fin 128, 0 ≤ fig c.val → special c.val = false := by decide +kernel
  exact e ⟨c, hex_lt h⟩ h
theorem hex_safe {c : Nat} (h : 0 ≤ fig c) : must c = false := by
  have e : ∀ c : Fin 128, 0 ≤ fig c.val → must c.val = false := by decide +kernel
  exact e ⟨c, hex_lt h⟩ h
theorem special_bar {c : Nat} (h : special c = true) : bar c := by
  refine ⟨fun e => by subst e; exact absurd h (by decide), ?_⟩
  rw [← Int.not_le]
  intro q; rw [hex_plain q] at h; cases h
theorem escE_q : escE 63 = [46] := rfl
theorem escE_s {c : Nat} (h : special c = true) (h2 : c ≠ 63) : escE c = [92, c] := by unfold escE esc; rw [if_neg h2, if_pos h]
theorem escE_p {c : Nat} (h : special c = false) : escE c = [c] := by
  have h2 : c ≠ 63 := fun e => by subst e; exact absurd h (by decide)
  unfold escE esc; rw [if_neg h2, if_neg (by rw [h]; decide)]
theorem nice_escE : Nice escE := fun c => by
  by_cases h : c = 63
  · subst h; exact .inr (by decide)
  · cases hs : special c with
    | false => exact .inl (escE_p hs)
    | true =>
      have hb := special_bar hs
      rw [escE_s hs h]
      refine .inr ⟨hb, by simp, fun d hd => ?_⟩
      simp only [List.mem_cons, List.not_mem_nil, or_false] at hd
      rcases hd with rfl | rfl
      · decide
      · exact hb
theorem take_snoc {l : List Nat} {n : Nat} (h : n < l.length) : l.take (n + 1) = l.take n ++ [l.getD n 0] := by
  rw [List.take_add_one, List.getD_eq_getElem?_getD, List.getElem?_eq_getElem h]; rfl
theorem last_take {l : List Nat} {n : Nat} (h : n ≤ l.length) : (l.take n).getLast? = some 42 ↔ (n ≠ 0 ∧ l.getD (n - 1) 0 = 42) := by
  cases n with
  | zero => simp
  | succ n =>
    rw [take_snoc (by omega), List.getLast?_append]
    simp
theorem prun_segs (l : List Nat) : ∀ n, n ≤ l.length → (prun l n).1 ++ [(prun l n).2] = (segs (l.take n)).map (fun r => r.flatMap escE)
  | 0, _ => by simp [prun, segs]
  | n + 1, hn => by
    have ih := prun_segs l n (by omega)
    have hl := last_take (l := l) (n := n) (by omega)
    rw [take_snoc (by omega)]
    obtain ⟨i, a, e⟩ : ∃ i a, segs (l.take n) = i ++ [a] := by
      obtain ⟨h, t, e⟩ := segs_cons (l := l.take n)
      exact ⟨_, _, (List.dropLast_concat_getLast (by rw [e]; simp)).symm⟩
    have ih2 := ih
    rw [e, List.map_append] at ih2
    obtain ⟨q1, q2⟩ := List.append_inj' ih2 rfl
    have q3 : (prun l n).2 = a.flatMap escE := by simpa using q2
    by_cases h42 : l.getD n 0 = 42
    · rw [h42]
      by_cases h3 : (l.take n).getLast? = some 42
      · rw [segs_again h3, prun_t h42 (hl.mp h3).1 (hl.mp h3).2, ih]
      · rw [segs_new h3, prun_s h42 (by
          by_cases hz : n = 0
          · exact .inl hz
          · exact .inr fun q => h3 (hl.mpr ⟨hz, q⟩)), ih, List.map_append]
        rfl
    · rw [segs_put h42 e, List.map_append]
      have e4 : ([a ++ [l.getD n 0]].map fun r => r.flatMap escE) = [a.flatMap escE ++ escE (l.getD n 0)] := by simp
      rw [e4, ← q1, ← q3]
      by_cases h63 : l.getD n 0 = 63
      · rw [prun_q h63, h63, escE_q]
      · rw [prun_c h63 h42]
        unfold escE
        rw [if_neg h63]
theorem patL_segs {l : List Nat} {i : List (List Nat)} {a : List Nat} (e : segs l = i ++ [a]) : patL l = patR (i.map (fun r => r.flatMap escE)) (a.flatMap escE) := by
  have h := prun_segs l l.length (Nat.le_refl _)
  rw [List.take_length, e, List.map_append] at h
  obtain ⟨q1, q2⟩ := List.append_inj' h rfl
  have q3 : (prun l l.length).2 = a.flatMap escE := by simpa using q2
  unfold patL
  rw [q1, q3]
theorem segs_last (l : List Nat) : ∃ i a, segs l = i ++ [a] := by
  obtain ⟨h, t, e⟩ := segs_cons (l := l)
  exact ⟨_, _, (List.dropLast_concat_getLast (by rw [e]; simp)).symm⟩
theorem dec_end {s : Nat} {m : List Nat} (h : ∀ x ∈ s :: m, bar x) (a : List Nat) : dec (a ++ (s :: m)) = dec a ++ (s :: m).map usp := by
  have e := dec_mid h a []
  rw [List.append_nil, dec_nil, List.append_nil] at e
  exact e
theorem octl_end {s : Nat} {m : List Nat} (h : ∀ x ∈ s :: m, bar x) (a : List Nat) : octl (a ++ (s :: m)) = octl a := by
  have e := octl_mid h a []
  rw [List.append_nil] at e
  rw [e]; simp [octl]
theorem dec_wraps : ∀ (r : List (List Nat)) (y : List Nat), dec (y ++ r.flatMap wrapR) = dec y ++ (r.map dec).flatMap wrapR
  | [], y => by simp
  | g :: r, y => by
    have e : y ++ (g :: r).flatMap wrapR = (y ++ [40, 63, 62, 46, 42, 63] ++ g ++ [41]) ++ r.flatMap wrapR := by simp [wrapR]
    rw [e, dec_wraps r, dec_end (by decide), dec_mid (by decide)]
    simp [wrapR, usp]
theorem octl_wraps : ∀ (r : List (List Nat)) (y : List Nat), octl (y ++ r.flatMap wrapR) = octl y ++ r.flatMap octl
  | [], y => by simp
  | g :: r, y => by
    have e : y ++ (g :: r).flatMap wrapR = (y ++ [40, 63, 62, 46, 42, 63] ++ g ++ [41]) ++ r.flatMap wrapR := by simp [wrapR]
    rw [e, octl_wraps r, octl_end (by decide), octl_mid (by decide)]
    simp
theorem dec_patR (i : List (List Nat)) (a : List Nat) : dec (patR i a) = patR (i.map dec) (dec a) := by
  cases i with
  | nil =>
    show dec ([40, 63, 115, 58] ++ a ++ [41, 92, 90]) = [40, 63, 115, 58] ++ dec a ++ [41, 92, 90]
    rw [dec_end (by decide), dec_pre (by decide)]; rfl
  | cons f r =>
    show dec ([40, 63, 115, 58] ++ f ++ r.flatMap wrapR ++ [46, 42] ++ a ++ [41, 92, 90]) = [40, 63, 115, 58] ++ dec f ++ (r.map dec).flatMap wrapR ++ [46, 42] ++ dec a ++ [41, 92, 90]
    rw [dec_end (by decide), dec_mid (by decide), dec_wraps, dec_pre (by decide)]; rfl
theorem octl_patR (i : List (List Nat)) (a : List Nat) : octl (patR i a) = i.flatMap octl ++ octl a := by
  cases i with
  | nil =>
    show octl ([40, 63, 115, 58] ++ a ++ [41, 92, 90]) = octl a
    rw [octl_end (by decide), octl_pre (by decide)]
  | cons f r =>
    show octl ([40, 63, 115, 58] ++ f ++ r.flatMap wrapR ++ [46, 42] ++ a ++ [41, 92, 90]) = (octl f ++ r.flatMap octl) ++ octl a
    rw [octl_end (by decide), octl_mid (by decide), octl_wraps, octl_pre (by decide)]
theorem octl_pat (l : List Nat) : octl (patL l) = octl l := by
  obtain ⟨i, a, e⟩ := segs_last l
  rw [patL_segs e, octl_patR, octl_flat nice_escE, octl_segs l, e, List.flatMap_append, List.flatMap_map]
  simp only [octl_flat nice_escE]
  simp
/-- a weight that a pattern's own signs do not tell -/
def Pw (f : Nat → Int) : Prop := f 40 = 0 ∧ f 63 = 0 ∧ f 62 = 0 ∧ f 41 = 0 ∧ f 115 = 0 ∧ f 58 = 0 ∧ f 90 = 0 ∧ f 46 + f 42 = 0 ∧ f 92 + f 42 = 0
theorem wt_flatMap (f : Nat → Int) (e : Nat → List Nat) : ∀ l : List Nat, wt f (l.flatMap e) = wt (fun c => wt f (e c)) l
  | [] => rfl
  | a :: l => by rw [List.flatMap_cons, wt_app, wt_cons, wt_flatMap f e l]
theorem wt_wraps {f : Nat → Int} (h : Pw f) : ∀ r : List (List Nat), wt f (r.flatMap wrapR) = wt f r.flatten
  | [] => rfl
  | g :: r => by
    obtain ⟨h1, h2, h3, h4, h5, h6, h7, h8, h9⟩ := h
    rw [List.flatMap_cons, wt_app, wt_wraps ⟨h1, h2, h3, h4, h5, h6, h7, h8, h9⟩ r, List.flatten_cons, wt_app]
    unfold wrapR
    simp only [wt_app, wt_cons, wt_nil, h1, h2, h3, h4]
    omega
theorem wt_patR {f : Nat → Int} (h : Pw f) (i : List (List Nat)) (a : List Nat) : wt f (patR i a) = f 92 + wt f (i ++ [a]).flatten := by
  have h' := h
  obtain ⟨h1, h2, h3, h4, h5, h6, h7, h8, h9⟩ := h
  cases i with
  | nil =>
    show wt f ([40, 63, 115, 58] ++ a ++ [41, 92, 90]) = _
    simp only [wt_app, wt_cons, wt_nil, h1, h2, h3, h4, h5, h6, h7, List.nil_append, List.flatten_cons, List.flatten_nil]
    omega
  | cons g r =>
    show wt f ([40, 63, 115, 58] ++ g ++ r.flatMap wrapR ++ [46, 42] ++ a ++ [41, 92, 90]) = _
    simp only [wt_app, wt_cons, wt_nil, wt_wraps h', h1, h2, h3, h4, h5, h6, h7, List.cons_append, List.flatten_cons, List.flatten_append, List.flatten_nil]
    omega
theorem flatten_flatMap (e : Nat → List Nat) : ∀ rs : List (List Nat), (rs.map (fun r => r.flatMap e)).flatten = rs.flatten.flatMap e
  | [] => rfl
  | r :: rs => by rw [List.map_cons, List.flatten_cons, List.flatten_cons, List.flatMap_append, flatten_flatMap e rs]
theorem wt_pat {f : Nat → Int} (h : Pw f) (l : List Nat) : wt f (patL l) = f 92 + wt (fun c => wt f (escE c)) l := by
  obtain ⟨i, a, e⟩ := segs_last l
  have h0 : wt f (escE 42) = 0 := by
    show wt f [92, 42] = 0
    simp only [wt_cons, wt_nil]; have := h.2.2.2.2.2.2.2.2; omega
  have e2 : (i.map (fun r => r.flatMap escE) ++ [a.flatMap escE]) = (segs l).map (fun r => r.flatMap escE) := by rw [e, List.map_append]; rfl
  rw [patL_segs e, wt_patR h, e2, flatten_flatMap, wt_flatMap, wt_segs (f := fun c => wt f (escE c)) h0 l]
end Mine
end
section
open PySem PySem.W PyProof.Rows
namespace Mine
/-- backslashes and dots, the stars taken off -/
def wM (c : Nat) : Int := if c = 92 then 1 else if c = 46 then 1 else if c = 42 then -1 else 0
def wW (c : Nat) : Int := wt wM (escE c)
def wA (c : Nat) : Int := if c = 95 then 1 else 0
def wB (c : Nat) : Int := if special c = true then 1 else 0
theorem pw_M : Pw wM := by unfold Pw; decide
theorem wW_eq (c : Nat) : wW c = wM c + wB c := by
  unfold wW wB
  by_cases h : c = 63
  · subst h; decide
  · cases hs : special c with
    | false => rw [escE_p hs]; simp only [wt_cons, wt_nil]; simp
    | true =>
      rw [escE_s hs h]
      simp only [wt_cons, wt_nil, if_true]
      have : wM 92 = 1 := rfl
      omega
theorem usp_cases (c : Nat) : (c = 95 ∧ usp c = 32) ∨ (c ≠ 95 ∧ usp c = c) := by
  by_cases h : c = 95
  · exact .inl ⟨h, if_pos h⟩
  · exact .inr ⟨h, if_neg h⟩
theorem wM_usp (c : Nat) : wM (usp c) = wM c := by
  rcases usp_cases c with ⟨h, e⟩ | ⟨h, e⟩
  · rw [e, h]; rfl
  · rw [e]
theorem wW_usp (c : Nat) : wW (usp c) = wW c + wA c := by
  rcases usp_cases c with ⟨h, e⟩ | ⟨h, e⟩
  · rw [e, h]; decide
  · rw [e]; unfold wA; rw [if_neg h]; omega
theorem flat_of {f : Nat → Int} (h61 : f 61 = 0) (h : ∀ c : Fin 128, 0 ≤ fig c.val → f c.val = 0) : flat f := ⟨h61, fun c hc => h ⟨c, hex_lt hc⟩ hc⟩
theorem flat_M : flat wM := flat_of rfl (by decide +kernel)
theorem flat_W : flat wW := flat_of (by decide) (by decide +kernel)
theorem pat_dec (y : List Nat) : patL (dec y) = dec (patL y) ↔ (95 ∉ y ∧ ∀ o ∈ octl y, special o = false) := by
  constructor
  · intro h
    have h1 := congrArg (wt wM) h
    rw [wt_pat pw_M, wt_dec flat_M, wt_pat (f := fun c => wM (usp c)) (by unfold Pw; decide), octl_pat] at h1
    have h2 : wt (fun c => wt wM (escE c)) (dec y) = wt (fun c => wW (usp c)) y + wt wW (octl y) := wt_dec flat_W y
    rw [h2] at h1
    have e1 : (fun c => wM (usp c)) = wM := funext wM_usp
    have e2 : (fun c => wW (usp c)) = fun c => wW c + wA c := funext wW_usp
    have e3 : wW = fun c => wM c + wB c := funext wW_eq
    rw [e1] at h1
    have h3 : wt (fun c => wt wM (escE c)) y = wt wW y := rfl
    rw [h3, e2, wt_add] at h1
    have h4 : wt wW (octl y) = wt wM (octl y) + wt wB (octl y) := by rw [e3]; exact wt_add _ _ _
    have a0 : ∀ c, 0 ≤ wA c := fun c => by unfold wA; split <;> omega
    have b0 : ∀ c, 0 ≤ wB c := fun c => by unfold wB; split <;> omega
    have n1 := wt_nonneg a0 y
    have n2 := wt_nonneg b0 (octl y)
    have e92 : wM (usp 92) = wM 92 := rfl
    refine ⟨fun q => ?_, fun o ho => ?_⟩
    · have := wt_zero a0 (l := y) (by omega) 95 q
      exact absurd this (by decide)
    · have := wt_zero b0 (l := octl y) (by omega) o ho
      unfold wB at this
      cases hs : special o with
      | false => rfl
      | true => rw [hs] at this; simp at this
  · rintro ⟨h1, h2⟩
    obtain ⟨i, a, e⟩ := segs_last y
    have h42 : 42 ∉ octl y := fun q => by have := h2 42 q; cases this
    have e2 : segs (dec y) = i.map dec ++ [dec a] := by rw [segs_dec y h42, e, List.map_append]; rfl
    have key : ∀ r ∈ segs y, (dec r).flatMap escE = dec (r.flatMap escE) := by
      intro r hr
      refine (dec_flat nice_escE r ?_ ?_).symm
      · intro b hb
        have hb95 : b ≠ 95 := fun q => h1 (mem_segs hr (q ▸ hb))
        rw [usp_bar hb95]
        by_cases h63 : b = 63
        · subst h63; rfl
        · cases hs : special b with
          | false => rw [escE_p hs, List.map_singleton, usp_bar hb95]
          | true => rw [escE_s hs h63]; show _ = [usp 92, usp b]; rw [usp_bar hb95]; rfl
      · intro o ho
        refine escE_p (h2 o ?_)
        rw [octl_segs y]
        exact List.mem_flatMap.mpr ⟨r, hr, ho⟩
    rw [patL_segs e2, patL_segs e, dec_patR, List.map_map, List.map_map]
    have e3 : i.map ((fun r => r.flatMap escE) ∘ dec) = i.map (dec ∘ fun r => r.flatMap escE) := by
      refine List.map_congr_left fun r hr => ?_
      exact key r (by rw [e]; exact List.mem_append_left _ hr)
    rw [e3, key a (by rw [e]; exact List.mem_append_right _ (.head _))]
/-- what quoting makes of one sign -/
def quoE (c : Nat) : List Nat := if c = 39 then [39, 34, 39, 34, 39] else [c]
theorem subst_quo (l : List Nat) : subst 39 [39, 34, 39, 34, 39] l = l.flatMap quoE := rfl
theorem nice_quoE : Nice quoE := fun c => by
  by_cases h : c = 39
  · subst h; exact .inr (by decide)
  · exact .inl (if_neg h)
def quo (l : List Nat) : List Nat := 39 :: (l.flatMap quoE ++ [39])
theorem shell_quo {l : List Nat} (h : l = [] ∨ l.any must = true) : shellL l = quo l := by
  unfold shellL
  rw [if_neg, subst_quo]; rfl
  rintro ⟨h1, h2⟩
  rcases h with h | h
  · exact h1 h
  · rw [h] at h2; cases h2
theorem shell_bare {l : List Nat} (h : l ≠ []) (h2 : l.any must = false) : shellL l = l := by
  unfold shellL; rw [if_pos ⟨h, h2⟩]
theorem octl_quo (l : List Nat) : octl (quo l) = octl l := by
  unfold quo
  rw [octl_no61 (by decide), octl_end (by decide), octl_flat nice_quoE]
theorem octl_shell (l : List Nat) : octl (shellL l) = octl l := by
  unfold shellL
  split
  · rfl
  · exact octl_quo l
theorem dec_quo (l : List Nat) : dec (quo l) = 39 :: (dec (l.flatMap quoE) ++ [39]) := by
  unfold quo
  rw [dec_skip (no_hit61 (by decide)), dec_end (by decide)]; rfl
theorem mem_quo {c : Nat} (h : c ≠ 39) (h2 : c ≠ 34) (l : List Nat) : c ∈ quo l ↔ c ∈ l := by
  unfold quo
  simp only [List.mem_cons, List.mem_append, List.mem_flatMap, List.mem_singleton]
  constructor
  · rintro (e | ⟨a, ha, hc⟩ | e)
    · exact absurd e h
    · unfold quoE at hc
      split at hc
      · simp only [List.mem_cons, List.not_mem_nil, or_false] at hc; omega
      · rw [List.mem_singleton.mp hc]; exact ha
    · rcases e with e | e
      · exact absurd e h
      · cases e
  · intro hc
    exact .inr (.inl ⟨c, hc, by unfold quoE; rw [if_neg h]; exact .head _⟩)
theorem mem_shell {c : Nat} (h : c ≠ 39) (h2 : c ≠ 34) (l : List Nat) : c ∈ shellL l ↔ c ∈ l := by
  unfold shellL
  split
  · rfl
  · exact mem_quo h h2 l
theorem quoE_inj : ∀ a b : List Nat, a.flatMap quoE = b.flatMap quoE → a = b
  | [], [], _ => rfl
  | [], y :: b, h => by
    rw [List.flatMap_nil, List.flatMap_cons] at h
    unfold quoE at h; split at h <;> simp at h
  | x :: a, [], h => by
    rw [List.flatMap_nil, List.flatMap_cons] at h
    unfold quoE at h; split at h <;> simp at h
  | x :: a, y :: b, h => by
    rw [List.flatMap_cons, List.flatMap_cons] at h
    by_cases hx : x = 39
    · by_cases hy : y = 39
      · subst hx; subst hy
        rw [quoE_inj a b (List.append_cancel_left h)]
      · have e1 : quoE x = [39, 34, 39, 34, 39] := if_pos hx
        have e2 : quoE y = [y] := if_neg hy
        rw [e1, e2] at h
        simp at h
        exact absurd h.1.symm hy
    · have e1 : quoE x = [x] := if_neg hx
      by_cases hy : y = 39
      · have e2 : quoE y = [39, 34, 39, 34, 39] := if_pos hy
        rw [e1, e2] at h
        simp at h
        exact absurd h.1 hx
      · have e2 : quoE y = [y] := if_neg hy
        rw [e1, e2] at h
        simp only [List.cons_append, List.nil_append, List.cons.injEq] at h
        rw [h.1, quoE_inj a b h.2]
theorem quo_inj {a b : List Nat} (h : quo a = quo b) : a = b := by
  unfold quo at h
  simp only [List.cons.injEq, true_and] at h
  exact quoE_inj a b (List.append_cancel_right h)
theorem shell_inj {a b : List Nat} (h : shellL a = shellL b) : a = b := by
  have hq : ∀ {x y : List Nat}, x.any must = false → x ≠ quo y := by
    intro x y h e
    rw [e] at h
    unfold quo at h
    rw [List.any_cons] at h
    have : must 39 = true := by decide
    rw [this] at h; cases h
  by_cases ha : a ≠ [] ∧ a.any must = false <;> by_cases hb : b ≠ [] ∧ b.any must = false
  · rw [shell_bare ha.1 ha.2, shell_bare hb.1 hb.2] at h; exact h
  · rw [shell_bare ha.1 ha.2] at h
    unfold shellL at h
    rw [if_neg hb, subst_quo] at h
    exact absurd h (hq ha.2)
  · rw [shell_bare hb.1 hb.2] at h
    unfold shellL at h
    rw [if_neg ha, subst_quo] at h
    exact absurd h.symm (hq hb.2)
  · unfold shellL at h
    rw [if_neg ha, if_neg hb, subst_quo, subst_quo] at h
    exact quo_inj h
/-- the double quotes -/
def w34 (c : Nat) : Int := if c = 34 then 1 else 0
def w39 (c : Nat) : Int := if c = 39 then 1 else 0
theorem flat_34 : flat w34 := flat_of rfl (by decide +kernel)
theorem flat_39 : flat w39 := flat_of rfl (by decide +kernel)
theorem w34_usp (c : Nat) : w34 (usp c) = w34 c := by
  rcases usp_cases c with ⟨h, e⟩ | ⟨h, e⟩
  · rw [e, h]; rfl
  · rw [e]
theorem w39_usp (c : Nat) : w39 (usp c) = w39 c := by
  rcases usp_cases c with ⟨h, e⟩ | ⟨h, e⟩
  · rw [e, h]; rfl
  · rw [e]
theorem dec_34 (l : List Nat) : wt w34 (dec l) = wt w34 l + wt w34 (octl l) := by
  rw [wt_dec flat_34, show (fun c => w34 (usp c)) = w34 from funext w34_usp]
theorem dec_39 (l : List Nat) : wt w39 (dec l) = wt w39 l + wt w39 (octl l) := by
  rw [wt_dec flat_39, show (fun c => w39 (usp c)) = w39 from funext w39_usp]
theorem quoE_34 (l : List Nat) : wt w34 (l.flatMap quoE) = wt w34 l + 2 * wt w39 l := by
  rw [wt_flatMap]
  induction l with
  | nil => rfl
  | cons a l ih =>
    rw [wt_cons, wt_cons, wt_cons, ih]
    have e : wt w34 (quoE a) = w34 a + 2 * w39 a := by
      by_cases h : a = 39
      · subst h; rfl
      · have e : quoE a = [a] := if_neg h
        rw [e, wt_cons, wt_nil]; unfold w39; rw [if_neg h]; omega
    omega
theorem quoE_39 (l : List Nat) : wt w39 (l.flatMap quoE) = 3 * wt w39 l := by
  rw [wt_flatMap]
  induction l with
  | nil => rfl
  | cons a l ih =>
    rw [wt_cons, wt_cons, ih]
    have e : wt w39 (quoE a) = 3 * w39 a := by
      by_cases h : a = 39
      · subst h; rfl
      · have e : quoE a = [a] := if_neg h
        rw [e, wt_cons, wt_nil]; unfold w39; rw [if_neg h]; rfl
    omega
theorem w39_zero {l : List Nat} : wt w39 l = 0 ↔ 39 ∉ l := by
  have h0 : ∀ c, 0 ≤ w39 c := fun c => by unfold w39; split <;> omega
  constructor
  · intro h q
    have := wt_zero h0 h 39 q
    exact absurd this (by decide)
  · intro h
    refine wt_all fun c hc => ?_
    unfold w39; rw [if_neg]; exact fun e => h (e ▸ hc)
theorem quo_34 (l : List Nat) : wt w34 (quo l) = wt w34 l + 2 * wt w39 l := by
  unfold quo
  rw [wt_cons, wt_app, quoE_34, wt_cons, wt_nil]
  have : w34 39 = 0 := rfl
  omega
theorem quo_39 (l : List Nat) : wt w39 (quo l) = 2 + 3 * wt w39 l := by
  unfold quo
  rw [wt_cons, wt_app, quoE_39, wt_cons, wt_nil]
  have : w39 39 = 1 := rfl
  omega
theorem dec_quo_same {z : List Nat} (h : 39 ∉ octl z) : dec (quo z) = quo (dec z) := by
  rw [dec_quo]
  unfold quo
  rw [dec_flat nice_quoE z]
  · intro a _
    rcases usp_cases a with ⟨h, e⟩ | ⟨h, e⟩
    · rw [e, h]; rfl
    · rw [e]
      by_cases ha : a = 39
      · subst ha; rfl
      · have e2 : quoE a = [a] := if_neg ha
        rw [e2, List.map_singleton, e]
  · intro o ho
    unfold quoE; rw [if_neg]; exact fun e => h (e ▸ ho)
theorem dec_quo_34 (z : List Nat) : wt w34 (dec (quo z)) + 2 * wt w39 (octl z) = wt w34 (quo (dec z)) := by
  rw [dec_34, octl_quo, quo_34, quo_34, dec_34, dec_39]; omega
theorem quo_dec (z : List Nat) : quo (dec z) = dec (quo z) ↔ 39 ∉ octl z := by
  constructor
  · intro h
    have h1 := congrArg (wt w34) h
    have h2 := dec_quo_34 z
    exact w39_zero.mp (by omega)
  · exact fun h => (dec_quo_same h).symm
theorem pat_34 (l : List Nat) : wt w34 (patL l) = wt w34 l := by
  rw [wt_pat (by unfold Pw; decide)]
  have e : (fun c => wt w34 (escE c)) = w34 := funext fun c => by
    by_cases h : c = 63
    · subst h; rfl
    · cases hs : special c with
      | false => rw [escE_p hs, wt_cons, wt_nil]; omega
      | true => rw [escE_s hs h, wt_cons, wt_cons, wt_nil]; have : w34 92 = 0 := rfl; omega
  rw [e]; have : w34 92 = 0 := rfl; omega
theorem pat_39 (l : List Nat) : wt w39 (patL l) = wt w39 l := by
  rw [wt_pat (by unfold Pw; decide)]
  have e : (fun c => wt w39 (escE c)) = w39 := funext fun c => by
    by_cases h : c = 63
    · subst h; rfl
    · cases hs : special c with
      | false => rw [escE_p hs, wt_cons, wt_nil]; omega
      | true => rw [escE_s hs h, wt_cons, wt_cons, wt_nil]; have : w39 92 = 0 := rfl; omega
  rw [e]; have : w39 92 = 0 := rfl; omega
theorem pat_head (l : List Nat) : ∃ r, patL l = 40 :: r := by
  unfold patL
  cases h : (prun l l.length).1 with
  | nil => exact ⟨_, rfl⟩
  | cons f r => exact ⟨_, rfl⟩
theorem pat_must (l : List Nat) : (patL l).any must = true := by
  obtain ⟨r, e⟩ := pat_head l
  rw [e]; rfl
theorem dec_pat_must (l : List Nat) : (dec (patL l)).any must = true := by
  obtain ⟨r, e⟩ := pat_head l
  rw [e, dec_skip (no_hit61 (by decide))]; rfl
/-- the four laws -/
theorem law_A (x : List Nat) : shellL (patL (dec x)) = shellL (dec (patL x)) ↔ (95 ∉ x ∧ ∀ o ∈ octl x, special o = false) :=
  ⟨fun h => (pat_dec x).mp (shell_inj h), fun h => by rw [(pat_dec x).mpr h]⟩
theorem law_B (x : List Nat) : patL (dec (shellL x)) = dec (patL (shellL x)) ↔ (95 ∉ x ∧ ∀ o ∈ octl x, special o = false) := by
  rw [pat_dec, octl_shell, mem_shell (by decide) (by decide)]
theorem law_C (x : List Nat) : shellL (dec (patL x)) = dec (shellL (patL x)) ↔ 39 ∉ octl x := by
  rw [shell_quo (.inr (dec_pat_must x)), shell_quo (.inr (pat_must x)), quo_dec, octl_pat]
theorem any_must (x : List Nat) : (dec x).any must = (x.any (fun c => must (usp c)) || (octl x).any must) := any_dec rfl (fun _ h => hex_safe h) x
theorem dec_nonnil {x : List Nat} (h : x ≠ []) : dec x ≠ [] := by
  revert h
  refine tok_ind (P := fun x => x ≠ [] → dec x ≠ []) (fun h => absurd rfl h) ?_ ?_ x
  · intro b c r hb hc _ _; rw [dec_hit hb hc]; simp
  · intro a r h _ _; rw [dec_skip h]; simp
theorem law_D1 {x : List Nat} (h : x = [] ∨ x.any must = true) : patL (shellL (dec x)) = patL (dec (shellL x)) ↔ 39 ∉ octl x := by
  have hd : dec x = [] ∨ (dec x).any must = true := by
    rcases h with h | h
    · subst h; exact .inl dec_nil
    · refine .inr ?_
      rw [any_must]
      obtain ⟨c, hc, hm⟩ := List.any_eq_true.mp h
      rw [Bool.or_eq_true]; refine .inl (List.any_eq_true.mpr ⟨c, hc, ?_⟩)
      rcases usp_cases c with ⟨_, e⟩ | ⟨_, e⟩
      · rw [e]; decide
      · rw [e]; exact hm
  rw [shell_quo hd, shell_quo h]
  constructor
  · intro e
    have h1 := congrArg (wt w34) e
    rw [pat_34, pat_34] at h1
    have h2 := dec_quo_34 x
    exact w39_zero.mp (by omega)
  · exact fun q => by rw [dec_quo_same q]
theorem law_D2 {x : List Nat} (h : x ≠ []) (h2 : x.any must = false) : patL (shellL (dec x)) = patL (dec (shellL x)) ↔ (95 ∉ x ∧ ∀ o ∈ octl x, must o = false) := by
  rw [shell_bare h h2]
  have e : (dec x).any must = false ↔ (95 ∉ x ∧ ∀ o ∈ octl x, must o = false) := by
    rw [any_must, Bool.or_eq_false_iff, List.any_eq_false, List.any_eq_false]
    constructor
    · rintro ⟨h3, h4⟩
      exact ⟨fun q => absurd (h3 95 q) (by decide), fun o ho => by simpa using h4 o ho⟩
    · rintro ⟨h3, h4⟩
      refine ⟨fun c hc => ?_, fun o ho => by simpa using h4 o ho⟩
      rw [usp_bar (fun q => h3 (q ▸ hc))]
      exact List.any_eq_false.mp h2 c hc
  rw [← e]
  constructor
  · intro q
    cases hm : (dec x).any must with
    | false => rfl
    | true =>
      exfalso
      have h0 : ∀ c, 0 ≤ w39 c := fun c => by unfold w39; split <;> omega
      have h1 := congrArg (wt w39) q
      rw [shell_quo (.inr hm), pat_39, pat_39, quo_39] at h1
      have := wt_nonneg h0 (dec x)
      omega
  · intro q
    rw [shell_bare (dec_nonnil h) q]
end Mine
end
section
open PySem PySem.W PyProof.Rows
namespace Mine
theorem octAt_cons (a : Nat) (l : List Nat) (k : Nat) : octAt (a :: l) (k + 1) = octAt l k := rfl
theorem octsTo_cons (a : Nat) (l : List Nat) (n : Nat) : octsTo (a :: l) (n + 1) = octAt (a :: l) 0 ++ octsTo l n := by
  unfold octsTo
  rw [List.range_succ_eq_map, List.flatMap_cons, List.flatMap_map]
  rfl
theorem fig_top (c : Nat) : -1 ≤ fig c ∧ fig c ≤ 15 := by unfold fig; split <;> (try split) <;> (try split) <;> omega
theorem octs_octl : ∀ l : List Nat, octs l = (octl l).map (fun n : Nat => (n : Int))
  | [] => rfl
  | [_] => rfl
  | [_, _] => rfl
  | a :: b :: c :: r => by
    have ih := octs_octl (b :: c :: r)
    have e : octs (a :: b :: c :: r) = octAt (a :: b :: c :: r) 0 ++ octs (b :: c :: r) := by
      unfold octs
      show octsTo (a :: b :: c :: r) (r.length + 1) = _
      rw [octsTo_cons]; rfl
    rw [e, ih, octl, List.map_append]
    refine congrArg (· ++ _) ?_
    by_cases h : a = 61 ∧ 0 ≤ fig b ∧ 0 ≤ fig c
    · rw [if_pos h, octAt_hit (l := a :: b :: c :: r) (n := 0) h]
      show [16 * fig b + fig c] = [((octet b c : Nat) : Int)]
      unfold octet
      rw [Int.toNat_of_nonneg (by omega)]
    · rw [if_neg h, octAt_miss (l := a :: b :: c :: r) (n := 0) h]; rfl
theorem octl_all {P : Nat → Prop} (h : ∀ b c, 0 ≤ fig b → 0 ≤ fig c → P (octet b c)) : ∀ l : List Nat, ∀ o ∈ octl l, P o := by
  refine tok_ind (fun o ho => by cases ho) ?_ ?_
  · intro b c r hb hc ih o ho
    rw [octl_hit hb hc] at ho
    rcases List.mem_cons.mp ho with rfl | ho
    · exact h b c hb hc
    · exact ih o ho
  · intro a r hn ih o ho
    rw [octl_skip hn] at ho
    exact ih o ho
theorem octl_lt (l : List Nat) : ∀ o ∈ octl l, o < 256 := octl_all (fun b c hb hc => by
  have h1 := fig_top b; have h2 := fig_top c
  unfold octet; omega) l
theorem fig_5 {b : Nat} (h : fig b = 5) : b = 53 := by unfold fig at h; split at h <;> (try split at h) <;> (try split at h) <;> omega
theorem fig_11 {c : Nat} (h : fig c = 11) : c = 66 ∨ c = 98 := by unfold fig at h; split at h <;> (try split at h) <;> (try split at h) <;> omega
theorem octet_91 {b c : Nat} (hb : 0 ≤ fig b) (hc : 0 ≤ fig c) (h : octet b c = 91) : b = 53 ∧ (c = 66 ∨ c = 98) := by
  have h1 := fig_top b; have h2 := fig_top c
  have h3 : (16 * fig b + fig c).toNat = 91 := h
  have e1 : fig b = 5 := by omega
  have e2 : fig c = 11 := by omega
  exact ⟨fig_5 e1, fig_11 e2⟩
theorem octl_91 : ∀ l : List Nat, safe53 l = true → 91 ∉ octl l := by
  refine tok_ind (fun _ h => by cases h) ?_ ?_
  · intro b c r hb hc ih hs h
    rw [octl_hit hb hc] at h
    have s1 := safe53_tail hs
    have s2 := safe53_tail s1
    rcases List.mem_cons.mp h with e | h
    · obtain ⟨rfl, hcc⟩ := octet_91 hb hc e.symm
      have s3 : ((53 : Nat) != 53 || c == 70 || c == 67 || c == 68) = true ∧ safe53 (c :: r) = true := by
        have : (((53 : Nat) != 53 || c == 70 || c == 67 || c == 68) && safe53 (c :: r)) = true := s1
        rwa [Bool.and_eq_true] at this
      rcases hcc with rfl | rfl
      · exact absurd s3.1 (by decide)
      · exact absurd s3.1 (by decide)
    · exact ih (safe53_tail s2) h
  · intro a r hn ih hs h
    rw [octl_skip hn] at h
    exact ih (safe53_tail hs) h
theorem mem_dec {c : Nat} : ∀ l, c ∈ dec l → (∃ a ∈ l, c = usp a) ∨ c ∈ octl l := by
  refine tok_ind (fun h => by rw [dec_nil] at h; cases h) ?_ ?_
  · intro b d r hb hd ih h
    rw [dec_hit hb hd] at h
    rw [octl_hit hb hd]
    rcases List.mem_cons.mp h with rfl | h
    · exact .inr (.head _)
    · rcases ih h with ⟨a, ha, e⟩ | h
      · exact .inl ⟨a, .tail _ (.tail _ (.tail _ ha)), e⟩
      · exact .inr (.tail _ h)
  · intro a r hn ih h
    rw [dec_skip hn] at h
    rw [octl_skip hn]
    rcases List.mem_cons.mp h with rfl | h
    · exact .inl ⟨a, .head _, rfl⟩
    · rcases ih h with ⟨b, hb, e⟩ | h
      · exact .inl ⟨b, .tail _ hb, e⟩
      · exact .inr h
/-- short, of true signs -/
def Fine (n : Nat) (l : List Nat) : Prop := l.length ≤ n ∧ ∀ c ∈ l, c < 1114112
theorem fine_dec {n : Nat} {l : List Nat} (h : Fine n l) : Fine n (dec l) := by
  refine ⟨?_, fun c hc => ?_⟩
  · have := unesc_len _ (l.map usp) (Nat.le_refl _)
    rw [List.length_map] at this
    exact Nat.le_trans this h.1
  · rcases mem_dec l hc with ⟨a, ha, e⟩ | ho
    · rw [e]
      rcases usp_cases a with ⟨_, e2⟩ | ⟨_, e2⟩
      · rw [e2]; decide
      · rw [e2]; exact h.2 a ha
    · have := octl_lt l c ho; omega
theorem mem_shell2 {c : Nat} {l : List Nat} (h : c ∈ shellL l) : c ∈ l ∨ c = 39 ∨ c = 34 := by
  by_cases h1 : c = 39
  · exact .inr (.inl h1)
  · by_cases h2 : c = 34
    · exact .inr (.inr h2)
    · exact .inl ((mem_shell h1 h2 l).mp h)
theorem fine_shell {n : Nat} {l : List Nat} (h : Fine n l) : Fine (5 * n + 2) (shellL l) := by
  refine ⟨?_, fun c hc => ?_⟩
  · have h1 := h.1
    unfold shellL
    split
    · omega
    · have := subst_len 39 [39, 34, 39, 34, 39] l (by decide)
      simp only [List.length_cons, List.length_append, List.length_nil] at this ⊢
      omega
  · rcases mem_shell2 hc with h1 | h1 | h1
    · exact h.2 c h1
    · omega
    · omega
theorem mem_escE {c d : Nat} (h : d ∈ escE c) : d = c ∨ d < 128 := by
  by_cases h1 : c = 63
  · subst h1; rw [escE_q] at h; rw [List.mem_singleton.mp h]; exact .inr (by decide)
  · cases hs : special c with
    | false => rw [escE_p hs] at h; exact .inl (List.mem_singleton.mp h)
    | true =>
      rw [escE_s hs h1] at h
      simp only [List.mem_cons, List.not_mem_nil, or_false] at h
      rcases h with rfl | rfl
      · exact .inr (by decide)
      · exact .inl rfl
theorem small_in {c : Nat} {l : List Nat} (h : c ∈ l) (hl : ∀ c ∈ l, c < 128) : c < 128 := hl c h
theorem mem_wraps {c : Nat} : ∀ {r : List (List Nat)}, c ∈ r.flatMap wrapR → c < 128 ∨ c ∈ r.flatten
  | [], h => by cases h
  | g :: r, h => by
    rw [List.flatMap_cons] at h
    rw [List.flatten_cons]
    rcases List.mem_append.mp h with h | h
    · unfold wrapR at h
      rcases List.mem_append.mp h with h | h
      · rcases List.mem_append.mp h with h | h
        · exact .inl (small_in h (by decide))
        · exact .inr (List.mem_append_left _ h)
      · exact .inl (small_in h (by decide))
    · rcases mem_wraps h with h | h
      · exact .inl h
      · exact .inr (List.mem_append_right _ h)
theorem mem_patR {c : Nat} {i : List (List Nat)} {a : List Nat} (h : c ∈ patR i a) : c < 128 ∨ c ∈ (i ++ [a]).flatten := by
  rw [List.flatten_append, List.flatten_singleton]
  cases i with
  | nil =>
    have h' : c ∈ [40, 63, 115, 58] ++ a ++ [41, 92, 90] := h
    rcases List.mem_append.mp h' with h' | h'
    · rcases List.mem_append.mp h' with h' | h'
      · exact .inl (small_in h' (by decide))
      · exact .inr (List.mem_append_right _ h')
    · exact .inl (small_in h' (by decide))
  | cons f r =>
    have h' : c ∈ [40, 63, 115, 58] ++ f ++ r.flatMap wrapR ++ [46, 42] ++ a ++ [41, 92, 90] := h
    rcases List.mem_append.mp h' with h' | h'
    · rcases List.mem_append.mp h' with h' | h'
      · rcases List.mem_append.mp h' with h' | h'
        · rcases List.mem_append.mp h' with h' | h'
          · rcases List.mem_append.mp h' with h' | h'
            · exact .inl (small_in h' (by decide))
            · exact .inr (List.mem_append_left _ (List.mem_append_left _ h'))
          · rcases mem_wraps h' with h' | h'
            · exact .inl h'
            · exact .inr (List.mem_append_left _ (List.mem_append_right _ h'))
        · exact .inl (small_in h' (by decide))
      · exact .inr (List.mem_append_right _ h')
    · exact .inl (small_in h' (by decide))
theorem mem_pat {c : Nat} {l : List Nat} (h : c ∈ patL l) : c < 128 ∨ c ∈ l := by
  obtain ⟨i, a, e⟩ := segs_last l
  have e2 : (i.map (fun r => r.flatMap escE) ++ [a.flatMap escE]) = (segs l).map (fun r => r.flatMap escE) := by rw [e, List.map_append]; rfl
  rw [patL_segs e] at h
  rcases mem_patR h with h | h
  · exact .inl h
  · rw [e2, flatten_flatMap] at h
    obtain ⟨b, hb, hc⟩ := List.mem_flatMap.mp h
    rcases mem_escE hc with rfl | hc
    · obtain ⟨r, hr, hb⟩ := List.mem_flatten.mp hb
      exact .inr (mem_segs hr hb)
    · exact .inl hc
theorem fine_pat {n : Nat} {l : List Nat} (h : Fine n l) : Fine (9 * n + 9) (patL l) := by
  refine ⟨?_, fun c hc => ?_⟩
  · have hp := prun_len l l.length
    have h1 := h.1
    unfold patL
    cases hr : prun l l.length with
    | mk i a =>
      rw [hr] at hp
      cases i with
      | nil => simp only [patR, List.length_append, List.length_cons, List.length_nil]; simp at hp; omega
      | cons f r =>
        simp only [patR, List.length_append, wrap_len, List.length_cons, List.length_nil]
        simp only [List.map_cons, List.sum_cons, List.length_cons] at hp
        omega
  · rcases mem_pat hc with h1 | h1
    · omega
    · exact h.2 c h1
theorem fine_ok {n : Nat} {l : List Nat} (h : Fine n l) : PyData.strOk (S l) = true := by
  unfold PyData.strOk
  have := h.2
  simp only [S, List.all_toArray, List.all_eq_true, decide_eq_true_eq]
  exact this
theorem no91_dec {l : List Nat} (h : 91 ∉ l) (h2 : 91 ∉ octl l) : 91 ∉ dec l := fun q => by
  rcases mem_dec l q with ⟨a, ha, e⟩ | q
  · rcases usp_cases a with ⟨_, e2⟩ | ⟨_, e2⟩
    · rw [e2] at e; cases e
    · rw [e2] at e; exact h (e ▸ ha)
  · exact h2 q
theorem no91_shell {l : List Nat} (h : 91 ∉ l) : 91 ∉ shellL l := fun q => h ((mem_shell (by decide) (by decide) l).mp q)
theorem step_d (l : List Nat) : stepO l 100 = dec l := by unfold stepO dec; rw [if_pos rfl, subst_usp]
theorem step_q (l : List Nat) : stepO l 113 = shellL l := rfl
theorem step_t (l : List Nat) : stepO l 116 = patL l := rfl
theorem third {a : Nat} (h : a = 100 ∨ a = 113 ∨ a = 116) (q1 : a ≠ 100) (q2 : a ≠ 113) : a = 116 := by
  rcases h with h | h | h
  · exact absurd h q1
  · exact absurd h q2
  · exact h
theorem fit3 {a b c : Nat} {x : List Nat} (h0 : Fine 65536 x) (h1 : Fine 65536 (stepO x a)) (h2 : Fine 65536 (stepO (stepO x a) b)) (p0 : a = 116 → 91 ∉ x) (p1 : b = 116 → 91 ∉ stepO x a) (p2 : c = 116 → 91 ∉ stepO (stepO x a) b)
    (ha : a = 100 ∨ a = 113 ∨ a = 116) (hb : b = 100 ∨ b = 113 ∨ b = 116) (hc : c = 100 ∨ c = 113 ∨ c = 116) : FitO [a, b, c] x := by
  intro k hk
  match k, hk with
  | 0, _ => exact ⟨h0.1, h0.2, fun q1 q2 d hd e => p0 (third ha q1 q2) (e ▸ hd)⟩
  | 1, _ => exact ⟨h1.1, h1.2, fun q1 q2 d hd e => p1 (third hb q1 q2) (e ▸ hd)⟩
  | 2, _ => exact ⟨h2.1, h2.2, fun q1 q2 d hd e => p2 (third hc q1 q2) (e ▸ hd)⟩
  | n + 3, h => exact absurd h (Nat.not_lt.mpr (Nat.le_add_left 3 n))
end Mine
end
section
open PySem PySem.W PyProof.Rows
namespace Mine
def ordersN : List (List Nat) := [[100, 113, 116], [100, 116, 113], [113, 100, 116], [113, 116, 100], [116, 100, 113], [116, 113, 100]]
def ordersS : List Str := [Str.ofString "dqt", Str.ofString "dtq", Str.ofString "qdt", Str.ofString "qtd", Str.ofString "tdq", Str.ofString "tqd"]
theorem orders_cps : ordersS.map (fun o => o.cps.toList) = ordersN := by decide +kernel
/-- what an order makes of a text, as a text -/
def ranS (l : List Nat) (o : Str) : Str := S (runO o.cps.toList l)
theorem ran_list (l : List Nat) : ordersS.map (ranS l) = [S (patL (shellL (dec l))), S (shellL (patL (dec l))), S (patL (dec (shellL l))), S (dec (patL (shellL l))), S (shellL (dec (patL l))), S (dec (shellL (patL l)))] := by
  have e : ordersS.map (ranS l) = ordersN.map (fun o => S (runO o l)) := by rw [← orders_cps, List.map_map]; rfl
  rw [e]
  show [S (stepO (stepO (stepO l 100) 113) 116), S (stepO (stepO (stepO l 100) 116) 113), S (stepO (stepO (stepO l 113) 100) 116), S (stepO (stepO (stepO l 113) 116) 100), S (stepO (stepO (stepO l 116) 100) 113), S (stepO (stepO (stepO l 116) 113) 100)] = _
  simp only [step_d, step_q, step_t]
theorem fine_le {n m : Nat} {l : List Nat} (h : Fine n l) (hn : n ≤ m) : Fine m l := ⟨Nat.le_trans h.1 hn, h.2⟩
section
variable {x : List Nat} (h : GoodT x)
include h
theorem good_fine : Fine 24 x := ⟨h.1, h.2.1⟩
theorem good_91 : 91 ∉ x := fun q => h.2.2.1 91 q rfl
theorem good_o91 : 91 ∉ octl x := octl_91 x h.2.2.2
theorem fit_all : ∀ o ∈ ordersN, FitO o x ∧ Fine 65536 (runO o x) := by
  have f0 := good_fine h
  have fd := fine_dec f0
  have fq := fine_shell f0
  have ft := fine_pat f0
  have fqd := fine_shell fd
  have ftd := fine_pat fd
  have fdq := fine_dec fq
  have ftq := fine_pat fq
  have fdt := fine_dec ft
  have fqt := fine_shell ft
  have n0 := good_91 h
  have o0 := good_o91 h
  have nd := no91_dec n0 o0
  have nq := no91_shell n0
  have ndq : 91 ∉ dec (shellL x) := no91_dec nq (by rw [octl_shell]; exact o0)
  have nqd := no91_shell nd
  have a1 := fine_le f0 (m := 65536) (by decide)
  intro o ho
  simp only [ordersN, List.mem_cons, List.not_mem_nil, or_false] at ho
  rcases ho with rfl | rfl | rfl | rfl | rfl | rfl
  · refine ⟨fit3 a1 ?_ ?_ ?_ ?_ ?_ (by decide) (by decide) (by decide), ?_⟩
    · rw [step_d]; exact fine_le fd (by decide)
    · rw [step_d, step_q]; exact fine_le fqd (by decide)
    · intro e; cases e
    · intro e; cases e
    · intro _; rw [step_d, step_q]; exact nqd
    · show Fine 65536 (stepO (stepO (stepO x 100) 113) 116)
      rw [step_d, step_q, step_t]; exact fine_le (fine_pat fqd) (by decide)
  · refine ⟨fit3 a1 ?_ ?_ ?_ ?_ ?_ (by decide) (by decide) (by decide), ?_⟩
    · rw [step_d]; exact fine_le fd (by decide)
    · rw [step_d, step_t]; exact fine_le ftd (by decide)
    · intro e; cases e
    · intro _; rw [step_d]; exact nd
    · intro e; cases e
    · show Fine 65536 (stepO (stepO (stepO x 100) 116) 113)
      rw [step_d, step_q, step_t]; exact fine_le (fine_shell ftd) (by decide)
  · refine ⟨fit3 a1 ?_ ?_ ?_ ?_ ?_ (by decide) (by decide) (by decide), ?_⟩
    · rw [step_q]; exact fine_le fq (by decide)
    · rw [step_q, step_d]; exact fine_le fdq (by decide)
    · intro e; cases e
    · intro e; cases e
    · intro _; rw [step_q, step_d]; exact ndq
    · show Fine 65536 (stepO (stepO (stepO x 113) 100) 116)
      rw [step_d, step_q, step_t]; exact fine_le (fine_pat fdq) (by decide)
  · refine ⟨fit3 a1 ?_ ?_ ?_ ?_ ?_ (by decide) (by decide) (by decide), ?_⟩
    · rw [step_q]; exact fine_le fq (by decide)
    · rw [step_q, step_t]; exact fine_le ftq (by decide)
    · intro e; cases e
    · intro _; rw [step_q]; exact nq
    · intro e; cases e
    · show Fine 65536 (stepO (stepO (stepO x 113) 116) 100)
      rw [step_d, step_q, step_t]; exact fine_le (fine_dec ftq) (by decide)
  · refine ⟨fit3 a1 ?_ ?_ ?_ ?_ ?_ (by decide) (by decide) (by decide), ?_⟩
    · rw [step_t]; exact fine_le ft (by decide)
    · rw [step_t, step_d]; exact fine_le fdt (by decide)
    · intro _; exact n0
    · intro e; cases e
    · intro e; cases e
    · show Fine 65536 (stepO (stepO (stepO x 116) 100) 113)
      rw [step_d, step_q, step_t]; exact fine_le (fine_shell fdt) (by decide)
  · refine ⟨fit3 a1 ?_ ?_ ?_ ?_ ?_ (by decide) (by decide) (by decide), ?_⟩
    · rw [step_t]; exact fine_le ft (by decide)
    · rw [step_t, step_q]; exact fine_le fqt (by decide)
    · intro _; exact n0
    · intro e; cases e
    · intro e; cases e
    · show Fine 65536 (stepO (stepO (stepO x 116) 113) 100)
      rw [step_d, step_q, step_t]; exact fine_le (fine_dec fqt) (by decide)
theorem fit_S {o : Str} (ho : o ∈ ordersS) : FitO o.cps.toList x ∧ PyData.strOk (ranS x o) = true := by
  have hm : o.cps.toList ∈ ordersN := by rw [← orders_cps]; exact List.mem_map_of_mem ho
  have := fit_all h _ hm
  exact ⟨this.1, fine_ok this.2⟩
end
theorem S_beq (a b : List Nat) : (S a == S b) = decide (a = b) := by
  rw [Bool.eq_iff_iff, beq_iff_eq, decide_eq_true_eq]
  exact ⟨fun h => S_inj h, fun h => by rw [h]⟩
end Mine
end
section
open PySem PySem.W PyProof.Rows
theorem Mine.woff40 : True := by w_top off; trivial
namespace Mine
section
variable {prog : Program} {w : World} {f : Addr} {d u : Nat} {p : Program} {loose : List Str} {mean : ExcName → Option Value} {mg mb : Str → Option Value} {dp un : Nat} {gd : Option (List Code)} {cn : Str} {cs : Scope} {a : Addr} {ccd : Value} {cl : List (Str × Addr)} {outer : List Env} {A₀ : Around} {base h₀ : Heap} {L : Addr} {m : Str → Option Value} {news : List (Addr × Obj)} {s : Shared} {Q E : Value → Shared → Prop}
theorem saysT_use {G : List Nat → Prop} {il : Addr} {vs : List Value} {ns : List Int} (C : SaysT prog w f d u G) (B : Below A₀ base outer h₀) (F : Fr h₀ L s.heap m) (X : (hd.heap_39 w.params).In h₀) (N : News h₀ L s.heap news) (T : Top p loose mean mg mb h₀) (hk : cs.kind = .function)
    (hd : dp + d < recursionLimit) (hu : un + u < cLine) (hIL : h₀.IsList il vs.toArray) (hI : IntsAre vs ns) (hl : vs.length ≤ 1000000) (ret : ∀ (l : List Nat) (t : Tok) (h' : Heap) (tk' : Nat), G l → Fr h₀ L h' m → News h₀ L h' news → Q (.str (S l) t) { s with heap := h', toks := tk' }) :
    wpAny (model prog w) (ktrTop dp un gd cn cs L a ccd cl outer) (call (.ref f) [.ref il]) Q E s := C _ _ _ _ _ _ _ _ _ _ _ _ _ _ _ _ _ _ _ _ _ _ _ _ _ _ B F X N T hk hd hu hIL hI hl ret
theorem says_two {y z : Str} {t v : Tok} {R : Tok → Value} (C : ∀ t v, Says prog w f d u [.str y t, .str z v] R) (B : Below A₀ base outer h₀) (F : Fr h₀ L s.heap m) (X : (Mine.hd.heap_39 w.params).In h₀) (N : News h₀ L s.heap news) (T : Top p loose mean mg mb h₀) (hk : cs.kind = .function)
    (hd : dp + d < recursionLimit) (hu : un + u < cLine) (ret : ∀ (t : Tok) (h' : Heap) (tk' : Nat), Fr h₀ L h' m → News h₀ L h' news → Q (R t) { s with heap := h', toks := tk' }) :
    wpAny (model prog w) (ktrTop dp un gd cn cs L a ccd cl outer) (call (.ref f) [.str y t, .str z v]) Q E s :=
  says_use (C t v) B F X N T hk hd hu ret
end
theorem octl_len (l : List Nat) : (octl l).length ≤ l.length := by
  refine tok_ind (P := fun l => (octl l).length ≤ l.length) (Nat.le_refl _) ?_ ?_ l
  · intro b c r hb hc ih; rw [octl_hit hb hc]; simp only [List.length_cons]; omega
  · intro a r h ih; rw [octl_skip h]; simp only [List.length_cons]; omega
theorem oct_at {l : List Nat} {i : Nat} {z : Int} (h : (octs l)[i]? = some z) : ∃ c : Nat, (octl l)[i]? = some c ∧ z = (c : Int) := by
  rw [octs_octl, List.getElem?_map] at h
  cases hc : (octl l)[i]? with
  | none => rw [hc] at h; cases h
  | some c => rw [hc] at h; exact ⟨c, rfl, (Option.some.inj h).symm⟩
def siftI (f : Nat → Bool) (l : List Nat) (i : Nat) : List Int := (((octl l).take i).filter f).map (fun n : Nat => (n : Int))
theorem siftI_snoc {f : Nat → Bool} {l : List Nat} {i c : Nat} (h : (octl l)[i]? = some c) : siftI f l (i + 1) = siftI f l i ++ (if f c = true then [(c : Int)] else []) := by
  unfold siftI
  rw [List.take_add_one, h, List.filter_append, List.map_append]
  congr 1
  simp only [Option.toList]
  by_cases hf : f c = true <;> simp [hf]
theorem siftI_nil {f : Nat → Bool} {l : List Nat} {n : Nat} (hn : (octl l).length ≤ n) : (siftI f l n = []) ↔ ∀ o ∈ octl l, f o = false := by
  unfold siftI
  rw [List.take_of_length_le hn, List.map_eq_nil_iff, List.filter_eq_nil_iff]
  exact ⟨fun h o ho => by simpa using h o ho, fun h o ho => by simpa using h o ho⟩
theorem co_l (prog : Program) (w : World) {l : List Nat} (h : GoodT l) : ∀ t, SaysL prog w 127 2 12 [.str (S l) t] (octs l) := fun t => by
  have q := c_octs prog w (S l) t (by rw [S_len]; have := h.1; omega)
  rw [S_list] at q; exact q
theorem ca_l (prog : Program) (w : World) {l : List Nat} (h : GoodT l) : ∀ o ∈ ordersS, ∀ t u, Says prog w 165 5 200 [.str o t, .str (S l) u] (fun t => .str (ranS l o) t) := fun o ho t u => by
  have q := c_after prog w o (S l) t u (by rw [S_list]; exact (fit_S h ho).1)
  rw [S_list] at q; exact q
theorem cd_l (prog : Program) (w : World) {l : List Nat} (h : GoodT l) : ∀ o ∈ ordersS, ∀ t u, Says prog w 172 5 200 [.str o t, .str (S l) u] (fun t => .str (ranS l o) t) := fun o ho t u => by
  have q := c_due prog w o (S l) t u (by rw [S_list]; exact (fit_S h ho).1)
  rw [S_list] at q; exact q
def Pass : Prop := True
def Stop2 : Prop := True
theorem stop2 : Stop2 := trivial
theorem pass : Pass := trivial
def BoolPost (b : Bool) (h₀ : Heap) (L : Addr) (m : Str → Option Value) (news : List (Addr × Obj)) (s : Shared) (v : Value) (s' : Shared) : Prop := ∃ h' tk', v = .bool b ∧ s' = { s with heap := h', toks := tk' } ∧ Fr h₀ L h' m ∧ News h₀ L h' news
def NextPost (h₀ : Heap) (L : Addr) (m : Str → Option Value) (news : List (Addr × Obj)) (s : Shared) (f : Flow) (s' : Shared) : Prop := ∃ h' tk', f = .next ∧ s' = { s with heap := h', toks := tk' } ∧ Fr h₀ L h' m ∧ News h₀ L h' news
theorem cut_bool {M : Model} {A : Around} {E : Value → Shared → Prop} {s : Shared} {T : Sem Value} {Q : Value → Shared → Prop} {h₀ : Heap} {L : Addr} {m : Str → Option Value} {news : List (Addr × Obj)} (b : Bool) (F : Fr h₀ L s.heap m) (N : News h₀ L s.heap news) (h1 : Fr h₀ L s.heap m → News h₀ L s.heap news → wpAny M A T (BoolPost b h₀ L m news s) E s) (h2 : ∀ h' tk', Fr h₀ L h' m → News h₀ L h' news → Q (.bool b) { s with heap := h', toks := tk' }) : wpAny M A T Q E s :=
  wpAny_mono (h1 F N) (fun v s' h => by obtain ⟨h', tk', rfl, rfl, F', N'⟩ := h; exact h2 h' tk' F' N') fun _ _ e => e
theorem cut_next {M : Model} {A : Around} {E : Value → Shared → Prop} {s : Shared} {T : Sem Flow} {Q : Flow → Shared → Prop} {h₀ : Heap} {L : Addr} {m : Str → Option Value} {news : List (Addr × Obj)} (F : Fr h₀ L s.heap m) (N : News h₀ L s.heap news) (h1 : Fr h₀ L s.heap m → News h₀ L s.heap news → wpAny M A T (NextPost h₀ L m news s) E s) (h2 : ∀ h' tk', Fr h₀ L h' m → News h₀ L h' news → Q .next { s with heap := h', toks := tk' }) : wpAny M A T Q E s :=
  wpAny_mono (h1 F N) (fun v s' h => by obtain ⟨h', tk', rfl, rfl, F', N'⟩ := h; exact h2 h' tk' F' N') fun _ _ e => e
theorem cut_put {M : Model} {A : Around} {E : Value → Shared → Prop} {s : Shared} {T : Sem Flow} {Q : Flow → Shared → Prop} {h₀ : Heap} {L : Addr} {m : Str → Option Value} {news : List (Addr × Obj)} (x : Str) (b : Bool) (F : Fr h₀ L s.heap m) (N : News h₀ L s.heap news) (h1 : Fr h₀ L s.heap m → News h₀ L s.heap news → wpAny M A T (NextPost h₀ L (fun y => if y = x then some (.bool b) else m y) news s) E s) (h2 : ∀ h' tk', Fr h₀ L h' (fun y => if y = x then some (.bool b) else m y) → News h₀ L h' news → Q .next { s with heap := h', toks := tk' }) : wpAny M A T Q E s :=
  wpAny_mono (h1 F N) (fun v s' h => by obtain ⟨h', tk', rfl, rfl, F', N'⟩ := h; exact h2 h' tk' F' N') fun _ _ e => e
theorem bool_end {b c : Bool} {h₀ h' : Heap} {L : Addr} {m : Str → Option Value} {news n2 : List (Addr × Obj)} {s : Shared} {tk' : Nat} (e : c = b) (F : Fr h₀ L h' m) (N : News h₀ L h' n2) (hs : ∀ p ∈ news, p ∈ n2) : BoolPost b h₀ L m news s (.bool c) { s with heap := h', toks := tk' } := ⟨h', tk', by rw [e], rfl, F, news_sub N hs⟩
theorem next_end {h₀ h' : Heap} {L : Addr} {m : Str → Option Value} {news n2 : List (Addr × Obj)} {s : Shared} {tk' : Nat} (F : Fr h₀ L h' m) (N : News h₀ L h' n2) (hs : ∀ p ∈ news, p ∈ n2) : NextPost h₀ L m news s .next { s with heap := h', toks := tk' } := ⟨h', tk', rfl, rfl, F, news_sub N hs⟩
theorem put_end {x : Str} {b c : Bool} {h₀ h' : Heap} {L : Addr} {m : Str → Option Value} {news n2 : List (Addr × Obj)} {s : Shared} {tk' : Nat} (e : c = b) (F : Fr h₀ L h' (fun y => if y = x then some (.bool c) else m y)) (N : News h₀ L h' n2) (hs : ∀ p ∈ news, p ∈ n2) : NextPost h₀ L (fun y => if y = x then some (.bool b) else m y) news s .next { s with heap := h', toks := tk' } := ⟨h', tk', rfl, rfl, e ▸ F, news_sub N hs⟩
theorem strs_get {us : List Value} {ss : List Str} (h : StrsAre us ss) : ∀ {i : Nat} {y : Str}, ss[i]? = some y → ∃ t, us[i]? = some (.str y t) := by
  induction h with
  | nil => intro i y e; simp at e
  | cons y t _ ih =>
    intro i v e
    cases i with
    | zero => exact ⟨t, by simp at e; rw [e]; rfl⟩
    | succ i => exact ih (by simpa using e)
theorem sub_told {prog : Program} {w : World} {A : Around} {E : Value → Shared → Prop} {s : Shared} {D : Addr} {us : List Value} {ss : List Str} {y : Str} {value slice : PySem.Expr} {Q : Value → Shared → Prop} {k : Int} {t : Tok} (hl : s.heap.IsList D us.toArray) (hs : StrsAre us ss) (hy : ss[k.toNat]? = some y) (h0 : 0 ≤ k) (h1 : k ≤ 65536) (h : ∀ t', Q (.str y t') s)
    (hsub : subscripted slice false (.ref D) (.int k t) = operate [.ref D, .int k t] (getItem (.ref D) (.int k t)) := by with_unfolding_all rfl) : wpAny (model prog w) A (subscriptTail value slice (.ref D) (.int k t)) Q E s := by
  obtain ⟨t', e⟩ := strs_get hs hy
  exact sub_at hl e h0 h1 (h t') hsub
theorem octs_any (l : List Nat) : ((octs l).any (· == 39)) = decide (39 ∈ octl l) := by
  rw [octs_octl, List.any_map, Bool.eq_iff_iff, List.any_eq_true, decide_eq_true_eq]
  constructor
  · rintro ⟨c, hc, e⟩
    have : (c : Int) = 39 := by simpa using e
    have : c = 39 := by omega
    exact this ▸ hc
  · intro h; exact ⟨39, h, rfl⟩
theorem notin_39 {prog : Program} {w : World} {A : Around} {E : Value → Shared → Prop} {s : Shared} {D : Addr} {us : List Value} {l : List Nat} {t : Tok} {Q : Value → Shared → Prop} (hl : s.heap.IsList D us.toArray) (hi : IntsAre us (octs l)) (h : Q (.bool (!decide (39 ∈ octl l))) s) : wpAny (model prog w) A (compareOp .NotIn (.int 39 t) (.ref D)) Q E s :=
  notin_list_ints hl hi (by rw [octs_any]; exact h)
theorem notin_39y {prog : Program} {w : World} {A : Around} {E : Value → Shared → Prop} {s : Shared} {D : Addr} {us : List Value} {l : List Nat} {t : Tok} {Q : Value → Shared → Prop} (hl : s.heap.IsList D us.toArray) (hi : IntsAre us (octs l)) (e : decide (39 ∈ octl l) = true) (h : Q (.bool false) s) : wpAny (model prog w) A (compareOp .NotIn (.int 39 t) (.ref D)) Q E s :=
  notin_39 hl hi (by rw [e]; exact h)
theorem notin_39n {prog : Program} {w : World} {A : Around} {E : Value → Shared → Prop} {s : Shared} {D : Addr} {us : List Value} {l : List Nat} {t : Tok} {Q : Value → Shared → Prop} (hl : s.heap.IsList D us.toArray) (hi : IntsAre us (octs l)) (e : decide (39 ∈ octl l) = false) (h : Q (.bool true) s) : wpAny (model prog w) A (compareOp .NotIn (.int 39 t) (.ref D)) Q E s :=
  notin_39 hl hi (by rw [e]; exact h)
theorem occ_us {l : List Nat} {b : Bool} (h : (Builtin.Str.occurrences (S l) (Str.ofString "_") 0 (S l).length 1).isEmpty = b) : decide (95 ∈ l) = !b := by
  have e : Str.ofString "_" = ⟨#[95]⟩ := by decide +kernel
  rw [e] at h
  have q := StrLaws.found_one (S l) 95
  rw [S_list, h] at q
  exact q.symm
theorem eq_strs_same {prog : Program} {w : World} {A : Around} {E : Value → Shared → Prop} {s : Shared} {a b : Addr} {xs ys : List Value} {ns ms : List Str} {Q : Value → Shared → Prop} (ha : s.heap.IsList a xs.toArray) (hb : s.heap.IsList b ys.toArray) (hi : StrsAre xs ns) (hj : StrsAre ys ms) (e : ns = ms) (h1 : ∀ y ∈ ns, PyData.strOk y = true) (hu : A.units + 64 < cLine) (h : Q (.bool true) s) :
    wpAny (model prog w) A (compareOp .Eq (.ref a) (.ref b)) Q E s := eq_strs ha hb hi hj h1 (e ▸ h1) hu (by rw [decide_eq_true e]; exact h)
theorem ran_ok {l : List Nat} (h : GoodT l) : ∀ y ∈ ordersS.map (ranS l), PyData.strOk y = true := fun y hy => by
  obtain ⟨o, ho, rfl⟩ := List.mem_map.mp hy
  exact (fit_S h ho).2
/-- may reading stand ahead of translating -/
def mnB (l : List Nat) : Bool := decide (95 ∉ l ∧ ∀ o ∈ octl l, special o = false)
def alB (l : List Nat) : Bool := if l = [] ∨ l.any must = true then !decide (39 ∈ octl l) else decide (95 ∉ l ∧ ∀ o ∈ octl l, must o = false)
theorem mn_yes {l : List Nat} {n : Nat} (h : (Builtin.Str.occurrences (S l) (Str.ofString "_") 0 (S l).length 1).isEmpty = true) (hn : (octl l).length ≤ n) : decide (siftI special l n = []) = mnB l := by
  have h1 : ¬ 95 ∈ l := of_decide_eq_false (occ_us h)
  exact decide_eq_decide.mpr ⟨fun q => ⟨h1, (siftI_nil hn).mp q⟩, fun q => (siftI_nil hn).mpr q.2⟩
theorem mn_no {l : List Nat} (h : (Builtin.Str.occurrences (S l) (Str.ofString "_") 0 (S l).length 1).isEmpty = false) : (!!(Builtin.Str.occurrences (S l) (Str.ofString "_") 0 (S l).length 1).isEmpty) = mnB l := by
  have h1 : 95 ∈ l := of_decide_eq_true (occ_us h)
  rw [h]; exact (decide_eq_false fun q => q.1 h1).symm
theorem al_y {l : List Nat} (h : l = [] ∨ l.any must = true) : (!decide (39 ∈ octl l)) = alB l := by unfold alB; rw [if_pos h]
theorem al_n1 {l : List Nat} {n : Nat} (hl : l ≠ []) (hm : l.any must = false) (h : (Builtin.Str.occurrences (S l) (Str.ofString "_") 0 (S l).length 1).isEmpty = true) (hn : (octl l).length ≤ n) : decide (siftI must l n = []) = alB l := by
  have h1 : ¬ 95 ∈ l := of_decide_eq_false (occ_us h)
  unfold alB
  rw [if_neg (fun q => by rcases q with q | q; exact hl q; rw [hm] at q; cases q)]
  exact decide_eq_decide.mpr ⟨fun q => ⟨h1, (siftI_nil hn).mp q⟩, fun q => (siftI_nil hn).mpr q.2⟩
theorem al_n2 {l : List Nat} (hl : l ≠ []) (hm : l.any must = false) (h : (Builtin.Str.occurrences (S l) (Str.ofString "_") 0 (S l).length 1).isEmpty = false) : (!!(Builtin.Str.occurrences (S l) (Str.ofString "_") 0 (S l).length 1).isEmpty) = alB l := by
  have h1 : 95 ∈ l := of_decide_eq_true (occ_us h)
  unfold alB
  rw [if_neg (fun q => by rcases q with q | q; exact hl q; rw [hm] at q; cases q), h]; exact (decide_eq_false fun q => q.1 h1).symm
theorem must_no {l : List Nat} (h : decide (sift must (S l).cps.toList (S l).cps.size = []) = true) : l.any must = false := by
  have h1 : sift must (S l).cps.toList (S l).cps.size = [] := of_decide_eq_true h
  have := (sift_nil (f := must) rfl).mp h1
  rwa [S_list] at this
theorem must_yes {l : List Nat} (h : decide (sift must (S l).cps.toList (S l).cps.size = []) = false) : l.any must = true := by
  have h1 : ¬ sift must (S l).cps.toList (S l).cps.size = [] := of_decide_eq_false h
  rw [← Bool.not_eq_false]
  intro e
  exact h1 ((sift_nil (f := must) rfl).mpr (by rw [S_list]; exact e))
theorem empty_yes {l : List Nat} (h : l = []) : (S l == Str.ofString "") = true := by subst h; decide +kernel
theorem empty_no {l : List Nat} (h : l ≠ []) : (S l == Str.ofString "") = false := by
  rw [beq_eq_false_iff_ne]
  intro e
  have : (S l).cps.toList = [] := by rw [e]; decide +kernel
  rw [S_list] at this; exact h this
theorem told_A (l : List Nat) : (S (shellL (patL (dec l))) == S (shellL (dec (patL l)))) = mnB l := by
  rw [S_beq]; exact decide_eq_decide.mpr (law_A l)
theorem told_B (l : List Nat) : (S (patL (dec (shellL l))) == S (dec (patL (shellL l)))) = mnB l := by
  rw [S_beq]; exact decide_eq_decide.mpr (law_B l)
theorem told_C (l : List Nat) : (S (shellL (dec (patL l))) == S (dec (shellL (patL l)))) = !decide (39 ∈ octl l) := by
  rw [S_beq, ← decide_not]; exact decide_eq_decide.mpr (law_C l)
theorem told_D (l : List Nat) : (S (patL (shellL (dec l))) == S (patL (dec (shellL l)))) = alB l := by
  rw [S_beq]
  unfold alB
  by_cases h : l = [] ∨ l.any must = true
  · rw [if_pos h, ← decide_not]; exact decide_eq_decide.mpr (law_D1 h)
  · rw [if_neg h]
    exact decide_eq_decide.mpr (law_D2 (fun q => h (.inl q)) (by rw [← Bool.not_eq_true]; exact fun q => h (.inr q)))
local macro_rules | `(tactic| walk_at "CompSrcT") => `(tactic| (refine Hold.out ?_))
local macro_rules | `(tactic| walk_at "newList") => `(tactic| (k_here; (with_reducible show wpAny _ _ (newList [Value.str (Str.ofString "dqt") _, _, _, _, _, _]) _ _ _); k_dflt (refine' newList_strs (ss := ordersS) ?k1 ?k2 ?kw ?kz ?_; (case k1 => k_asm); (case k2 => k_asm); (case kw => (unfold ordersS; repeat (first | exact .nil | refine .cons _ _ ?_))); (case kz => decide); k_whole); intro l' h' us' hW' F' N' l1; (try simp only [AllLt, and_true] at l1); (try k_sweep)))
local macro_rules | `(tactic| walk_at "call ref") => `(tactic| (refine Hold.out ?_))
local macro_rules | `(tactic| walk_at "call ref") => `(tactic| (k_here; k_dflt (refine' saysL_use ?kC ?k1 ?k2 ?k3 ?k4 ?k5 ?k6 ?k7 ?k8 ?_; (case kC => first | assumption | exact (by assumption : ∀ t, SaysL _ _ 127 _ _ [.str _ t] _) _); (case k1 => k_asm); (case k2 => k_asm); (case k3 => k_asm); (case k4 => k_asm); (case k5 => k_asm); (case k6 => first | exact rfl | assumption); (case k7 => ktr_room); (case k8 => ktr_units); intro l9 us9 n9 h9 tk9 hi9 F9 N9 lt9'; (have lt9 := allLt_of lt9'); (clear lt9'); (simp only [AllLt, and_true] at lt9); (try k_fold))))
local macro_rules | `(tactic| walk_at "call ref") => `(tactic| (k_here; k_dflt (refine' says_two ?kC ?k1 ?k2 ?k3 ?k4 ?k5 ?k6 ?k7 ?k8 ?_; (case kC => assumption); (case k1 => k_asm); (case k2 => k_asm); (case k3 => k_asm); (case k4 => k_asm); (case k5 => k_asm); (case k6 => first | exact rfl | assumption); (case k7 => ktr_room); (case k8 => ktr_units); intro t9 h9 tk9 F9 N9; (try dsimp only); (try k_fold))))
local macro_rules | `(tactic| walk_at "call ref") => `(tactic| (k_here; k_dflt (refine' says_all ?kC ?k1 ?k2 ?k3 ?k4 ?k5 ?k6 ?k7 ?k8 ?_; (case kC => assumption); (case k1 => k_asm); (case k2 => k_asm); (case k3 => k_asm); (case k4 => k_asm); (case k5 => k_asm); (case k6 => first | exact rfl | assumption); (case k7 => ktr_room); (case k8 => ktr_units); intro t9 h9 tk9 F9 N9; (try dsimp only); (try k_fold))))
local macro_rules | `(tactic| walk_at "eval ListComp") => `(tactic| (k_here; (with_reducible show wpAny _ _ (eval (PySem.Expr.ListComp _ [⟨PySem.Expr.Name (Str.ofString "octet") _, _, _, _⟩] _ _) _) _ _ _); k_dflt (refine LCt.ListComp_T (F₀ := by k_asm) (by with_unfolding_all rfl) (by decide) (by rfl) (by decide) (by rfl) ?_)))
local macro_rules | `(tactic| walk_at "eval ListComp") => `(tactic| (k_here; (with_reducible show wpAny _ _ (eval (PySem.Expr.ListComp _ [⟨PySem.Expr.Name (Str.ofString "sign") _, _, _, _⟩] _ _) _) _ _ _); k_dflt (refine ListComp_S (F₀ := by k_asm) (by rfl) (by decide) (by rfl) (by decide) (by rfl) ?_)))
local macro_rules | `(tactic| walk_at "eval ListComp") => `(tactic| (k_here; (with_reducible show wpAny _ _ (eval (PySem.Expr.ListComp _ [⟨PySem.Expr.Name (Str.ofString "order") _, _, _, _⟩] _ _) _) _ _ _); k_dflt (refine LCg.ListComp_U (F₀ := by k_asm) (by with_unfolding_all rfl) (by decide) (by rfl) (by decide) (by rfl) ?_)))
local macro_rules | `(tactic| walk_at "exec Assign cons ListComp") => `(tactic| (k_here; k_dflt (refine LCg.Assign_ListComp_U (F₀ := by k_asm) (by rfl) (by with_unfolding_all rfl) (by with_unfolding_all rfl) (by decide) (by rfl) (by decide) (by rfl) (by rfl) (by rfl) ?_)))
local macro_rules | `(tactic| walk_at "compareOp Eq str str") => `(tactic| (k_here; k_dflt (first | (refine' eq_yes ?ke ?_; (case ke => assumption); k_whole) | (refine' eq_no ?ke ?_; (case ke => assumption); k_whole))))
local macro_rules | `(tactic| walk_at "subscriptTail") => `(tactic| (k_here; (try dsimp only); (with_reducible show wpAny _ _ (subscriptTail _ _ (Value.ref _) (Value.int _ _)) _ _ _); k_dflt (refine' sub_told ?kl ?kx ?kv ?kj ?kz ?_ ?ks; (case kl => exact News.isList (by k_asm) (by k_mem)); (case kx => assumption); (case kv => exact rfl); (case kj => decide); (case kz => decide); (case ks => with_unfolding_all rfl); k_whole); intro t9))
local macro_rules | `(tactic| walk_at "compareOp NotIn int ref") => `(tactic| (k_here; k_dflt (first | (refine' notin_39y (l := _) ?kl ?ki ?ke ?_; (case kl => exact News.isList (by k_asm) (by k_mem)); (case ki => assumption); (case ke => assumption); k_whole) | (refine' notin_39n (l := _) ?kl ?ki ?ke ?_; (case kl => exact News.isList (by k_asm) (by k_mem)); (case ki => assumption); (case ke => assumption); k_whole) | (refine' notin_39 (l := _) ?kl ?ki ?_; (case kl => exact News.isList (by k_asm) (by k_mem)); (case ki => assumption); k_whole))))
local macro_rules | `(tactic| walk_at "compareOp NotEq ref ref") => `(tactic| (k_here; k_dflt (refine' ne_strs ?ka ?kb ?ki ?kj ?ko ?kp ?ku ?_; (case ka => exact News.isList (by k_asm) (by k_mem)); (case kb => exact News.isList (by k_asm) (by k_mem)); (case ki => assumption); (case kj => exact StrsAre.nil); (case ko => assumption); (case kp => exact List.forall_mem_nil _); (case ku => ktr_units))))
local macro_rules | `(tactic| walk_at "compareOp Eq ref ref") => `(tactic| (k_here; k_dflt (refine' eq_strs_same ?ka ?kb ?ki ?kj ?ke ?ko ?ku ?_; (case ka => exact News.isList (by k_asm) (by k_mem)); (case kb => exact News.isList (by k_asm) (by k_mem)); (case ki => assumption); (case kj => assumption); (case ke => exact rfl); (case ko => assumption); (case ku => ktr_units); k_whole)))
local macro_rules | `(tactic| walk_at "exec If") => `(tactic| ((fail_if_success rename Pass => hPs); refine Hold.out ?_))
local macro_rules | `(tactic| walk_at "eval BoolOp") => `(tactic| ((fail_if_success rename Pass => hPs); refine Hold.out ?_))
local macro_rules | `(tactic| walk_at "eval Compare") => `(tactic| ((rename Stop2 => hSt); refine Hold.out ?_))
local macro_rules | `(tactic| walk_at "BoolPost") => `(tactic| (refine Hold.out ?_))
local macro_rules | `(tactic| walk_at "NextPost") => `(tactic| (refine Hold.out ?_))
set_option maxHeartbeats 4000000 in
theorem last_dev : PySem.Challenge.rw_in0158_01.Holds := Mine.hd ⟨Mine.left, (by
  k_go0
  k_steps
  unfold Hold
  rename (IntsAre _ _) => hI
  rename (¬ (_ : Int) < _) => hns
  have hvl := hI.length
  refine' saysT_use ?kC ?k1 ?k2 ?k3 ?k4 ?k5 ?k6 ?k7 ?k8 ?i1 ?i2 ?i3 ?_
  case kC => exact c_text _ _
  case k1 => k_asm
  case k2 => k_asm
  case k3 => k_asm
  case k4 => k_asm
  case k5 => k_asm
  case k6 => exact rfl
  case k7 => ktr_room
  case k8 => ktr_units
  case i1 => assumption
  case i2 => assumption
  case i3 => omega
  intro l t1 h1 tk1 hG F1 N1
  have hl24 := hG.1
  rename World => w9
  have CO := co_l PySem.Challenge.rw_in0158_01.row.prog w9 hG
  have CA := ca_l PySem.Challenge.rw_in0158_01.row.prog w9 hG
  have CD := cd_l PySem.Challenge.rw_in0158_01.row.prog w9 hG
  k_steps
  unfold Hold
  rename (StrsAre _ ordersS) => hO
  rename (IntsAre _ (octs l)) => hOI
  (rename Fr _ _ _ _ => F2); (rename News _ _ _ _ => N2)
  refine LCg.CompSrc.ledger rfl F2 N2 (.head _) (by have := hO.length; rw [List.size_toArray, PySem.sizeLine_eq, this]; decide) ?_
  intro g
  refine rest_inv (fun i ys nw => nw = _ ∧ StrsAre ys ((ordersS.take i).map (ranS l))) ?_ ?_ _ 0 [] _ (Nat.zero_add _) ⟨rfl, .nil⟩
  · intro i ys nw hi hJ v I oI C oC D m₂ h tk E' hP hC hx F N o ne
    obtain ⟨rfl, hJ⟩ := hJ
    obtain ⟨y, t, rfl, hy⟩ := strs_at hO (by simpa using hP)
    have C2 := CA y (List.mem_of_getElem? hy)
    k_steps
    unfold Hold
    refine LCg.CompEnd.intro (by assumption) (by assumption) _ (fun _ h => h) o (.inr ⟨_, .head _, rfl, _, rfl⟩) ⟨rfl, ?_⟩
    rw [List.take_add_one, hy, List.map_append]
    exact hJ.append' (.cons _ _ .nil)
  · intro ys nw hJ
    obtain ⟨rfl, hJ⟩ := hJ
    have hsz6 : ordersS.length = 6 := rfl
    rw [List.size_toArray, hO.length, List.take_length, ran_list] at hJ
    k_steps
    unfold Hold
    (rename Fr _ _ _ _ => F3); (rename News _ _ _ _ => N3)
    refine cut_bool (mnB l) F3 N3 ?_ ?_
    · clear F3 N3
      intro F3 N3
      have hps := pass
      k_steps
      all_goals unfold Hold
      · (rename Fr _ _ _ _ => F3); (rename News _ _ _ _ => N3)
        refine LCt.CompSrcT.ledger rfl F3 N3 (.tail _ (.tail _ (.head _))) (by rw [List.size_toArray, PySem.sizeLine_eq, hOI.length, octs_octl, List.length_map]; have := octl_len l; omega) ?_
        intro g
        refine restT_inv (fun i ys nw => nw = _ ∧ IntsAre ys (siftI special l i)) ?_ ?_ _ 0 [] _ (Nat.zero_add _) ⟨rfl, .nil⟩
        · intro i ys nw hi hJ v I oI C oC D m₂ h tk E' hP hC hx F N o ne
          obtain ⟨rfl, hJ⟩ := hJ
          obtain ⟨z, t, rfl, hz⟩ := ints_at hOI (by simpa using hP)
          obtain ⟨c, hc, rfl⟩ := oct_at hz
          have hc256 := octl_lt l c (List.mem_of_getElem? hc)
          have Cm := fun t => c_special PySem.Challenge.rw_in0158_01.row.prog w9 (Int.toNat (c : Int)) t
          have hs := siftI_snoc (f := special) hc
          k_steps
          · unfold Hold
            refine LCg.CompEnd.intro (by assumption) (by assumption) _ (fun _ h => h) o (.inr ⟨_, .tail _ (.tail _ (.head _)), rfl, _, rfl⟩) ⟨rfl, ?_⟩
            rw [hs, if_pos (by simpa using (by assumption : special (Int.toNat (c : Int)) = true))]
            exact hJ.append (.cons _ _ .nil)
          · unfold Hold
            refine LCg.CompEnd.intro (by assumption) (by assumption) _ (fun _ h => h) o (.inr ⟨_, .tail _ (.tail _ (.head _)), rfl, _, rfl⟩) ⟨rfl, ?_⟩
            rw [hs, if_neg (by have := (by assumption : special (Int.toNat (c : Int)) = false); simp at this; simp [this]), List.append_nil]
            exact hJ
        · intro ys nw hJ
          obtain ⟨rfl, hJ⟩ := hJ
          k_steps
          unfold Hold
          exact bool_end (mn_yes (by assumption) (by rw [List.size_toArray, hOI.length, octs_octl, List.length_map]; exact Nat.le_refl _)) (by assumption) (by assumption) (fun p hp => .tail _ (.tail _ hp))
      · exact bool_end (mn_no (by assumption)) (by assumption) (by assumption) (fun p hp => hp)
    · clear F3 N3
      intro h4 tk4 F4 N4
      k_steps
      unfold Hold
      (rename Fr _ _ _ _ => F5); (rename News _ _ _ _ => N5)
      refine cut_next F5 N5 ?_ ?_
      · clear F5 N5
        intro F5 N5
        have hps := pass
        have tA := told_A l
        have tB := told_B l
        generalize mnB l = mn at tA tB F5 ⊢
        cases mn
        · k_steps
          unfold Hold
          exact next_end (by assumption) (by assumption) (fun p hp => hp)
        · k_steps
          unfold Hold
          exact next_end (by assumption) (by assumption) (fun p hp => hp)
      · clear F5 N5
        intro h6 tk6 F6 N6
        k_steps
        unfold Hold
        (rename Fr _ _ _ _ => F7); (rename News _ _ _ _ => N7)
        refine cut_next F7 N7 ?_ ?_
        · clear F7 N7
          intro F7 N7
          have hps := pass
          have tC := told_C l
          cases h39 : decide (39 ∈ octl l)
          · rw [h39, Bool.not_false] at tC
            k_steps
            unfold Hold
            exact next_end (by assumption) (by assumption) (fun p hp => hp)
          · rw [h39, Bool.not_true] at tC
            k_steps
            unfold Hold
            exact next_end (by assumption) (by assumption) (fun p hp => hp)
        · clear F7 N7
          intro h8 tk8 F8 N8
          k_steps
          unfold Hold
          (rename Fr _ _ _ _ => F9); (rename News _ _ _ _ => N9)
          refine cut_put (Str.ofString "alike") (alB l) F9 N9 ?_ ?_
          · clear F9 N9
            intro F9 N9
            have hps := pass
            by_cases hl : l = []
            · have he := empty_yes hl
              k_steps
              unfold Hold
              exact put_end (al_y (.inl hl)) (by assumption) (by assumption) (fun p hp => hp)
            · have he := empty_no hl
              k_steps
              unfold Hold
              (rename Fr _ _ _ _ => Fa); (rename News _ _ _ _ => Na)
              refine CompSrcS.intro rfl Fa Na (by have : (S l).cps.size = l.length := S_len l; rw [this, PySem.sizeLine_eq]; omega) ?_
              intro g
              refine restT_inv (fun i ys nw => nw = _ ∧ StrsAre ys (sift must (S l).cps.toList i)) ?_ ?_ _ 0 [] _ (Nat.zero_add _) ⟨rfl, .nil⟩
              · intro i ys nw hi hJ v I oI C oC D m₂ h tk E' hP hC hx F N o ne
                obtain ⟨rfl, hJ⟩ := hJ
                obtain ⟨c, u, hc, rfl⟩ := hP
                have Cm := fun t => c_must PySem.Challenge.rw_in0158_01.row.prog w9 c t
                have hs := sift_snoc (f := must) hc
                k_steps
                · unfold Hold
                  refine LCg.CompEnd.intro (by assumption) (by assumption) _ (fun _ h => h) o trivial ⟨rfl, ?_⟩
                  rw [hs, if_pos (by assumption)]
                  exact hJ.append' (.cons _ _ .nil)
                · unfold Hold
                  refine LCg.CompEnd.intro (by assumption) (by assumption) _ (fun _ h => h) o trivial ⟨rfl, ?_⟩
                  rw [hs, if_neg (by simp_all), List.append_nil]
                  exact hJ
              · intro ys nw hJ
                obtain ⟨rfl, hJ⟩ := hJ
                have hok := sift_ok (f := must) (l := (S l).cps.toList) (i := (S l).cps.size) (by rw [S_list]; exact hG.2.1)
                k_steps
                all_goals unfold Hold
                · rename (decide (sift must (S l).cps.toList (S l).cps.size = []) = true) => hmf
                  (rename Fr _ _ _ _ => Fb); (rename News _ _ _ _ => Nb)
                  refine LCt.CompSrcT.ledger rfl Fb Nb (.tail _ (.tail _ (.tail _ (.tail _ (.head _))))) (by rw [List.size_toArray, PySem.sizeLine_eq, hOI.length, octs_octl, List.length_map]; have := octl_len l; omega) ?_
                  intro g
                  refine restT_inv (fun i ys nw => nw = _ ∧ IntsAre ys (siftI must l i)) ?_ ?_ _ 0 [] _ (Nat.zero_add _) ⟨rfl, .nil⟩
                  · intro i ys nw hi hJ v I oI C oC D m₂ h tk E' hP hC hx F N o ne
                    obtain ⟨rfl, hJ⟩ := hJ
                    obtain ⟨z, t, rfl, hz⟩ := ints_at hOI (by simpa using hP)
                    obtain ⟨c, hc, rfl⟩ := oct_at hz
                    have hc256 := octl_lt l c (List.mem_of_getElem? hc)
                    have Cm := fun t => c_must PySem.Challenge.rw_in0158_01.row.prog w9 (Int.toNat (c : Int)) t
                    have hs := siftI_snoc (f := must) hc
                    k_steps
                    · unfold Hold
                      refine LCg.CompEnd.intro (by assumption) (by assumption) _ (fun _ h => h) o (.inr ⟨_, .tail _ (.tail _ (.tail _ (.tail _ (.head _)))), rfl, _, rfl⟩) ⟨rfl, ?_⟩
                      rw [hs, if_pos (by simpa using (by assumption : must (Int.toNat (c : Int)) = true))]
                      exact hJ.append (.cons _ _ .nil)
                    · unfold Hold
                      refine LCg.CompEnd.intro (by assumption) (by assumption) _ (fun _ h => h) o (.inr ⟨_, .tail _ (.tail _ (.tail _ (.tail _ (.head _)))), rfl, _, rfl⟩) ⟨rfl, ?_⟩
                      rw [hs, if_neg (by have := (by assumption : must (Int.toNat (c : Int)) = false); simp at this; simp [this]), List.append_nil]
                      exact hJ
                  · intro ys nw hJ
                    obtain ⟨rfl, hJ⟩ := hJ
                    k_steps
                    unfold Hold
                    refine put_end ?he9 (by assumption) (by assumption) (fun p hp => .tail _ (.tail _ (.tail _ (.tail _ hp))))
                    exact al_n1 hl (must_no hmf) (by assumption) (by rw [List.size_toArray, hOI.length, octs_octl, List.length_map]; exact Nat.le_refl _)
                · rename (decide (sift must (S l).cps.toList (S l).cps.size = []) = true) => hmf
                  exact put_end (al_n2 hl (must_no hmf) (by assumption)) (by assumption) (by assumption) (fun p hp => .tail _ (.tail _ hp))
                · exact put_end (al_y (.inr (must_yes (by assumption)))) (by assumption) (by assumption) (fun p hp => .tail _ (.tail _ hp))
          · clear F9 N9
            intro h10 tk10 F10 N10
            k_steps
            unfold Hold
            have hps := pass
            have tD := told_D l
            generalize alB l = al at tD F10
            have hst := stop2
            k_steps
            unfold Hold
            rename Stop2 => hst2
            clear hst2
            (rename Fr _ _ _ _ => Fc); (rename News _ _ _ _ => Nc)
            refine cut_bool true Fc Nc ?_ ?_
            · clear Fc Nc
              intro Fc Nc
              cases al
              · k_steps
                unfold Hold
                exact bool_end rfl (by assumption) (by assumption) (fun p hp => hp)
              · k_steps
                unfold Hold
                exact bool_end rfl (by assumption) (by assumption) (fun p hp => hp)
            · clear Fc Nc
              intro h12 tk12 F12 N12
              k_steps
              unfold Hold
              (rename Fr _ _ _ _ => Fa); (rename News _ _ _ _ => Na)
              refine LCg.CompSrc.ledger rfl Fa Na (.tail _ (.head _)) (by have := hO.length; rw [List.size_toArray, PySem.sizeLine_eq, this]; decide) ?_
              intro g
              refine rest_inv (fun i ys nw => nw = _ ∧ StrsAre ys ((ordersS.take i).map (ranS l))) ?_ ?_ _ 0 [] _ (Nat.zero_add _) ⟨rfl, .nil⟩
              · intro i ys nw hi hJ v I oI C oC D m₂ h tk E' hP hC hx F N o ne
                obtain ⟨rfl, hJ⟩ := hJ
                obtain ⟨y, t, rfl, hy⟩ := strs_at hO (by simpa using hP)
                have C2 := CD y (List.mem_of_getElem? hy)
                k_steps
                unfold Hold
                refine LCg.CompEnd.intro (by assumption) (by assumption) _ (fun _ h => h) o (.inr ⟨_, .tail _ (.head _), rfl, _, rfl⟩) ⟨rfl, ?_⟩
                rw [List.take_add_one, hy, List.map_append]
                exact hJ.append' (.cons _ _ .nil)
              · intro ys nw hJ2
                obtain ⟨rfl, hJ2⟩ := hJ2
                rw [List.size_toArray, hO.length, List.take_length, ran_list] at hJ2
                have hok := ran_ok hG
                rw [ran_list] at hok
                k_steps)⟩
end Mine
end
theorem PySem.Challenge.cw_in0158_01_holds : PySem.Challenge.rw_in0158_01.Holds :=
  Mine.last_dev
