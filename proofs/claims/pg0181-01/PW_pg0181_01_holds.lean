import PyProof.Rows.All
import Wide.All
import OpenK.AllK
import Wide.FinOn
import PySem.Challenge.RW_pg0181_01
set_option Elab.async false
set_option compiler.extract_closed false
set_option maxRecDepth 100000
set_option linter.all false
section
open PySem PySem.W PyProof.Rows
set_option maxRecDepth 100000
set_option maxHeartbeats 8000000
namespace Mine
open_top hd for PySem.Challenge.rw_pg0181_01
end Mine
end
section
open PySem PySem.W PyProof.Rows
theorem Mine.walk_off : True := by
  w_top off
  trivial
end
section
namespace Mine
theorem rmA {zn zc zi zj zR : Nat} (zh : zn + zc < zR) (zhj : zi + zj ≤ zc) : zn + zi + zj < zR := Nat.lt_of_le_of_lt (Nat.add_assoc zn zi zj ▸ Nat.add_le_add_left zhj zn) zh
theorem rmB {zn zc zj zR : Nat} (zh : zn + zc < zR) (zhj : zj ≤ zc) : zn + zj < zR := Nat.lt_of_le_of_lt (Nat.add_le_add_left zhj zn) zh
theorem rmC {zn zc zR : Nat} (zh : zn + zc < zR) : zn < zR := Nat.lt_of_le_of_lt (Nat.le_add_right _ _) zh
theorem lqA {zn zc zd : Nat} (zh : zn ≤ zc) (zhj : zc ≤ zd) : zn ≤ zd := Nat.le_trans zh zhj
theorem lqB {zn zc zi zd : Nat} (zh : zn + zi ≤ zc) (zhj : zc ≤ zd) : zn ≤ zd := Nat.le_trans (Nat.le_trans (Nat.le_add_right _ _) zh) zhj
theorem ltA {zn zc zm : Nat} (zh : zn + zc < zm) : zn < zm := Nat.lt_of_le_of_lt (Nat.le_add_right _ _) zh
theorem ltT {za zi zb zc : Nat} (zh : za + zi < zb) (zh2 : zb < zc) : za < zc := Nat.lt_trans (Nat.lt_of_le_of_lt (Nat.le_add_right _ _) zh) zh2
theorem i63 {zi zc : Nat} (zh : zi ≤ zc) (zhc : zc ≤ 1000000) : (zi : Int) < 2 ^ 63 := by omega
theorem iLe {zi zc : Nat} {zd : Int} (zh : zi ≤ zc) (zhc : (zc : Int) ≤ zd) : (zi : Int) ≤ zd := Int.le_trans (Int.ofNat_le.mpr zh) zhc
theorem i0 {zn zk : Nat} (zh : zk < zn) : (0 : Int) < (zn : Int) - (zk : Int) := Int.sub_pos_of_lt (Int.ofNat_lt.mpr zh)
theorem i1 {zn zk : Nat} (zh : ¬ zk < zn) : (zn : Int) - (zk : Int) ≤ 0 := Int.sub_nonpos_of_le (Int.ofNat_le.mpr (Nat.le_of_not_lt zh))
theorem mnL {zn zk : Nat} (zh : zk < zn) : min zk zn = zk := Nat.min_eq_left (Nat.le_of_lt zh)
theorem a2 {zx za zb : Prop} (zh : zx ∧ za ∧ zb) : za := zh.2.1
theorem a3 {zx zy za zb : Prop} (zh : zx ∧ zy ∧ za ∧ zb) : za := zh.2.2.1
theorem a4 {zx zy zz za zb : Prop} (zh : zx ∧ zy ∧ zz ∧ za ∧ zb) : za := zh.2.2.2.1
theorem a5 {zx zy zz zu za zb : Prop} (zh : zx ∧ zy ∧ zz ∧ zu ∧ za ∧ zb) : za := zh.2.2.2.2.1
theorem a6 {zx zy zz zu zv za zb : Prop} (zh : zx ∧ zy ∧ zz ∧ zu ∧ zv ∧ za ∧ zb) : za := zh.2.2.2.2.2.1
theorem a7 {zx zy zz zu zv zw za zb : Prop} (zh : zx ∧ zy ∧ zz ∧ zu ∧ zv ∧ zw ∧ za ∧ zb) : za := zh.2.2.2.2.2.2.1
theorem a8 {zx zy zz zu zv zw zx' za zb : Prop} (zh : zx ∧ zy ∧ zz ∧ zu ∧ zv ∧ zw ∧ zx' ∧ za ∧ zb) : za := zh.2.2.2.2.2.2.2.1
theorem a9 {zx zy zz zu zv zw zx' zy' za zb : Prop} (zh : zx ∧ zy ∧ zz ∧ zu ∧ zv ∧ zw ∧ zx' ∧ zy' ∧ za ∧ zb) : za := zh.2.2.2.2.2.2.2.2.1
theorem b2 {zx za : Prop} (zh : zx ∧ za) : za := zh.2
theorem b3 {zx zy za : Prop} (zh : zx ∧ zy ∧ za) : za := zh.2.2
theorem b4 {zx zy zz za : Prop} (zh : zx ∧ zy ∧ zz ∧ za) : za := zh.2.2.2
theorem b9 {zx zy zz zu zv zw zx' zy' za : Prop} (zh : zx ∧ zy ∧ zz ∧ zu ∧ zv ∧ zw ∧ zx' ∧ zy' ∧ za) : za := zh.2.2.2.2.2.2.2.2
theorem b10 {zx zy zz zu zv zw zx' zy' zz' za : Prop} (zh : zx ∧ zy ∧ zz ∧ zu ∧ zv ∧ zw ∧ zx' ∧ zy' ∧ zz' ∧ za) : za := zh.2.2.2.2.2.2.2.2.2
theorem ltI {za zb : Nat} (zh : za < zb) : za < zb := zh
theorem leI {za zb : Nat} (zh : za ≤ zb) : za ≤ zb := zh
theorem zleI {za zb : Int} (zh : za ≤ zb) : za ≤ zb := zh
theorem zltI {za zb : Int} (zh : za < zb) : za < zb := zh
theorem neI {za zb : Nat} (zh : za ≠ zb) : za ≠ zb := zh
theorem lqE {zm zk zn zc zd : Nat} (ze : zm = zk) (zh : zk < zn) (zh2 : zn ≤ zc) (zhd : zc ≤ zd) : zm ≤ zd := ze ▸ Nat.le_trans (Nat.le_trans (Nat.le_of_lt zh) zh2) zhd
theorem lqF {zm zk zc zd : Nat} (ze : zm = zk) (zh : zk ≤ zc) (zhd : zc ≤ zd) : zm ≤ zd := ze ▸ Nat.le_trans zh zhd
theorem lqG {zm zk zn zc zd : Nat} (ze : zm = zk) (zh : zk ≤ zn) (zh2 : zn ≤ zc) (zhd : zc ≤ zd) : zm ≤ zd := ze ▸ Nat.le_trans (Nat.le_trans zh zh2) zhd
theorem sz2 {za zb zc zd zM : Nat} (zh1 : za ≤ zc) (zh2 : zb ≤ zd) (zh : zc + zd ≤ zM) : za + zb ≤ zM := Nat.le_trans (Nat.add_le_add zh1 zh2) zh
theorem sz3 {za zb zc zd ze zf zM : Nat} (zh1 : za ≤ zd) (zh2 : zb ≤ ze) (zh3 : zc ≤ zf) (zh : zd + ze + zf ≤ zM) : za + zb + zc ≤ zM := Nat.le_trans (Nat.add_le_add (Nat.add_le_add zh1 zh2) zh3) zh
theorem sz4 {za zb zc za' zd ze zf zd' zM : Nat} (zh1 : za ≤ zd) (zh2 : zb ≤ ze) (zh3 : zc ≤ zf) (zh4 : za' ≤ zd') (zh : zd + ze + zf + zd' ≤ zM) : za + zb + zc + za' ≤ zM := Nat.le_trans (Nat.add_le_add (Nat.add_le_add (Nat.add_le_add zh1 zh2) zh3) zh4) zh
theorem sbLo {zn : Nat} (zh : zn ≤ 3) : (-1000 : Int) ≤ 3 - (zn : Int) ∧ 3 - (zn : Int) ≤ 100000 ∧ (3 - (zn : Int)).toNat + zn ≤ 100000 := by omega
theorem sb4 {zn : Nat} (zh : zn ≤ 3) : (-2 ^ 63 : Int) ≤ 4 - (zn : Int) ∧ 4 - (zn : Int) ≤ ((1048576 : Nat) : Int) ∧ 0 ≤ 4 - (zn : Int) := by omega
theorem sb4M {zn zM : Nat} (zh : 1 ≤ zn) (ze : (zM : Int) = ((1 : Nat) : Int) * (4 - (zn : Int))) : zM ≤ 4 := by omega
theorem ngN {zn : Nat} : (-1000 : Int) ≤ (zn : Int) := Int.le_trans (by decide) (Int.natCast_nonneg zn)
theorem i63b {zk zn zc : Nat} (zh : zk < zn) (zh2 : zn ≤ zc) (zhc : zc ≤ 1000000) : (zk : Int) < 2 ^ 63 := i63 (Nat.le_trans (Nat.le_of_lt zh) zh2) zhc
theorem lqH {zk zn zc zd : Nat} (zh : zk < zn) (zh2 : zn ≤ zc) (zhc : zc ≤ zd) : zk ≤ zd := Nat.le_trans (Nat.le_trans (Nat.le_of_lt zh) zh2) zhc
theorem sz2b {za zb zc zd ze zM : Nat} (zh1 : za ≤ zc) (zh2 : zb + ze ≤ zd) (zh : zc + zd ≤ zM) : za + zb ≤ zM := Nat.le_trans (Nat.add_le_add zh1 (Nat.le_trans (Nat.le_add_right _ _) zh2)) zh
theorem sz3b {za zb zc ze zd zM : Nat} (zh1 : za ≤ zc) (zh2 : zb + ze ≤ zd) (zh : zc + zd ≤ zM) : za + zb + ze ≤ zM := Nat.add_assoc za zb ze ▸ Nat.le_trans (Nat.add_le_add zh1 zh2) zh
theorem pos1 {za zk : Nat} (zh : za + 1 ≤ zk) : 0 < zk := Nat.lt_of_lt_of_le (Nat.succ_pos _) zh
theorem mnLe {zk zn : Nat} (zh : zk ≤ zn) : min zk zn = zk := Nat.min_eq_left zh
theorem three {zk : Nat} (zh : zk < 3) : zk = 0 ∨ zk = 1 ∨ zk = 2 := by omega
theorem nab {zq : Int} (zh0 : 0 < zq) (zh : zq ≤ 25) : zq.natAbs < 1073741824 := by omega
theorem i1e {zn zk : Nat} (zh : zk = zn) : (zn : Int) - (zk : Int) ≤ 0 := i1 (zh ▸ Nat.lt_irrefl _)
theorem encLe {za zi zn : Nat} (zh : za ≤ min zi zn * (2 * 100 + 2)) (zhn : zn ≤ 10) : za ≤ 10000 := by omega
theorem midF {zlo zhi : Int} {zn : Nat} (zhn : zn ≤ 10000) (ze1 : 0 ≤ zlo) (ze3 : zhi ≤ (zn : Int)) (zhlt : zlo < zhi) :
    0 ≤ zlo + zhi ∧ 0 ≤ (zlo + zhi) / 2 ∧ zlo ≤ (zlo + zhi) / 2 ∧ (zlo + zhi) / 2 < 2 ^ 63 ∧ ((zlo + zhi) / 2).toNat < zn ∧ ((zlo + zhi) / 2 - zlo).toNat < (zhi - zlo).toNat ∧
    (zhi - ((zlo + zhi) / 2 + 1)).toNat < (zhi - zlo).toNat ∧ 0 ≤ (zlo + zhi) / 2 + 1 ∧ (zlo + zhi) / 2 + 1 ≤ zhi ∧ (zlo + zhi) / 2 ≤ (zn : Int) := by
  have h1 : zlo ≤ (zlo + zhi) / 2 := by omega
  have h2 : (zlo + zhi) / 2 + 1 ≤ zhi := by omega
  have h9 : 0 ≤ zlo + zhi := Int.add_nonneg ze1 (Int.le_of_lt (Int.lt_of_le_of_lt ze1 zhlt))
  generalize (zlo + zhi) / 2 = m at *
  have h0 := Int.le_trans ze1 h1
  have h3 := Int.le_trans h2 ze3
  have h4 : m ≤ m + 1 := Int.le_of_lt (Int.lt_succ m)
  refine ⟨h9, h0, h1, Int.lt_of_lt_of_le h3 (Int.le_trans (Int.ofNat_le.mpr zhn) (by decide)), (Int.toNat_lt h0).mpr h3, ?_, ?_, Int.le_trans h0 h4, h2, Int.le_trans h4 h3⟩
  · clear h9 h0 h3 h4 ze1 ze3 zhn; omega
  · clear h9 h0 h3 h4 ze1 ze3 zhn h2; omega
theorem ltV {za zb zi : Nat} (zh : za < zb) : za < zb + zi := Nat.lt_of_lt_of_le zh (Nat.le_add_right _ _)
theorem lqB2 {zn zi zj zc zd : Nat} (zh : zn + zi + zj ≤ zc) (zhd : zc ≤ zd) : zn ≤ zd := Nat.le_trans (Nat.le_trans (Nat.le_trans (Nat.le_add_right _ _) (Nat.le_add_right _ _)) zh) zhd
theorem iLtLe {zk zn zc : Nat} {zd : Int} (zh : zk < zn) (zh2 : zn ≤ zc) (zhc : (zc : Int) ≤ zd) : (zk : Int) ≤ zd := Int.le_trans (Int.ofNat_le.mpr (Nat.le_trans (Nat.le_of_lt zh) zh2)) zhc
theorem escL {za zb zc zd : Nat} (zh : za ≤ 2 * zb) (ze : zb = zc) (zh2 : zc ≤ zd) : za ≤ 2 * zd := Nat.le_trans zh (Nat.mul_le_mul_left 2 (ze ▸ zh2))
theorem rplL {za zn : Nat} (zh : za ≤ zn + (zn + 1) * 2) (zh2 : zn ≤ 100) : za ≤ 1048576 := by omega
theorem rp1L {za zn : Nat} (zh : za ≤ zn + (zn + 1) * 1) (zh2 : zn ≤ 100000) : za + 2 ≤ 16777216 := by omega
theorem ng63 {zn zc : Nat} (zh : zn ≤ zc) (zhc : zc ≤ 16777216) : ¬ ((zn : Int) ≥ 2 ^ 63) := by omega
theorem ng63b {zn zm zc : Nat} (zh : zn ≤ zm) (zh2 : zm ≤ zc) (zhc : zc ≤ 16777216) : ¬ ((zn : Int) ≥ 2 ^ 63) := ng63 (Nat.le_trans zh zh2) zhc
theorem lqI {zn zm zc zd : Nat} (zh : zn ≤ zm) (zh2 : zm ≤ zc) (zhd : zc ≤ zd) : zn ≤ zd := Nat.le_trans (Nat.le_trans zh zh2) zhd
theorem adC {zt : Type} {za zb zM zN : Nat} {zc : zt} {zr : List zt} (ze : zb = 1) (zh : za + (zc :: zr).length ≤ zM) (zhM : zM ≤ zN) : za + zb ≤ zN := Nat.le_trans (Nat.le_trans (Nat.add_le_add_left (ze ▸ Nat.succ_le_succ (Nat.zero_le _)) za) zh) zhM
theorem adS {za zr zM : Nat} (zh : za + (zr + 1) ≤ zM) : za + 1 + zr ≤ zM := by rw [Nat.add_assoc, Nat.add_comm 1]; exact zh
theorem a1 {za zb : Prop} (zh : za ∧ zb) : za := zh.1
theorem ltP {za zb : Nat} (zh : za + 1 < zb) : za < zb := Nat.lt_of_succ_lt zh
theorem ltQ {za zb zc : Nat} (zh : za < zb) (zh2 : zb < zc) : za < zc := Nat.lt_trans zh zh2
theorem nnI {zn : Nat} : (0 : Int) ≤ (zn : Int) := Int.natCast_nonneg zn
end Mine
end
section
open PySem PySem.W PyProof.Rows PySem.Calls PySem.Spec
open Mine
local macro_rules | `(tactic| walk_at "~") => do return (← ("ltI a1 a2 a3 a4 a5 a6 a7 a8 a9 b2 b3 b4 b9 b10 ltA ltP ltQ ltT".splitOn " ").foldrM (fun n (t : Lean.TSyntax `tactic) => `(tactic| first | (apply $(Lean.mkIdent (.str `Mine n)) <;> assumption) | $t:tactic)) (← `(tactic| first | apply Nat.lt_succ_self | (apply ltV; walk_at "~") | (apply ltQ; rotate_left; assumption; walk_at "~"))))
local macro_rules | `(tactic| omega) => do return (← ("ltI leI zleI zltI neI rmA rmB rmC lqA lqB lqF lqE lqG sz2 sz3 sz4 i63 i63b ngN lqH sz2b sz3b nnI iLe i0 i1 mnL pos1 lqB2 iLtLe ng63 ng63b lqI adC adS".splitOn " ").foldrM (fun n (t : Lean.TSyntax `tactic) => `(tactic| first | with_reducible (apply $(Lean.mkIdent (.str `Mine n)) <;> first | assumption | decide | (apply Nat.le_of_eq; assumption)) | $t:tactic)) (← `(tactic| with_reducible first | (apply Nat.ne_of_gt; walk_at "~") | (apply Nat.ne_of_lt; walk_at "~") | (apply Nat.le_of_lt; walk_at "~") | (apply ltI; walk_at "~"))))
section
open PySem PySem.W PyProof.Rows PySem.Calls PySem.Spec
set_option maxRecDepth 100000
set_option maxHeartbeats 8000000
namespace Mine
section
open PySem.Builtin PySem.Builtin.Str
noncomputable def find4 (x y : Str) (i j : Int) : Int := match occurrences x y (fromIndex x.length i) (min (fromIndex x.length j) x.length) 1 with | k :: _ => (k : Int) | [] => -1
noncomputable def rfind4 (x y : Str) (i j : Int) : Int := match lastOccurrence x y (fromIndex x.length i) (min (fromIndex x.length j) x.length) with | some k => (k : Int) | none => -1
theorem gives_find4 (x y : Str) (i j : Int) (t u v z : Tok) : Gives («str.find» ⟨[.str x t, .str y u, .int i v, .int j z], []⟩) (.int (find4 x y i j)) := by
  show Gives (match occurrences x y (fromIndex x.length i) (min (fromIndex x.length j) x.length) 1 with | k :: _ => retInt k | [] => (do rule "str.find.not-found"; retInt (-1))) _
  unfold find4
  cases occurrences x y (fromIndex x.length i) (min (fromIndex x.length j) x.length) 1 with
  | nil => exact .rule (.of_eq rfl)
  | cons k _ => exact .of_eq rfl
theorem gives_rfind4 (x y : Str) (i j : Int) (t u v z : Tok) : Gives («str.rfind» ⟨[.str x t, .str y u, .int i v, .int j z], []⟩) (.int (rfind4 x y i j)) := by
  show Gives (match lastOccurrence x y (fromIndex x.length i) (min (fromIndex x.length j) x.length) with | some k => retInt k | none => (do rule "str.rfind.not-found"; retInt (-1))) _
  unfold rfind4
  cases lastOccurrence x y (fromIndex x.length i) (min (fromIndex x.length j) x.length) with
  | none => exact .rule (.of_eq rfl)
  | some k => exact .of_eq rfl
end
section
variable {prog : Program} {w : World} {A : Around} {E : Value → Shared → Prop} {s : Shared} {Q : Value → Shared → Prop} {x y : Str} {i j : Int} {t u v z : Tok}
theorem r_find4 (hq : Q (.int (find4 x y i j) s.toks) { s with toks := s.toks + 1 }) : wpAny (model prog w) A (call (.builtin "str.find") [.str x t, .str y u, .int i v, .int j z]) Q E s :=
  call_gives F.slot_str_find (typeIs_str _ _ _) F.entry_str_find (F.args_str_find_4 _ _ _ _) (gives_find4 x y i j t u v z) hq
theorem r_rfind4 (hq : Q (.int (rfind4 x y i j) s.toks) { s with toks := s.toks + 1 }) : wpAny (model prog w) A (call (.builtin "str.rfind") [.str x t, .str y u, .int i v, .int j z]) Q E s :=
  call_gives F.slot_str_rfind (typeIs_str _ _ _) F.entry_str_rfind (F.args_str_rfind_4 _ _ _ _) (gives_rfind4 x y i j t u v z) hq
end
section
open PySem.Builtin PySem.Builtin.Str
theorem repl_len (x y z : Str) : (Txt.replace x y z).length ≤ x.length + (x.length + 1) * z.length := by
  unfold Txt.replace
  split
  · omega
  · have h1 := StrLaws.occ_length_le x y 0 x.length (x.length + 1)
    have hy : (glued y (partsBetween x (occurrences x y 0 x.length (x.length + 1)) y.length)).length = x.length := by rw [StrLaws.glued_between_self]
    rw [size_glued, length_partsBetween, Nat.add_sub_cancel] at hy
    rw [size_glued, length_partsBetween, Nat.add_sub_cancel]
    have h2 : (occurrences x y 0 x.length (x.length + 1)).length * z.length ≤ (x.length + 1) * z.length := Nat.mul_le_mul_right _ h1
    omega
theorem split_cons (x y : Str) : ∃ a r, Txt.split x y = a :: r := by
  unfold Txt.split
  split
  · exact ⟨_, _, rfl⟩
  · split
    · exact ⟨_, _, rfl⟩
    · have := length_partsBetween x (occurrences x y 0 x.length (x.length + 1)) y.length
      cases h : partsBetween x (occurrences x y 0 x.length (x.length + 1)) y.length with
      | nil => rw [h] at this; simp at this
      | cons a r => exact ⟨a, r, rfl⟩
theorem r_split1 {prog : Program} {w : World} {A : Around} {E : Value → Shared → Prop} {s : Shared} {h₀ : Heap} {L : Addr} {m : PySem.Str → Option Value} {news : List (Addr × Obj)} {x y : PySem.Str} {t u : Tok} {Q : Value → Shared → Prop}
    (hF : Fr h₀ L s.heap m) (hN : News h₀ L s.heap news) (hy : (y.length == 0) = false) (hsz : x.length + 2 ≤ sizeLine)
    (h : ∀ D y0 t0 l' h' k, y0 = (Txt.split x y).headD Str.empty → y0.length ≤ x.length → Fr h₀ L h' m → News h₀ L h' ((D, listOf (Value.str y0 t0 :: l').toArray 0) :: news) → (∀ p ∈ news, p.1 < D) → Q (.ref D) { s with heap := h', toks := k }) :
    wpAny (model prog w) A (call (.builtin "str.split") [.str x t, .str y u]) Q E s := by
  refine splitN1A hF hN hy (fun l h' k e _ hl _ F N => ?_) hsz
  obtain ⟨a, r, ha⟩ := split_cons x y
  rw [ha] at e
  obtain ⟨t0, l', rfl, _⟩ := KSpl.cons_of e
  exact h _ a t0 (strValues l') h' k (by rw [ha]; rfl) (hl a (by simp)) F N (fun p hp => Heap.lt_size (hN p hp).1)
end
theorem toks_pos {α : Type} {M : Model} {A : Around} {t : Sem α} {Q : α → Shared → Prop} {E : Value → Shared → Prop} {h : Heap} {g : Array GenState} {d : Drawn} {n : Nat} {os : OsState} (hn : 0 < n) (k : ∀ tk, 0 < tk → wpAny M A t Q E ⟨h, g, d, tk, os⟩) : wpAny M A t Q E ⟨h, g, d, n, os⟩ := k n hn
end Mine
end
section
open PySem PySem.W PyProof.Rows PySem.Calls PySem.Spec
set_option maxRecDepth 100000
set_option maxHeartbeats 2000000
namespace Mine
open PySem.Builtin PySem.Builtin.ObjectAttr in
theorem slot_fn_sa : Slot "function" "__setattr__" "object.__setattr__" := .of (owner := "object") (n := "__setattr__") (by rw [typeLookup_type, builtinLookup_eq_fast]; kernel_rfl) (by decide +kernel) (by decide +kernel) (by decide +kernel)
  (by first | exact .inl (by decide +kernel) | exact .inr (by decide +kernel)) (by rw [isSubtype_type]; kernel_rfl)
theorem entry_osa : entryFor table "object.__setattr__" = some Builtin.«object.__setattr__» := entryFor_of_tree (by kernel_rfl)
theorem args_osa (a b c : Value) : argsOk "object.__setattr__" ⟨[a, b, c], []⟩ := by unfold argsOk; kernel_rfl
theorem fn_no_read : typeLookup (.type "function") (Str.ofString "read") = pure none := by rw [typeLookup_type, builtinLookup_eq_fast]; kernel_rfl
theorem fn_mro : mroOf (.type "function") = pure [.type "function", .type "object"] := by kernel_rfl
theorem fn_passes (self : Value) : refuseLoop self (Str.ofString "__setattr__") [.type "function", .type "object"] = pure () := by kernel_rfl
section
variable {prog : Program} {w : World} {A : Around} {E : Value → Shared → Prop}
open Builtin Builtin.ObjectAttr in
theorem r_fnset {h : Heap} {g : Array GenState} {d : Drawn} {t : Nat} {os : OsState} {Q : Unit → Shared → Prop} {x : Addr} {fd : FuncData} {v : Value}
    (hx : h.get? x = some { cls := .type "function", data := .func fd })
    (hq : ∀ h' D n tk k, h'.get? x = some { cls := .type "function", data := .func fd, dict := some D } → h'.get? D = some (dictOf [⟨k, .str (Str.ofString "read") tk, v⟩] n) →
      h.objs.size ≤ D → (∀ b o, b ≠ x → h.get? b = some o → h'.get? b = some o) → Q () ⟨h', g, d, t + 2, os⟩) :
    wpAny (model prog w) A (setAttr (.ref x) (Str.ofString "read") v) Q E ⟨h, g, d, t, os⟩ := by
  have hT : ∀ tk, Shared.TypeIs ⟨h, g, d, tk, os⟩ (.ref x) "function" := fun tk => ⟨_, hx, rfl⟩
  unfold setAttr
  refine wpAny_bind (wpAny_mkText ?_)
  refine wpAny_bind (wpAny_callSpecial?_slot (hT _) slot_fn_sa (wpAny_call_entry slot_fn_sa (hT _) entry_osa ?_ (args_osa _ _ _)))
  unfold «object.__setattr__»
  show wpAny _ _ (refuseIfOverridden (.ref x) (Str.ofString "__setattr__") >>= fun _ => attrName (.str (Str.ofString "read") t) >>= fun name => typeOf (.ref x) >>= fun tp => typeLookup tp name >>= fun attr => storeTaker? attr >>= fun r => match r with
      | some a => setByDescriptor a (.ref x) v
      | none => storeInOwnDict (.ref x) tp (.str (Str.ofString "read") t) name v attr.isSome) _ _ _
  refine wpAny_bind ?_
  rw [refuse_eq]
  refine wpAny_bind (wpAny_typeOf (hT _) ?_)
  refine wpAny_bind (wpAny_of_eq fn_mro ?_)
  rw [fn_passes]
  refine wpAny_pure ?_
  refine wpAny_bind (wpAny_pure ?_)
  refine wpAny_bind (wpAny_typeOf (hT _) ?_)
  refine wpAny_bind (wpAny_of_eq fn_no_read ?_)
  refine wpAny_bind (wpAny_pure ?_)
  show wpAny _ _ (storeInOwnDict _ _ _ _ _ _) _ _ _
  unfold storeInOwnDict
  refine wpAny_bind (wpAny_pure ?_)
  show wpAny _ _ (ownDictForStores (.ref x) >>= _) _ _ _
  refine wpAny_bind ?_
  unfold ownDictForStores instanceDict
  refine wpAny_bind (wpAny_loadPart hx ?_)
  dsimp only
  refine wpAny_bind (wpAny_alloc ?_)
  have hx1 := Heap.get?_push_of_some ({ cls := .type "dict", data := .dict #[] } : Obj) hx
  refine wpAny_bind (wpAny_update hx1 ?_)
  unfold dictMade
  dsimp only
  rw [if_neg (show ¬ finalisedInACycleAlone "function" = true by decide)]
  refine wpAny_pure ?_
  unfold storeInDict
  refine wpAny_bind (wpAny_pure ?_)
  unfold nsSet
  have hxs : x < h.objs.size := Heap.lt_size hx
  have hne : h.objs.size ≠ x := Nat.ne_of_gt hxs
  let h2 : Heap := (h.push { cls := Value.type "dict", data := Data.dict #[] }).update x fun o => { cls := o.cls, dict := some h.objs.size, data := o.data, slots := o.slots }
  have D : h2.get? h.objs.size = some ({ cls := .type "dict", data := .dict #[] } : Obj) := (Heap.get?_update_ne _ _ _ _ hne).trans (Heap.get?_push_size _ rfl)
  have X2 : h2.get? x = some ({ cls := .type "function", data := .func fd, dict := some h.objs.size } : Obj) := Heap.get?_update_self _ hx1 rfl
  refine wpAny_bind (wpAny_bind (wpAny_bind (wpAny_askSetting (wpAny_pure (wpAny_bind (wpAny_mkText (wpAny_bind (wpAny_loadPart D ?_))))))))
  dsimp only
  rw [if_neg (show ¬ aRefKeyMayBeTheName (Str.ofString "read") #[] = true by decide +kernel)]
  refine wpAny_updatePart D ?_
  have D3 : ∀ k, (h2.update h.objs.size (Obj.putName (Str.ofString "read") k (.str (Str.ofString "read") (t + 1)) v)).get? h.objs.size = some (dictOf [⟨k, .str (Str.ofString "read") (t + 1), v⟩] 1) := fun k => Heap.get?_update_self _ D rfl
  refine wpAny_bind (wpAny_lookBehind (D3 _) rfl (wpAny_pure ?_))
  refine ⟨_, rfl, wpAny_pure ?_⟩
  refine hq _ h.objs.size 1 (t + 1) _ ((Heap.get?_update_ne _ _ _ _ hne.symm).trans X2) (D3 _) (Nat.le_refl _) (fun b o hb e => ?_)
  have hbs : b ≠ h.objs.size := Nat.ne_of_lt (Heap.lt_size e)
  exact (Heap.get?_update_ne _ _ _ _ hbs).trans ((Heap.get?_update_ne _ _ _ _ hb).trans (Heap.get?_push_of_some _ e))
theorem slot_fn_ga : Slot "function" "__getattribute__" "object.__getattribute__" := .of (owner := "object") (n := "__getattribute__") (by rw [typeLookup_type, builtinLookup_eq_fast]; kernel_rfl) (by decide +kernel) (by decide +kernel) (by decide +kernel)
  (by first | exact .inl (by decide +kernel) | exact .inr (by decide +kernel)) (by rw [isSubtype_type]; kernel_rfl)
theorem fn_no_getattr : typeLookup (.type "function") (Str.ofString "__getattr__") = pure none := by rw [typeLookup_type, builtinLookup_eq_fast]; kernel_rfl
theorem args_oga (a b : Value) : argsOk "object.__getattribute__" ⟨[a, b], []⟩ := by unfold argsOk; kernel_rfl
open Builtin Builtin.ObjectAttr in
theorem r_fnget {s : Shared} {expr : Bool} {Q : Value → Shared → Prop} {x D f : Addr} {fd : FuncData} {k : Int} {tk : Tok} {n : Nat}
    (hx : s.heap.get? x = some { cls := .type "function", data := .func fd, dict := some D }) (hD : s.heap.get? D = some (dictOf [⟨k, .str (Str.ofString "read") tk, .ref f⟩] n))
    (hq : Q (.ref f) { s with toks := s.toks + 1 }) : wpAny (model prog w) A (getAttr (.ref x) (Str.ofString "read") expr) Q E s := by
  have hT : ∀ tk, Shared.TypeIs { s with toks := tk } (.ref x) "function" := fun tk => ⟨_, hx, rfl⟩
  have hcan := PySem.F.canon_object_ga
  unfold getAttr
  refine wpAny_bind (wpAny_mkText ?_)
  unfold getAttrBy
  refine wpAny_holding (wpAny_bind (wpAny_typeOf (hT _) ?_))
  refine wpAny_bind (wpAny_of_eq slot_fn_ga.lookup ?_)
  dsimp only
  rw [show (onTheHeap (Value.type "function") && Value.builtin "object.__getattribute__" == Value.builtin "object.__getattribute__") = false from rfl, if_neg (by decide)]
  unfold getAttrByItsOwn
  refine wpAny_bind (wpAny_pure ?_)
  refine wpAny_bind (wpAny_attempt (wpAny_holding ?_))
  unfold callGetattribute
  rw [show (expr && onTheHeap (Value.builtin "object.__getattribute__")) = false from Bool.and_false _, if_neg (by decide)]
  unfold boundAndCalled
  rw [slot_fn_ga.bind]
  refine wpAny_bind (wpAny_pure ?_)
  show wpAny _ _ (call (.builtin "object.__getattribute__") [.ref x, .str (Str.ofString "read") s.toks]) _ _ _
  refine wpAny_call_entry slot_fn_ga (hT _) PySem.F.entry_object_getattribute ?_ (args_oga _ _)
  unfold «object.__getattribute__»
  show wpAny _ _ (typeOf (.ref x) >>= fun tp => find (.ref x) tp (Str.ofString "read") >>= fun r => _) _ _ _
  refine wpAny_bind (wpAny_typeOf (hT _) ?_)
  refine wpAny_bind ?_
  unfold find
  refine wpAny_bind (wpAny_of_eq fn_no_read ?_)
  refine wpAny_bind (wpAny_pure ?_)
  refine wpAny_bind (wpAny_pure ?_)
  show wpAny _ _ (ownThenClass (.ref x) (Str.ofString "read") none none) _ _ _
  unfold ownThenClass inOwnDict PySem.Builtin.ObjectAttr.ownDict
  refine wpAny_bind (wpAny_bind (wpAny_bind (wpAny_loadPart hx ?_)))
  show wpAny _ _ (instanceDict x false) _ _ _
  unfold instanceDict
  refine wpAny_bind (wpAny_loadPart hx ?_)
  refine wpAny_pure ?_
  unfold inDict nsGet
  refine wpAny_bind (wpAny_loadPart hD ?_)
  rw [nsLook_of (r := some (.ref f)) (by rfl)]
  refine wpAny_pure (wpAny_bind (wpAny_rule (wpAny_pure ?_)))
  refine wpAny_pure ⟨_, rfl, ?_⟩
  show wpAny _ _ (handedOut (.ref f)) _ _ _
  rw [handedOut_of (by rfl)]
  exact wpAny_pure hq
theorem r_fnmeth {s : Shared} {pl : Sem Bool} {Q : Value × List Value → Shared → Prop} {x D f : Addr} {fd : FuncData} {k : Int} {tk : Tok} {n : Nat}
    (hx : s.heap.get? x = some { cls := .type "function", data := .func fd, dict := some D }) (hD : s.heap.get? D = some (dictOf [⟨k, .str (Str.ofString "read") tk, .ref f⟩] n))
    (hq : Q (.ref f, []) { s with toks := s.toks + 1 }) : wpAny (model prog w) A (getMethod (.ref x) (Str.ofString "read") pl) Q E s := by
  have hT : Shared.TypeIs s (.ref x) "function" := ⟨_, hx, rfl⟩
  have hcan := PySem.F.canon_object_ga
  unfold getMethod
  refine wpAny_bind (wpAny_specialOf hT slot_fn_ga.lookup ?_)
  dsimp only
  rw [hcan, if_neg (by decide)]
  refine wpAny_bind (wpAny_specialOf hT fn_no_getattr ?_)
  rw [if_neg (by decide)]
  refine wpAny_bind (wpAny_specialOf hT fn_no_read ?_)
  exact wpAny_bind (wpAny_mono (r_fnget hx hD hq) (fun _ _ z => wpAny_pure z) fun _ _ z => z)
theorem r_callBorrowed {M : Model} {s : Shared} {f : Value} {pos : List Value} {Q : Value → Shared → Prop}
    (hc : codeAny M A (.call f ⟨pos, []⟩) (fun r s' => match r with | .ok (.ret v) => Q v s' | .ok _ => False | .error e => E e s') s) :
    wpAny M A (callBorrowed f pos) Q E s := fun Γ p hΓ => by
  unfold callBorrowed
  rw [Sem.wp_call]
  have := hc _ p rfl (hΓ.enter (.call f ⟨pos, []⟩) none p (by intro x; cases x))
  refine wpCode_mono (fun r s' hr => ?_) this
  cases r with
  | error e => exact hr
  | ok f => cases f <;> exact hr
noncomputable abbrev ciObj (f sent done : Value) : Obj := { cls := .type "callable_iterator", data := .fields #[f, sent, done] }
theorem kind_iter : builtinKind "iter" = none := by decide +kernel
theorem plain_iter : plainId "iter" = true := by decide +kernel
theorem entry_iter : entryFor table "iter" = some Builtin.«iter» := entryFor_of_tree (by kernel_rfl)
theorem args_iter (a b : Value) : argsOk "iter" ⟨[a, b], []⟩ := by unfold argsOk; kernel_rfl
theorem meth_call : typeLookup (.type "method") (Str.ofString "__call__") = pure (some (.builtin "method.__call__")) := by rw [typeLookup_type, builtinLookup_eq_fast]; kernel_rfl
theorem r_iter2 {s : Shared} {q : Addr} {fv self sent : Value} {Q : Value → Shared → Prop} (hm : s.heap.get? q = some (methodObj fv self))
   (hq : Q (.ref s.heap.objs.size) { s with heap := s.heap.push (ciObj (.ref q) sent (.bool false)) }) :
   wpAny (model prog w) A (call (.builtin "iter") [.ref q, sent]) Q E s := by
  have hT : Shared.TypeIs s (.ref q) "method" := ⟨_, hm, rfl⟩
  refine Calls.call_function_entry kind_iter plain_iter entry_iter (args_iter _ _) ?_
  unfold Builtin.«iter»
  show wpAny _ _ (specialOf (.ref q) (Str.ofString "__call__") >>= _) _ _ _
  refine wpAny_bind (wpAny_specialOf hT meth_call ?_)
  refine wpAny_bind (wpAny_rule ?_)
  exact wpAny_bind (wpAny_newObj_type (wpAny_pure ⟨_, rfl, hq⟩))
theorem slot_ci_iter : Slot "callable_iterator" "__iter__" "callable_iterator.__iter__" := .of (owner := "callable_iterator") (n := "__iter__") (by rw [typeLookup_type, builtinLookup_eq_fast]; kernel_rfl) (by decide +kernel) (by decide +kernel) (by decide +kernel)
  (by first | exact .inl (by decide +kernel) | exact .inr (by decide +kernel)) (by rw [isSubtype_type]; kernel_rfl)
theorem slot_ci_next : Slot "callable_iterator" "__next__" "callable_iterator.__next__" := .of (owner := "callable_iterator") (n := "__next__") (by rw [typeLookup_type, builtinLookup_eq_fast]; kernel_rfl) (by decide +kernel) (by decide +kernel) (by decide +kernel)
  (by first | exact .inl (by decide +kernel) | exact .inr (by decide +kernel)) (by rw [isSubtype_type]; kernel_rfl)
theorem entry_ci_next : entryFor table "callable_iterator.__next__" = some Builtin.«callable_iterator.__next__» := entryFor_of_tree (by kernel_rfl)
theorem args_ci_next (a : Value) : argsOk "callable_iterator.__next__" ⟨[a], []⟩ := by unfold argsOk; kernel_rfl
theorem args_ci_iter (a : Value) : argsOk "callable_iterator.__iter__" ⟨[a], []⟩ := by unfold argsOk; kernel_rfl
theorem entry_ci_iter : entryFor table "callable_iterator.__iter__" = some Builtin.«dict_keyiterator.__iter__» := entryFor_alias (id' := "dict_keyiterator.__iter__") (by kernel_rfl) rfl (by decide +kernel) (by kernel_rfl)
theorem r_pyIter_ci {s : Shared} {it : Addr} {f e d : Value} {Q : Value → Shared → Prop} (hit : s.heap.get? it = some (ciObj f e d)) (hq : Q (.ref it) s) : wpAny (model prog w) A (pyIter (.ref it)) Q E s := by
  have hT : Shared.TypeIs s (.ref it) "callable_iterator" := ⟨_, hit, rfl⟩
  refine wpAny_pyIter_slot hT slot_ci_iter (wpAny_call_entry slot_ci_iter hT entry_ci_iter ?_ (args_ci_iter _))
  exact wpAny_pure ⟨_, rfl, "callable_iterator", _, hT, slot_ci_next.lookup, hq⟩
theorem r_pyNext_ci {s : Shared} {it q f : Addr} {self : Value} {e : Str} {te : Tok} {fo : Obj} {fd : FuncData} {Q : Option Value → Shared → Prop} (hit : s.heap.get? it = some (ciObj (.ref q) (.str e te) (.bool false)))
    (hm : s.heap.get? q = some (methodObj (.ref f) self)) (hf : s.heap.get? f = some fo) (hfd : fo.data = .func fd) (hA : A.handled = none)
    (h : codeAny (model prog w) A.in1 (.call (.ref f) ⟨[self], []⟩) (fun r s' => match r with
      | .ok (.ret v) => ∃ x t, v = .str x t ∧ s'.heap.get? it = some (ciObj (.ref q) (.str e te) (.bool false)) ∧ s'.heap.get? q = some (methodObj (.ref f) self) ∧ (∃ fo', s'.heap.get? f = some fo' ∧ fo'.data = .func fd) ∧
        (if e == x then ∀ h', (∀ b o, b ≠ it → s'.heap.get? b = some o → h'.get? b = some o) → h'.get? it = some (ciObj .none .none (.bool true)) → Q none { s' with heap := h' } else Q (some v) s')
      | .ok _ => False | .error e => False) s) : wpAny (model prog w) A (pyNext (.ref it)) Q E s := by
  have hT : Shared.TypeIs s (.ref it) "callable_iterator" := ⟨_, hit, rfl⟩
  unfold pyNext
  refine wpAny_bind (wpAny_attempt (wpAny_callSpecial?_slot hT slot_ci_next (wpAny_call_entry slot_ci_next hT entry_ci_next ?_ (args_ci_next _))))
  show wpAny _ _ (field (.ref it) 2 >>= _) _ _ s
  refine wpAny_bind (wpAny_field hit rfl (x := .bool false) rfl ?_)
  dsimp only
  rw [if_neg (show ¬ ((Value.bool false == Value.bool true) = true) by decide)]
  refine wpAny_bind (wpAny_field hit rfl (x := .ref q) rfl ?_)
  refine wpAny_bind (wpAny_attempt ?_)
  unfold callOutOfASlot
  have hbx : ∀ (s : Shared) (Q : Bool → Shared → Prop) (E), s.heap.get? q = some (methodObj (.ref f) self) → (∃ fo', s.heap.get? f = some fo' ∧ fo'.data = .func fd) → Q true s → wpAny (model prog w) A.in1 (borrowsExactly (.ref q)) Q E s := by
    rintro s Q E hm ⟨fo, hf, hfd⟩ hq
    unfold borrowsExactly
    refine wpAny_bind (wpAny_load hm ?_)
    dsimp only
    rw [if_pos (show (Value.type "method" == Value.type "method") = true by decide)]
    show wpAny _ _ (load f >>= _) _ _ _
    refine wpAny_bind (wpAny_load hf ?_)
    rw [hfd]
    exact wpAny_pure hq
  refine wpAny_bind (hbx s _ _ hm ⟨fo, hf, hfd⟩ ?_)
  rw [if_pos rfl]
  refine r_callBorrowed (method_call hm (codeAny_mono h fun r s' hr => ?_))
  match r with
  | .error e => exact hr.elim
  | .ok .next => exact hr.elim
  | .ok .brk => exact hr.elim
  | .ok .cont => exact hr.elim
  | .ok (.ret v) =>
    obtain ⟨x, t, hv, hit', hm', hf', hx⟩ := hr
    subst hv
    dsimp only
    refine wpAny_bind (wpAny_field hit' rfl (x := .bool false) rfl ?_)
    rw [if_neg (show ¬ ((Value.bool false == Value.bool true) = true) by decide)]
    refine wpAny_bind (wpAny_field hit' rfl (x := .str e te) rfl ?_)
    refine wpAny_bind (wpAny_holding (eqBool_str ?_))
    cases hex : (e == x) with
    | false =>
      rw [if_pos (by decide)]
      rw [hex] at hx
      exact wpAny_pure ⟨_, rfl, wpAny_pure hx⟩
    | true =>
      rw [if_neg (by decide)]
      rw [hex, if_pos rfl] at hx
      refine wpAny_bind (wpAny_rule (wpAny_bind (wpAny_bind (wpAny_field hit' rfl (x := .ref q) rfl ?_))))
      refine wpAny_bind ?_
      unfold slotLetsGo
      refine wpAny_bind (hbx s' _ _ hm' hf' ?_)
      rw [if_pos rfl]
      refine wpAny_pure ?_
      refine wpAny_bind (wpAny_setField hit' rfl (by show 0 < 3; decide) ?_)
      have h1 : (s'.heap.update it (Obj.mapFields (·.setIfInBounds 0 .none))).get? it = some (ciObj .none (.str e te) (.bool false)) := Heap.get?_update_self _ hit' rfl
      refine wpAny_bind (wpAny_setField h1 rfl (by show 1 < 3; decide) ?_)
      have h2 : ((s'.heap.update it (Obj.mapFields (·.setIfInBounds 0 .none))).update it (Obj.mapFields (·.setIfInBounds 1 .none))).get? it = some (ciObj .none .none (.bool false)) := Heap.get?_update_self _ h1 rfl
      refine wpAny_setField h2 rfl (by show 2 < 3; decide) ?_
      have h3 := Heap.get?_update_self (Obj.mapFields (·.setIfInBounds 2 (.bool true))) h2 rfl
      show wpAny _ _ (newExc (.type "StopIteration") [] >>= _) _ _ _
      refine wpAny_bind ?_
      simp only [newExc, newTuple]
      refine wpAny_bind (wpAny_newObj_type ?_ (by size_fits))
      refine wpAny_bind (m := firstArgMember _ _) (wpAny_of_eq (a := Value.none) (by first | rfl | (simp only [firstArgMember]; rfl)) ?_)
      refine wpAny_newObj_type ?_ (by size_fits)
      simp only [raiseNew]
      refine wpAny_bind (wpAny_handled ?_)
      rw [show A.in1.handled = none from hA]
      refine wpAny_bind (wpAny_pure (wpAny_throw ?_))
      refine wpAny_bind (wpAny_isInstance (T := "StopIteration") (b := true) ⟨_, Heap.get?_push_size _ rfl, rfl⟩ isSubtype_stop ?_)
      refine wpAny_pure (hx _ (fun b o hb ho => ?_) ?_)
      · exact Heap.get?_push_of_some _ (Heap.get?_push_of_some _ ((Heap.get?_update_ne _ _ _ _ hb).trans ((Heap.get?_update_ne _ _ _ _ hb).trans ((Heap.get?_update_ne _ _ _ _ hb).trans ho))))
      · exact Heap.get?_push_of_some _ (Heap.get?_push_of_some _ h3)
end
end Mine
end
section
open PySem PySem.W PyProof.Rows PySem.Calls PySem.Spec
set_option maxRecDepth 100000
set_option maxHeartbeats 2000000
namespace Mine
/-- what is asked where a def of the text is left: kept is all that the ledger does not name -/
noncomputable def LeaveM (h₀ : Heap) (L : Addr) (m : Str → Option Value) (g H : Heap) (adr : List Addr) (R : Result → Shared → Prop) (v : Value) (s' : Shared) : Prop :=
  ∃ L' m', Fr g L' s'.heap m' ∧ (Fr h₀ L s'.heap m → (∀ b o, H.get? b = some o → b ∉ adr → s'.heap.get? b = some o) → (∀ n, News g L' s'.heap n → News h₀ L s'.heap n) → R (.ok (.ret v)) s')
theorem leaveM_ {h₀ g H : Heap} {L L' : Addr} {m m' : Str → Option Value} {adr : List Addr} {R : Result → Shared → Prop} {v : Value} {s' : Shared} (F' : Fr g L' s'.heap m')
    (k : Fr h₀ L s'.heap m → (∀ b o, H.get? b = some o → b ∉ adr → s'.heap.get? b = some o) → (∀ n, News g L' s'.heap n → News h₀ L s'.heap n) → R (.ok (.ret v)) s') : LeaveM h₀ L m g H adr R v s' := ⟨L', m', F', k⟩
section
variable {prog : Program} {w : World} {A₀ A : Around} {s : Shared} {base h₀ : Heap} {outer : List Env} {L : Addr} {m : Str → Option Value} {env : Env} {news : List (Addr × Obj)} {K : Frag}
  {R : Result → Shared → Prop} {p : Program} {loose : List Str} {mean : ExcName → Option Value} {mg mb : Str → Option Value}
theorem groundM (B : Below A₀ base outer h₀) (F : Fr h₀ L s.heap m) (N : News h₀ L s.heap news) (hA : A.frames = some (env :: outer)) (hf : env.frame = some L) (hke : env.scope.kind = .function) :
    ∃ g, Fr h₀ L g m ∧ Below A base (env :: outer) g ∧ h₀.StaysIn g ∧ GSub s.heap g (news.map (·.1)) ∧ (∀ b o, g.get? b = some o → s.heap.get? b = some o) ∧ g.objs.size = s.heap.objs.size ∧ (∀ p ∈ news, g.get? p.1 = none) ∧
      ∀ v s', LeaveM h₀ L m g s.heap (news.map (·.1)) R v s' → R (.ok (.ret v)) s' := by
  obtain ⟨FG, BG, st, lv⟩ := groundX (R := R) B F N hA hf hke
  refine ⟨_, FG, BG, st, fun b o e n => hideAll_get _ e n, fun b o e => of_hideAll _ e, hideAll_size _ _, fun p hp => hideAll_none _ (List.mem_map_of_mem hp), fun v s' hl => ?_⟩
  obtain ⟨L', m', F', k⟩ := hl
  refine lv v s' ⟨L', m', [], F', News.nil, fun kF _ => k kF (fun b o e hb => F'.keep b o (hideAll_get _ e hb)) fun n N' p hp => ⟨(N' p hp).1, fun q => ?_, ?_⟩⟩
  · obtain ⟨oL, _, _, hL, _⟩ := FG.ns
    have := (N' p hp).2.2; rw [q, hL] at this; cases this
  · cases q : h₀.get? p.1 with
    | none => rfl
    | some o => have := (N' p hp).2.2; rw [st _ _ q] at this; cases this
theorem ent_plain {name qual : Str} {params : Arguments} {body : List Stmt} {scope : Scope} {dV kV doc pm cdv ct oc : Value} {an od : Option Addr} {osl : Array (Option Value)} {f : Addr} {args : Args} {binds : List (Str × Value)}
    (hA : A.frames = some (env :: outer)) (hf : env.frame = some L) (hke : env.scope.kind = .function) (B : Below A₀ base outer h₀) (F : Fr h₀ L s.heap m) (X₀ : K.In h₀) (N : News h₀ L s.heap news) (T : Top p loose mean mg mb h₀)
    (ho : K.lookup f = some ⟨oc, od, .func (fnOf name qual params body scope dV kV doc pm an cdv ct), osl⟩) (hcd : codeIn K cdv qual = true) (hroom : A.depth < recursionLimit)
    (hbind : BindsTo s (fnOf name qual params body scope dV kV doc pm an cdv ct) args binds) (hcell : ∀ x ∈ scope.names, x.2 ≠ .cell) (hloc : ∀ y ∈ binds, scope.names.lookup y.1 = some .local)
    (hco : scope.isCoroutine = false) (hgen : scope.isGenerator = false) (hk : scope.kind = .function) (h : ∀ g L' h₁, Fr h₀ L g m → Fr g L' h₁ (fun y => binds.reverse.lookup y) → News g L' h₁ news → Below A base (env :: outer) g → K.In g → Top p loose mean mg mb g → GSub s.heap g (news.map (·.1)) → (∀ p ∈ news, p.1 < L') →
      wpAny (model prog w) (A.deeper (envOf qual scope L' f cdv)) (execs body (envOf qual scope L' f cdv))
        (fun fl s' => LeaveM h₀ L m g s.heap (news.map (·.1)) R (match fl with | .ret v => v | _ => .none) s')
        (fun e s' => wpAny (model prog w) (A.deeper (envOf qual scope L' f cdv)) (leaving (envOf qual scope L' f cdv) e) (fun _ s'' => R (.error e) s'') (fun e' s'' => R (.error e') s'') s')
        { s with heap := h₁, toks := s.toks + binds.length }) : codeAny (model prog w) A (.call (.ref f) args) R s := by
  obtain ⟨g, FG, BG, st, gs, og, gz, gn, lv⟩ := groundM (R := R) B F N hA hf hke
  refine codeAny_call_def (fd := fnX name qual params body scope [] dV kV doc pm an cdv ct) (body := body) (binds := binds) hroom ((X₀.keeps F.keep) _ _ ho) rfl (T.nolimit.keeps F.keep) (codeRec_of (X₀.keeps F.keep) hcd) rfl hbind hcell hloc (fun h₁ hns hk₁ => ?_) hco hgen hk
  exact wpAny_mono (h _ s.heap.objs.size h₁ FG ⟨hns, fun b o e => hk₁ b o (og _ _ e), Nat.le_of_eq gz⟩
    (fun p hp => ⟨hk₁ _ _ (N p hp).1, Nat.ne_of_lt (Heap.lt_size (N p hp).1), gn p hp⟩) BG (X₀.keeps st) (T.keeps st) gs (fun p hp => Heap.lt_size (N p hp).1)) (fun fl s' hl => lv _ _ hl) fun _ _ y => y
theorem ent_cells {name qual : Str} {params : Arguments} {body : List Stmt} {scope : Scope} {dV kV doc pm cdv ct oc : Value} {an od : Option Addr} {osl : Array (Option Value)} {f : Addr} {args : Args} {binds : List (Str × Value)}
    (hA : A.frames = some (env :: outer)) (hf : env.frame = some L) (hke : env.scope.kind = .function) (B : Below A₀ base outer h₀) (F : Fr h₀ L s.heap m) (X₀ : K.In h₀) (N : News h₀ L s.heap news) (T : Top p loose mean mg mb h₀)
    (ho : K.lookup f = some ⟨oc, od, .func (fnOf name qual params body scope dV kV doc pm an cdv ct), osl⟩) (hcd : codeIn K cdv qual = true) (hroom : A.depth < recursionLimit)
    (hbind : BindsTo s (fnOf name qual params body scope dV kV doc pm an cdv ct) args binds) (hkind : (binds.all fun y => scope.names.lookup y.1 == some .local || scope.names.lookup y.1 == some .cell) = true)
    (hnd : ((cellsFrom 0 scope.names []).map (·.1)).Nodup)
    (hco : scope.isCoroutine = false) (hgen : scope.isGenerator = false) (hk : scope.kind = .function) (h : ∀ g L' h₁ tk cells, Fr h₀ L g m → Fr g L' h₁ (bindL (envOfC qual scope L' f cdv).kindOf binds fun _ => none) → News g L' h₁ (cells ++ news) →
      CellsAre (bindC (envOfC qual scope L' f cdv).kindOf binds fun _ => none) (cellsFrom (L' + 1) scope.names []) cells → Below A base (env :: outer) g → K.In g → Top p loose mean mg mb g → GSub s.heap g (news.map (·.1)) → (∀ p ∈ news, p.1 < L') →
      wpAny (model prog w) (A.deeper (envOfC qual scope L' f cdv)) (execs body (envOfC qual scope L' f cdv))
        (fun fl s' => LeaveM h₀ L m g s.heap (news.map (·.1)) R (match fl with | .ret v => v | _ => .none) s')
        (fun e s' => wpAny (model prog w) (A.deeper (envOfC qual scope L' f cdv)) (leaving (envOfC qual scope L' f cdv) e) (fun _ s'' => R (.error e) s'') (fun e' s'' => R (.error e') s'') s')
        { s with heap := h₁, toks := tk }) : codeAny (model prog w) A (.call (.ref f) args) R s := by
  obtain ⟨g, FG, BG, st, gs, og, gz, gn, lv⟩ := groundM (R := R) B F N hA hf hke
  refine codeAny_call_function hroom ((X₀.keeps F.keep) _ _ ho) rfl hco hgen rfl (codeRec_of (X₀.keeps F.keep) hcd) (hbind _ _ _ _ ?_)
  refine wpAny_newFunctionEnv_cells hk (kindsX hkind _) fun env' he s' x => ?_
  subst he
  refine ⟨(T.nolimit.keeps F.keep).keeps x.toInCall.keep, codeAny_func ?_⟩
  obtain ⟨h₁, tk, rfl, _⟩ := x.done
  have hk₁ := x.toInCall.keep
  obtain ⟨cells, NC, Y⟩ := Cl.news (h₀ := s.heap) (Nat.le_refl _) fun n c hm => ⟨x.cell n c (lookup_of_mem_nodup (cellsFrom_names scope.names 0 (s.heap.objs.size + 1) [] [] rfl ▸ hnd) hm), x.above n c hm⟩
  refine wpAny_mono (h _ s.heap.objs.size h₁ tk cells FG ⟨x.toInCall.ns, fun b o e => hk₁ b o (og _ _ e), Nat.le_of_eq gz⟩ (fun p hp => ?_) Y BG (X₀.keeps st) (T.keeps st) gs (fun p hp => Heap.lt_size (N p hp).1)) (fun fl s' hl => lv _ _ hl) fun _ _ y => y
  rcases List.mem_append.mp hp with hp | hp
  · refine ⟨(NC p hp).1, (NC p hp).2.1, ?_⟩
    cases q : g.get? p.1 with
    | none => rfl
    | some o => have := og _ _ q; rw [(NC p hp).2.2] at this; cases this
  · exact ⟨hk₁ _ _ (N p hp).1, Nat.ne_of_lt (Heap.lt_size (N p hp).1), gn p hp⟩
/-- a def that stands on the heap (made in a call), with a closure -/
theorem ent_heap {name qual : Str} {params : Arguments} {body : List Stmt} {scope : Scope} {cl : List (Str × Addr)} {dV kV doc pm cdv ct : Value} {an : Option Addr} {fo : Obj} {f : Addr} {args : Args} {binds : List (Str × Value)}
    (B : Below A₀ base outer h₀) (F : Fr h₀ L s.heap m) (X₀ : K.In h₀) (N : News h₀ L s.heap news) (T : Top p loose mean mg mb h₀) (hA : A.frames = some (env :: outer)) (hf : env.frame = some L) (hke : env.scope.kind = .function)
    (ho : s.heap.get? f = some fo) (hd : fo.data = .func (fnX name qual params body scope cl dV kV doc pm an cdv ct)) (hcd : s.heap.CodeRec cdv qual) (hroom : A.depth < recursionLimit)
    (hbind : BindsTo s (fnX name qual params body scope cl dV kV doc pm an cdv ct) args binds) (hloc : ∀ y ∈ binds, scope.names.lookup y.1 = some .local)
    (h : ∀ g L' h₁, Fr h₀ L g m → Fr g L' h₁ (fun y => binds.reverse.lookup y) → News g L' h₁ news → Below A base (env :: outer) g → K.In g → Top p loose mean mg mb g → GSub s.heap g (news.map (·.1)) → (∀ p ∈ news, p.1 < L') →
      wpAny (model prog w) (A.deeper (envX qual scope L' f cdv cl)) (execs body (envX qual scope L' f cdv cl))
        (fun fl s' => LeaveM h₀ L m g s.heap (news.map (·.1)) R (match fl with | .ret v => v | _ => .none) s')
        (fun e s' => wpAny (model prog w) (A.deeper (envX qual scope L' f cdv cl)) (leaving (envX qual scope L' f cdv cl) e) (fun _ s'' => R (.error e) s'') (fun e' s'' => R (.error e') s'') s')
        { s with heap := h₁, toks := s.toks + binds.length })
    (hco : scope.isCoroutine = false) (hgen : scope.isGenerator = false) (hk : scope.kind = .function)
    (hcell : ∀ x ∈ scope.names, x.2 ≠ .cell) : codeAny (model prog w) A (.call (.ref f) args) R s := by
  obtain ⟨g, FG, BG, st, gs, og, gz, gn, lv⟩ := groundM (R := R) B F N hA hf hke
  refine codeAny_call_def (fd := fnX name qual params body scope cl dV kV doc pm an cdv ct) (body := body) (binds := binds) hroom ho hd (T.nolimit.keeps F.keep) hcd rfl hbind hcell hloc (fun h₁ hns hk₁ => ?_) hco hgen hk
  exact wpAny_mono (h _ s.heap.objs.size h₁ FG ⟨hns, fun b o e => hk₁ b o (og _ _ e), Nat.le_of_eq gz⟩
    (fun p hp => ⟨hk₁ _ _ (N p hp).1, Nat.ne_of_lt (Heap.lt_size (N p hp).1), gn p hp⟩) BG (X₀.keeps st) (T.keeps st) gs (fun p hp => Heap.lt_size (N p hp).1)) (fun fl s' hl => lv _ _ hl) fun _ _ y => y
end
section
variable {prog : Program} {w : World} {A : Around} {E : Value → Shared → Prop} {s : Shared} {env : Env} {target : PySem.Expr} {body : List Stmt} {Q : Flow → Shared → Prop} {it : Value}
/-- what is left of a for loop whose iterator is it -/
noncomputable def ForRest (prog : Program) (w : World) (A : Around) (E : Value → Shared → Prop) (env : Env) (target : PySem.Expr) (body : List Stmt) (Q : Flow → Shared → Prop) (it : Value) (s : Shared) : Prop :=
  codeAny (model prog w) A (.forLoop target it body [] env) (fun r s' => match r with | .ok f => Q f s' | .error e => cameBackBy (model prog w) A env E e s') s
noncomputable def ForPost (prog : Program) (w : World) (A : Around) (E : Value → Shared → Prop) (env : Env) (target : PySem.Expr) (body : List Stmt) (Q : Flow → Shared → Prop) (it : Value) (f : Flow) (s₃ : Shared) : Prop := match f with
  | .ret v => Q (.ret v) s₃
  | .brk => Q .next s₃
  | _ => ForRest prog w A E env target body Q it s₃
noncomputable def ForTurn (prog : Program) (w : World) (A : Around) (E : Value → Shared → Prop) (env : Env) (target : PySem.Expr) (body : List Stmt) (Q : Flow → Shared → Prop) (it : Value) (r : Option Value) (s₁ : Shared) : Prop := match r with
  | none => Q .next s₁
  | some v => wpAny (model prog w) A (letOwnedTupleGo target it v) (fun _ s₁' => wpAny (model prog w) A (assign target env v) (fun _ s₂ => wpAny (model prog w) A (execs body env) (ForPost prog w A E env target body Q it) E s₂) E s₁') E s₁
theorem for_start {iter : PySem.Expr} {pos : Pos} (h : wpAny (model prog w) A (eval iter env) (fun xv s₁ => wpAny (model prog w) A (pyIter xv) (fun it s₂ => ForRest prog w A E env target body Q it s₂) E s₁) E s)
    (hs : ∀ x, foldedSetIterable iter env x = pure x := by intro _; rfl) : wpAny (model prog w) A (exec (.For target iter body [] pos) env) Q E s := wpAny_For h hs
theorem for_turn (hE : PassesOwn (model prog w) A env E)
    (h : wpAny (model prog w) A (pyNext it) (ForTurn prog w A E env target body Q it) E s) : ForRest prog w A E env target body Q it s := by
  refine codeAny_of_tree ?_
  show wpAny _ A ((forTurn target it body [] env).onRaise (fun x => do noteFrame x env; theTreesLotGoes x)) _ _ s
  refine wpAny_noted ?_
  simp only [forTurn]
  refine wpAny_bind (wpAny_standAt (wpAny_bind (wpAny_onRaise (wpAny_mono h (fun r s₁ h₁ => ?_) fun e s' x => wpAny_standAt (hE _ _ x)))))
  cases r with
  | none => exact wpAny_pure ⟨rfl, codeAny_block (wpAny_execs_nil h₁)⟩
  | some v =>
    refine wpAny_bind (wpAny_mono h₁ (fun _ s₁' h₁' => ?_) hE)
    refine wpAny_bind (wpAny_mono h₁' (fun _ s₂ h₂ => wpAny_bind (wpAny_mono h₂ (fun f s₃ h₃ => ?_) hE)) hE)
    cases f with
    | next => exact wpAny_pure ⟨rfl, h₃⟩
    | cont => exact wpAny_pure ⟨rfl, h₃⟩
    | brk => exact wpAny_pure h₃
    | ret v => exact wpAny_pure h₃
end
end Mine
end
section
open PySem PySem.W PyProof.Rows PySem.Calls PySem.Spec
set_option maxRecDepth 100000
set_option maxHeartbeats 2000000
namespace Mine
section
variable {prog : Program} {w : World} {A : Around} {E : Value → Shared → Prop} {s : Shared} {h₀ : Heap} {L : Addr} {m : Str → Option Value} {news : List (Addr × Obj)}
theorem r_fnset_N {x : Addr} {fd : FuncData} {v : Value} {Q : Unit → Shared → Prop} (F : Fr h₀ L s.heap m) (N : News h₀ L s.heap ((x, { cls := .type "function", data := .func fd }) :: news)) (off : ∀ p ∈ news, p.1 ≠ x)
    (h : ∀ h' D k tk n, Fr h₀ L h' m → News h₀ L h' ((D, dictOf [⟨k, .str (Str.ofString "read") tk, v⟩] n) :: (x, { cls := .type "function", data := .func fd, dict := some D }) :: news) →
      (∀ p ∈ ((x, ({ cls := .type "function", data := .func fd } : Obj)) :: news), p.1 < D) → Q () { s with heap := h', toks := s.toks + 2 }) :
    wpAny (model prog w) A (setAttr (.ref x) (Str.ofString "read") v) Q E s := by
  have hx := N _ (.head _)
  refine r_fnset hx.1 fun h' D n tk k h1 h2 hD hk => ?_
  have hLs : L < s.heap.objs.size := F.ns.lt
  have old : ∀ b o, h₀.get? b = some o → h'.get? b = some o := fun b o e => hk b o (fun q => by rw [q, hx.2.2] at e; cases e) (F.keep b o e)
  have fr : ∀ b, s.heap.objs.size ≤ b → h₀.get? b = none := fun b hb => Heap.get?_none_of_le (Nat.le_trans F.above (Nat.le_trans (Nat.le_of_lt hLs) hb))
  refine h h' D k tk n ?_ ?_ ?_
  · obtain ⟨oL, es, ep, a1, a2⟩ := F.ns
    exact ⟨⟨oL, es, ep, hk _ _ hx.2.1.symm a1, a2⟩, old, F.above⟩
  · intro p hp
    rcases List.mem_cons.mp hp with rfl | hp
    · exact ⟨h2, Nat.ne_of_gt (Nat.lt_of_lt_of_le hLs hD), fr _ hD⟩
    rcases List.mem_cons.mp hp with rfl | hp
    · exact ⟨h1, hx.2.1, hx.2.2⟩
    · have := N p (.tail _ hp)
      exact ⟨hk _ _ (off p hp) this.1, this.2⟩
  · intro p hp
    exact Nat.lt_of_lt_of_le (Heap.lt_size (N p hp).1) hD
theorem r_listStr {x : Str} {t : Tok} {Q : Value → Shared → Prop} (hh : A.handled = none) (F : Fr h₀ L s.heap m) (N : News h₀ L s.heap news) (hsz : x.length ≤ sizeLine)
    (h : ∀ h' tk D n (l : List (Str × Tok)), Fr h₀ L h' m → News h₀ L h' ((D, listOf (strValues l).toArray n) :: news) → (∀ p ∈ news, p.1 < D) → l.map (·.1) = signs x → Q (.ref D) { s with heap := h', toks := tk }) :
    wpAny (model prog w) A (call (.type "list") [.str x t]) Q E s := by
  refine list_strD hh F N (fun h' tk ys F' N' hk hn hl hp hc => ?_) hsz
  obtain ⟨l, e1, e2⟩ : ∃ l : List (Str × Tok), ys = strValues l ∧ l.map (·.1) = signs x := by
    clear hl hp
    generalize signs x = zs at hc
    induction zs generalizing ys with
    | nil => cases hc; exact ⟨[], rfl, rfl⟩
    | cons z zs ih =>
      cases hc with
      | cons a b =>
        obtain ⟨l, rfl, e⟩ := ih _ b
        cases a with
        | str x t => exact ⟨(z, t) :: l, rfl, by simp [e]⟩
  subst e1
  obtain ⟨⟨n, hD⟩, hne⟩ := hp
  refine h h' tk _ n l F' (fun p hp => ?_) (fun p hp => Heap.lt_size (N p hp).1) e2
  rcases List.mem_cons.mp hp with rfl | hp
  · exact ⟨hD, Nat.ne_of_gt F.ns.lt, hn⟩
  · exact N' p hp
end
end Mine
end
section
open PySem PySem.W PyProof.Rows PySem.Calls PySem.Spec
set_option maxRecDepth 100000
set_option maxHeartbeats 1000000
namespace Mine
theorem let_A {α : Type} {M : Model} {A : Around} {t : Sem α} {Q : α → Shared → Prop} {E : Value → Shared → Prop} {s : Shared} (h : let A9 := A; wpAny M A9 t Q E s) : wpAny M A t Q E s := h
theorem let_QE {α : Type} {M : Model} {A : Around} {t : Sem α} {Q : α → Shared → Prop} {E : Value → Shared → Prop} {s : Shared} (h : let E9 := E; let Q9 := Q; wpAny M A t Q9 E9 s) : wpAny M A t Q E s := h
theorem let_FR {prog : Program} {w : World} {A : Around} {E : Value → Shared → Prop} {env : Env} {target : PySem.Expr} {body : List Stmt} {Q : Flow → Shared → Prop} {it : Value} {s : Shared} (h : let Q8 := Q; ForRest prog w A E env target body Q8 it s) : ForRest prog w A E env target body Q it s := h
end Mine
end
section
open PySem PySem.W PyProof.Rows PySem.Calls PySem.Spec
set_option maxRecDepth 100000
namespace Mine
noncomputable abbrev PG : Program := PySem.Challenge.rw_pg0181_01.row.prog
noncomputable def bodyOf : Stmt → List Stmt | .FunctionDef _ _ b _ _ _ _ _ _ _ => b | _ => []
noncomputable def paramsOf : Stmt → Arguments | .FunctionDef _ p _ _ _ _ _ _ _ _ => p | _ => default
noncomputable def scopeOf : Stmt → Scope | .FunctionDef _ _ _ _ _ _ s _ _ _ => s | _ => default
noncomputable def nth (l : List Stmt) (i : Nat) : Stmt := match l, i with | s :: _, 0 => s | _ :: r, i + 1 => nth r i | [], _ => .Pass default
/-- the def read, made in _law_reader's body -/
noncomputable def rdStmt : Stmt := nth (bodyOf (nth PG.main.body 12)) 1
noncomputable def rdBody : List Stmt := bodyOf rdStmt
noncomputable def rdParams : Arguments := paramsOf rdStmt
noncomputable def rdScope : Scope := scopeOf rdStmt
/-- a lexer of _law_reader's: where its parts stand -/
structure Lex where
  (x dx pb sg cell rd c1 st sD : Addr)
  (t1 t2 t3 t4 tw tS : Tok)
  kS : Int
  nS : Nat
  fS : FuncData
  (dc pm ct : Value)
  (o1 oc : Obj)
noncomputable abbrev lexD (P : Params) (z : Lex) (ln : Int) (tl : Tok) : Obj := dictOf [⟨PyData.keyHash P (Str.ofString "lineno"), .str (Str.ofString "lineno") z.t1, .int ln tl⟩, ⟨PyData.keyHash P (Str.ofString "instream"), .str (Str.ofString "instream") z.t2, .ref z.st⟩, ⟨PyData.keyHash P (Str.ofString "whitespace"), .str (Str.ofString "whitespace") z.t3, .str (Str.ofString "\n\t\r ") z.tw⟩, ⟨PyData.keyHash P (Str.ofString "pushback"), .str (Str.ofString "pushback") z.t4, .ref z.pb⟩] 4
noncomputable abbrev rdObj (z : Lex) : Obj := fnMade (Str.ofString "read") (Str.ofString "_law_reader.<locals>.read") rdParams rdBody rdScope [(Str.ofString "signs", z.cell)] z.dc z.pm z.c1 z.ct
noncomputable abbrev lexLed (P : Params) (z : Lex) (ln : Int) (tl : Tok) (pbv : List Value) (n1 : Nat) (sgv : List Value) (n2 : Nat) : List (Addr × Obj) :=
  [(z.dx, lexD P z ln tl), (z.pb, listOf pbv.toArray n1), (z.sg, listOf sgv.toArray n2), (z.x, instObj 95 z.dx), (z.sD, dictOf [⟨z.kS, .str (Str.ofString "read") z.tS, .ref z.rd⟩] z.nS),
   (z.st, { cls := .type "function", data := .func z.fS, dict := some z.sD }), (z.rd, rdObj z), (z.c1, z.o1), (z.cell, z.oc)]
/-- the parts stand one above the other -/
structure LexOk (z : Lex) : Prop where
  a1 : @LT.lt Nat _ z.cell z.sg
  a2 : @LT.lt Nat _ z.sg z.c1
  a3 : @LT.lt Nat _ z.c1 z.rd
  a4 : @LT.lt Nat _ z.rd z.st
  a5 : @LT.lt Nat _ z.st z.sD
  a6 : @LT.lt Nat _ z.sD z.dx
  a7 : @LT.lt Nat _ z.dx z.x
  a8 : @LT.lt Nat _ z.x z.pb
  d1 : ∃ vs t, z.o1.data = .fields vs ∧ vs[1]? = some (.str (Str.ofString "_law_reader.<locals>.read") t)
  d2 : z.oc.data = .cell (some (.ref z.sg))
noncomputable def lexAdr (z : Lex) : List Addr := [z.dx, z.pb, z.sg, z.x, z.sD, z.st, z.rd, z.c1, z.cell]
theorem lexAdr_le {z : Lex} (Z : LexOk z) : ∀ a ∈ lexAdr z, @LE.le Nat _ a z.pb := by
  obtain ⟨a1, a2, a3, a4, a5, a6, c7, a8, _, _⟩ := Z
  have c7 := Nat.lt_trans c7 a8
  have c6 := Nat.lt_trans a6 c7
  have c5 := Nat.lt_trans a5 c6
  have c4 := Nat.lt_trans a4 c5
  have c3 := Nat.lt_trans a3 c4
  have c2 := Nat.lt_trans a2 c3
  have c1 := Nat.lt_trans a1 c2
  intro a h
  simp only [lexAdr, List.mem_cons, List.not_mem_nil, or_false] at h
  rcases h with rfl | rfl | rfl | rfl | rfl | rfl | rfl | rfl | rfl
  · exact Nat.le_of_lt c7
  · exact Nat.le_refl _
  · exact Nat.le_of_lt c2
  · exact Nat.le_of_lt a8
  · exact Nat.le_of_lt c6
  · exact Nat.le_of_lt c5
  · exact Nat.le_of_lt c4
  · exact Nat.le_of_lt c3
  · exact Nat.le_of_lt c1
theorem lexAdr_ge {z : Lex} (Z : LexOk z) : ∀ a ∈ lexAdr z, @LE.le Nat _ z.cell a := by
  obtain ⟨a1, a2, a3, a4, a5, a6, a7, a8, _, _⟩ := Z
  have c2 := Nat.lt_trans a1 a2
  have c3 := Nat.lt_trans c2 a3
  have c4 := Nat.lt_trans c3 a4
  have c5 := Nat.lt_trans c4 a5
  have c6 := Nat.lt_trans c5 a6
  have c7 := Nat.lt_trans c6 a7
  have c8 := Nat.lt_trans c7 a8
  intro a h
  simp only [lexAdr, List.mem_cons, List.not_mem_nil, or_false] at h
  rcases h with rfl | rfl | rfl | rfl | rfl | rfl | rfl | rfl | rfl
  · exact Nat.le_of_lt c6
  · exact Nat.le_of_lt c8
  · exact Nat.le_of_lt a1
  · exact Nat.le_of_lt c7
  · exact Nat.le_of_lt c5
  · exact Nat.le_of_lt c4
  · exact Nat.le_of_lt c3
  · exact Nat.le_of_lt c2
  · exact Nat.le_refl _
theorem lex_not_above {z : Lex} (Z : LexOk z) {b : Addr} (h : @LT.lt Nat _ z.pb b) : b ∉ lexAdr z := fun hb => Nat.lt_irrefl _ (Nat.lt_of_lt_of_le h (lexAdr_le Z b hb))
theorem lex_not_below {z : Lex} (Z : LexOk z) {b : Addr} (h : @LT.lt Nat _ b z.cell) : b ∉ lexAdr z := fun hb => Nat.lt_irrefl _ (Nat.lt_of_lt_of_le h (lexAdr_ge Z b hb))
theorem seqIdx0 (v : Value) (r : List Value) : seqIndex? 0 (v :: r).toArray.size = some 0 := by simp [seqIndex?]
theorem len_fit {n : Nat} (h : n ≤ 1000000) : (n : Int) < 2 ^ 63 := by omega
theorem size_fit {n : Nat} (h : n ≤ 1000000) : n ≤ sizeLine := by rw [sizeLine_eq]; omega
theorem pop0 {its : Array Value} {prog : Program} {w : World} {A : Around} {E : Value → Shared → Prop} {s : Shared} {h₀ : Heap} {L : Addr} {m : Str → Option Value} {news news' : List (Addr × Obj)} {D : Addr} {u : Tok} {y : Value} {r : List Value} {n : Nat} {Q : Value → Shared → Prop}
    (F : Fr h₀ L s.heap m) (N : News h₀ L s.heap news) (U : Upd D (listOf its n) (listOf r.toArray (n + 1)) news news') (e : its = (y :: r).toArray) (hz : (y :: r).length ≤ sizeLine)
    (h : ∀ h', Fr h₀ L h' m → News h₀ L h' news' → Q y { s with heap := h' }) : wpAny (model prog w) A (call (.builtin "list.pop") [.ref D, .int 0 u]) Q E s :=
  by subst e; exact kl_popAt (p := []) (q := r) F N rfl (seqIdx0 _ _) rfl U hz h
end Mine
end
section
open PySem PySem.W PyProof.Rows PySem.Calls PySem.Spec
set_option maxRecDepth 100000
set_option maxHeartbeats 8000000
namespace Mine
local macro_rules | `(tactic| walk_at "call builtin:str.find") => `(tactic| (k_here; (with_reducible show wpAny _ _ (call (Value.builtin "str.find") [Value.str _ _, Value.str _ _, Value.int _ _, Value.int _ _]) _ _ _); refine r_find4 ?_))
local macro_rules | `(tactic| walk_at "call builtin:str.rfind") => `(tactic| (k_here; (with_reducible show wpAny _ _ (call (Value.builtin "str.rfind") [Value.str _ _, Value.str _ _, Value.int _ _, Value.int _ _]) _ _ _); refine r_rfind4 ?_))
noncomputable def stripE1 (x : Str) : Int := if 0 ≤ Txt.find x (Str.ofString "\n") then Txt.find x (Str.ofString "\n") else x.length
noncomputable def stripE2 (x : Str) : Int := if 0 ≤ find4 x (Str.ofString ":") 0 (stripE1 x) then find4 x (Str.ofString ":") 0 (stripE1 x) else stripE1 x
noncomputable def stripS (x : Str) : Str := Txt.slice x (some (if 0 ≤ rfind4 x (Str.ofString ".") 0 (stripE2 x) then rfind4 x (Str.ofString ".") 0 (stripE2 x) + 1 else 0)) (some (stripE2 x))
section
variable {w : World} {p : Program} {loose : List Str} {mean : ExcName → Option Value} {mg mb : Str → Option Value}
  {dp un : Nat} {gd : Option (List Code)} {cn : Str} {cs : Scope} {a : Addr} {ccd : Value} {cl : List (Str × Addr)} {outer : List Env} {A₀ : Around} {base h₀ : Heap} {L : Addr} {m : Str → Option Value} {news : List (Addr × Obj)} {s : Shared} {Q E : Value → Shared → Prop}
  (B : Below A₀ base outer h₀) (F : Fr h₀ L s.heap m) (X : (hd.heap_39 w.params).In h₀) (N : News h₀ L s.heap news) (T : Top p loose mean mg mb h₀) (hk : cs.kind = .function)
include B F X N T hk
theorem strip_call {x : Str} {tx : Tok} (hdp : dp + 1 < recursionLimit) (hu : un + 8 < cLine) (hx : x.length ≤ 1000000)
  (hret : ∀ t h' tk', Fr h₀ L h' m → News h₀ L h' news → (stripS x).length ≤ x.length → Q (.str (stripS x) t) { s with heap := h', toks := tk' }) :
  wpAny (model PG w) (ktrTop dp un gd cn cs L a ccd cl outer) (call (.ref 21) [.str x tx]) Q E s := by
  have hfill : PySem.Challenge.rw_pg0181_01 = PySem.Challenge.rw_pg0181_01 := rfl
  have hfill2 : hd.heap_39 = hd.heap_39 := rfl
  revert hfill hfill2
  k_fill
  intro _ _
  have hret2 : ∀ y, y = stripS x → y.length ≤ x.length → ∀ t h' tk', Fr h₀ L h' m → News h₀ L h' news → Q (.str y t) { s with heap := h', toks := tk' } := by
    intro y hy hl t h' tk' F' N'
    subst hy
    exact hret t h' tk' F' N' hl
  clear hret
  refine wpAny_call ?_
  k_dflt ktr_enter
  k_steps
  all_goals
    refine hret2 _ ?_ (by assumption) _ _ _ (by assumption) (cb_drop (by assumption) (fun q hq => List.Mem.tail _ hq))
    rename _ ∨ _ => hr9
    clear hret2
    unfold stripS stripE2 stripE1
    rcases hr9 with ⟨h1, h2⟩ | ⟨h1, h2⟩ <;> subst h2 <;> simp only [*, if_true, if_false]
end
end Mine
end
section
open PySem PySem.W PyProof.Rows PySem.Calls PySem.Spec
set_option maxRecDepth 100000
set_option maxHeartbeats 1000000
namespace Mine
local macro_rules | `(tactic| walk_at "eval Name") => `(tactic| (k_here; (with_reducible show wpAny _ _ (eval (PySem.Expr.Name (PySem.Str.ofString "signs") _) _) _ _ _); k_dflt (refine' nameX_F ?N ?c ?m ?d ?_ ?a ?b; (case a => exact rfl); (case b => exact rfl); (case N => k_asm); (case c => exact rfl); (case m => k_mem); (case d => k_asm); k_whole)))
local macro_rules | `(tactic| walk_at "call builtin:len") => `(tactic| (k_here; k_dflt (apply kst_len; k_asm; k_mem; exact rfl; (refine len_fit ?_; (try simp only [List.length_cons, List.length_nil] at *); omega); k_whole)))
local macro_rules | `(tactic| walk_at "call builtin:list.pop") => `(tactic| (k_here; k_dflt (apply pop0; k_asm; k_asm; k_upd; exact rfl; (refine size_fit ?_; (try simp only [List.length_cons, List.length_nil] at *); omega); k_whole); intro h' F' N'))
section
variable {w : World} {p : Program} {loose : List Str} {mean : ExcName → Option Value} {mg mb : Str → Option Value}
  {dp un : Nat} {gd : Option (List Code)} {cn : Str} {cs : Scope} {a : Addr} {ccd : Value} {cl : List (Str × Addr)} {outer : List Env} {A₀ : Around} {base h₀ : Heap} {L : Addr} {m : Str → Option Value} {s : Shared} {R : Result → Shared → Prop}
  (B : Below A₀ base outer h₀) (F : Fr h₀ L s.heap m) (X : (hd.heap_39 w.params).In h₀) (T : Top p loose mean mg mb h₀) (hk : cs.kind = .function)
include B F X T hk
theorem read_ca {z : Lex} (Z : LexOk z) {ln : Int} {tl t : Tok} {pbv sgv : List Value} {n1 n2 : Nat} (hs : sgv.length ≤ 100000) (hdp : dp + 1 < recursionLimit) (hu : un + 8 < cLine) (N : News h₀ L s.heap (lexLed w.params z ln tl pbv n1 sgv n2))
  (hret : ∀ v h' tk n2', (match sgv with | [] => ∃ t, v = .str (Str.ofString "") t | y :: _ => v = y) → Fr h₀ L h' m → News h₀ L h' (lexLed w.params z ln tl pbv n1 sgv.tail n2') → (∀ b o, s.heap.get? b = some o → b ∉ lexAdr z → h'.get? b = some o) → R (.ok (.ret v)) { s with heap := h', toks := tk }) :
  codeAny (model PG w) (ktrTop dp un gd cn cs L a ccd cl outer) (.call (.ref z.rd) ⟨[.int 1 t], []⟩) R s := by
  have hfill : PySem.Challenge.rw_pg0181_01 = PySem.Challenge.rw_pg0181_01 := rfl
  have hfill2 : hd.heap_39 = hd.heap_39 := rfl
  revert hfill hfill2
  k_fill
  intro _ _
  obtain ⟨x, dx, pb, sg, cell, rd, c1, st, sD, t1, t2, t3, t4, tw, tS, kS, nS, fS, dc, pm, ct, o1, oc⟩ := z
  obtain ⟨a1, a2, a3, a4, a5, a6, a7, a8, ⟨vs1, tq, d11, d12⟩, d2⟩ := Z
  dsimp only [lexLed, lexD, lexAdr] at a1 a2 a3 a4 a5 a6 a7 a8 d11 d2 N hret ⊢
  have b3 := Nat.lt_trans a2 a3
  have b4 := Nat.lt_trans b3 a4
  have b5 := Nat.lt_trans b4 a5
  have b6 := Nat.lt_trans b5 a6
  have b7 := Nat.lt_trans b6 a7
  have b8 := Nat.lt_trans b7 a8
  have hrd := (N (rd, _) (.tail _ (.tail _ (.tail _ (.tail _ (.tail _ (.tail _ (.head _)))))))).1
  have hc1 := (N (c1, _) (.tail _ (.tail _ (.tail _ (.tail _ (.tail _ (.tail _ (.tail _ (.head _))))))))).1
  refine ent_heap B F X N T rfl rfl hk hrd rfl ⟨c1, o1, vs1, tq, rfl, hc1, d11, d12⟩ ?_ (BindsTo.of_eq rfl) (locs rfl) ?_ rfl rfl rfl (by decide +kernel)
  · ktr_room
  intro g' L' h' FG' F' N' B' X' T' GS' l1
  conv => 
    pattern rdBody
    whnf
  have ⟨sc, hsc⟩ : ∃ sc, sc = rdScope := ⟨_, rfl⟩
  rw [← hsc]
  conv at hsc =>
    rhs
    whnf
  subst hsc
  dsimp only [lexLed, lexD] at N' l1 ⊢
  k_lt l1
  clear N hrd hc1
  cases sgv with
  | nil =>
    k_steps
    all_goals exact leaveM_ (by assumption) (fun kF kk kN => hret _ _ _ _ ⟨_, rfl⟩ kF (kN _ (by assumption)) kk)
  | cons v r =>
    k_steps
    · exact leaveM_ (by assumption) (fun kF kk kN => hret _ _ _ _ rfl kF (kN _ (by assumption)) kk)
    · exact absurd (show (0 : Int) < ((v :: r).length : Nat) by simp only [List.length_cons]; omega) (by assumption)
end
end Mine
end
section
open PySem PySem.W PyProof.Rows PySem.Calls PySem.Spec
open Mine
local macro_rules | `(tactic| ktr_enter) => `(tactic| first
  | (apply ent_plain; exact rfl; exact rfl; assumption; k_asm; k_asm; k_asm; k_asm; k_asm; k_is; k_is; ktr_room; (first | exact BindsTo.of_eq rfl | exact binds_K (by k_in) rfl (by k_is) rfl rfl rfl); decide; exact locs rfl; exact rfl; exact rfl; exact rfl; k_whole; intro g' L' h' FG' F' N' B' X' T' GS' l1; (try k_lt l1); (try dsimp only); (try k_lift B'); (try k_fold))
  | (apply ent_cells; exact rfl; exact rfl; assumption; k_asm; k_asm; k_asm; k_asm; k_asm; k_is; k_is; ktr_room; (first | exact BindsTo.of_eq rfl | exact binds_K (by k_in) rfl (by k_is) rfl rfl rfl); exact rfl; decide +kernel; exact rfl; exact rfl; exact rfl; k_whole; intro g' L' h' tk' cells' FG' F' N' Y' B' X' T' GS' l1; (try k_lt l1); k_cells Y'; (try simp only [List.cons_append, List.nil_append] at N'); (try dsimp only); (try k_lift B'); (try k_fold)))
section
open PySem PySem.W PyProof.Rows PySem.Calls PySem.Spec
set_option maxRecDepth 100000
set_option maxHeartbeats 1000000
namespace Mine
local macro_rules | `(tactic| walk_at "getMethod ref") => `(tactic| (k_here; (with_reducible show wpAny _ _ (getMethod _ (PySem.Str.ofString "read") _) _ _ _); k_dflt (apply r_fnmeth; exact News.get (by k_asm) (by k_mem); exact News.get (by k_asm) (by k_mem); k_whole)))
section
variable {w : World} {p : Program} {loose : List Str} {mean : ExcName → Option Value} {mg mb : Str → Option Value}
  {dp un : Nat} {gd : Option (List Code)} {cn : Str} {cs : Scope} {a : Addr} {ccd : Value} {cl : List (Str × Addr)} {outer : List Env} {A₀ : Around} {base h₀ : Heap} {L : Addr} {m : Str → Option Value} {s : Shared} {R : Result → Shared → Prop}
  (B : Below A₀ base outer h₀) (F : Fr h₀ L s.heap m) (X : (hd.heap_39 w.params).In h₀) (T : Top p loose mean mg mb h₀) (hk : cs.kind = .function)
include B F X T hk
theorem read_char_ca {z : Lex} (Z : LexOk z) {ln : Int} {tl : Tok} {pbv : List Value} {sg : List (Str × Tok)} {n1 n2 : Nat} (hs : (strValues sg).length ≤ 100000) (hdp : dp + 2 < recursionLimit) (hu : un + 16 < cLine) (N : News h₀ L s.heap (lexLed w.params z ln tl pbv n1 (strValues sg) n2))
  (hret : ∀ v h' tk ln' tl' n2', (match sg with | [] => ∃ t, v = .str (Str.ofString "") t | y :: _ => v = .str y.1 y.2) → Fr h₀ L h' m → News h₀ L h' (lexLed w.params z ln' tl' pbv n1 (strValues sg.tail) n2') → (∀ b o, s.heap.get? b = some o → b ∉ lexAdr z → h'.get? b = some o) → R (.ok (.ret v)) { s with heap := h', toks := tk }) :
  codeAny (model PG w) (ktrTop dp un gd cn cs L a ccd cl outer) (.call (.ref 78) ⟨[.ref z.x], []⟩) R s := by
  have hfill : PySem.Challenge.rw_pg0181_01 = PySem.Challenge.rw_pg0181_01 := rfl
  have hfill2 : hd.heap_39 = hd.heap_39 := rfl
  revert hfill hfill2
  k_fill
  intro _ _
  k_dflt ktr_enter
  obtain ⟨a1, a2, a3, a4, a5, a6, a7, a8, ⟨vs1, tq, d11, d12⟩, d2⟩ := id Z
  have b8 := Nat.lt_trans a7 a8
  have b5 := Nat.lt_trans a5 a6
  have b4 := Nat.lt_trans a4 b5
  have b3 := Nat.lt_trans a3 b4
  have b2 := Nat.lt_trans a2 b3
  have b1 := Nat.lt_trans a1 b2
  k_steps
  dsimp only
  k_dflt (refine callWith_F (FnAt.of (by k_asm) (by k_mem)) ?_)
  k_steps
  k_dflt (refine' wpAny_call (read_ca (z := z) ?kB ?kF ?kX ?kT rfl Z hs ?kd ?ku ?kN ?_); (case kB => k_asm); (case kF => k_asm); (case kX => k_asm); (case kT => k_asm); (case kN => k_asm); (case kd => ktr_room); (case ku => ktr_units))
  intro v_1 h' tk n2' hv F' N' K'
  cases sg with
  | nil =>
    obtain ⟨t, rfl⟩ := hv
    k_steps
    all_goals dsimp only
    all_goals exact leaveM_ (by assumption) (fun kF kk kN => hret _ _ _ _ _ _ ⟨_, rfl⟩ kF (kN _ (by assumption)) kk)
  | cons v r =>
    cases (show v_1 = Value.str v.1 v.2 from hv)
    k_steps
    all_goals dsimp only
    all_goals exact leaveM_ (by assumption) (fun kF kk kN => hret _ _ _ _ _ _ rfl kF (kN _ (by assumption)) kk)
end
end Mine
end
section
open PySem PySem.W PyProof.Rows PySem.Calls PySem.Spec
set_option maxRecDepth 100000
set_option maxHeartbeats 1000000
namespace Mine
theorem fn78 (P : Params) : ∃ fo fd, (hd.heap_39 P).lookup 78 = some fo ∧ fo.data = .func fd := ⟨_, _, rfl, rfl⟩
noncomputable abbrev ciLed (z : Lex) (q it : Addr) (te : Tok) : List (Addr × Obj) := [(q, methodObj (.ref 78) (.ref z.x)), (it, ciObj (.ref q) (.str (Str.ofString "") te) (.bool false))]
section
variable {w : World} {p : Program} {loose : List Str} {mean : ExcName → Option Value} {mg mb : Str → Option Value}
  {dp un : Nat} {gd : Option (List Code)} {cn : Str} {cs : Scope} {a : Addr} {ccd : Value} {cl : List (Str × Addr)} {outer : List Env} {A₀ : Around} {base h₀ : Heap} {L : Addr} {m : Str → Option Value} {s : Shared}
  (B : Below A₀ base outer h₀) (F : Fr h₀ L s.heap m) (X : (hd.heap_39 w.params).In h₀) (T : Top p loose mean mg mb h₀) (hk : cs.kind = .function)
include B F X T hk
theorem ci_next {z : Lex} (Z : LexOk z) {ln : Int} {tl te : Tok} {pbv : List Value} {sg : List (Str × Tok)} {n1 n2 : Nat} {q it : Addr} (hs : (strValues sg).length ≤ 100000) (hdp : dp + 2 < recursionLimit) (hu : un + 17 < cLine)
  (hqi : @LT.lt Nat _ z.pb q) (hqi2 : @LT.lt Nat _ q it) {Q : Option Value → Shared → Prop} {E : Value → Shared → Prop}
  (N : News h₀ L s.heap (lexLed w.params z ln tl pbv n1 (strValues sg) n2 ++ ciLed z q it te))
  (hc : ∀ y ∈ sg, (Str.ofString "" == y.1) = false)
  (h : match sg with
    | [] => ∀ h' tk ln' tl' n2', Fr h₀ L h' m → News h₀ L h' (lexLed w.params z ln' tl' pbv n1 [] n2') → (∀ b o, s.heap.get? b = some o → b ∉ lexAdr z → b ≠ it → h'.get? b = some o) → Q none { s with heap := h', toks := tk }
    | y :: r => ∀ h' tk ln' tl' n2', Fr h₀ L h' m → News h₀ L h' (lexLed w.params z ln' tl' pbv n1 (strValues r) n2' ++ ciLed z q it te) → (∀ b o, s.heap.get? b = some o → b ∉ lexAdr z → h'.get? b = some o) → Q (some (.str y.1 y.2)) { s with heap := h', toks := tk }) :
  wpAny (model PG w) (ktrTop dp un gd cn cs L a ccd cl outer) (pyNext (.ref it)) Q E s := by
  obtain ⟨fo, fd, hfo, hfd⟩ := fn78 w.params
  have nq : q ∉ lexAdr z := lex_not_above Z hqi
  have nit : it ∉ lexAdr z := lex_not_above Z (Nat.lt_trans hqi hqi2)
  have Nl : News h₀ L s.heap (lexLed w.params z ln tl pbv n1 (strValues sg) n2) := fun p hp => N p (List.mem_append_left _ hp)
  have hq := N (q, methodObj (.ref 78) (.ref z.x)) (List.mem_append_right _ (.head _))
  have hit := N (it, ciObj (.ref q) (.str (Str.ofString "") te) (.bool false)) (List.mem_append_right _ (.tail _ (.head _)))
  refine r_pyNext_ci (e := Str.ofString "") hit.1 hq.1 (F.keep _ _ (X _ _ hfo)) hfd rfl ?_
  show codeAny _ (ktrTop dp (un + 1) gd cn cs L a ccd cl outer) _ _ _
  refine read_char_ca B F X T hk Z hs hdp (by omega) Nl ?_
  intro v h' tk ln' tl' n2' hv F' N' K'
  have hq' := K' _ _ hq.1 nq
  have hit' := K' _ _ hit.1 nit
  cases sg with
  | nil =>
    obtain ⟨t, rfl⟩ := hv
    refine ⟨_, t, rfl, hit', hq', ⟨fo, F'.keep _ _ (X _ _ hfo), hfd⟩, ?_⟩
    rw [if_pos (by decide +kernel)]
    intro h'' hk'' hit''
    have nb : ∀ b o, b ∈ lexAdr z ∨ h₀.get? b = some o ∨ b = L → b ≠ it := by
      rintro b o (hb | hb | hb) e
      · exact nit (e ▸ hb)
      · rw [e, hit.2.2] at hb; cases hb
      · exact hit.2.1 (e.symm.trans hb)
    refine h h'' tk ln' tl' n2' ?_ ?_ ?_
    · obtain ⟨oL, es, ep, e1, e2⟩ := F'.ns
      exact ⟨⟨oL, es, ep, hk'' _ _ (nb L oL (.inr (.inr rfl))) e1, e2⟩, fun b o e => hk'' b o (nb b o (.inr (.inl e))) (F'.keep b o e), F'.above⟩
    · intro p hp
      refine ⟨hk'' _ _ (fun e => nit ?_) (N' p hp).1, (N' p hp).2⟩
      rw [← e]
      have hm := List.mem_map_of_mem (f := (·.1)) hp
      simp only [lexLed, List.map_cons, List.map_nil] at hm
      simp only [lexAdr, List.mem_cons, List.not_mem_nil, or_false] at hm ⊢
      rcases hm with h | h | h | h | h | h | h | h | h <;> simp [h]
    · exact fun b o e hb hbi => hk'' b o hbi (K' b o e hb)
  | cons y r =>
    obtain rfl : v = Value.str y.1 y.2 := hv
    refine ⟨_, _, rfl, hit', hq', ⟨fo, F'.keep _ _ (X _ _ hfo), hfd⟩, ?_⟩
    rw [if_neg (by rw [hc y (.head _)]; decide)]
    refine h h' tk ln' tl' n2' F' (fun p hp => ?_) K'
    rcases List.mem_append.mp hp with hp | hp
    · exact N' p hp
    · rcases List.mem_cons.mp hp with rfl | hp
      · exact ⟨hq', hq.2⟩
      · rcases List.mem_cons.mp hp with rfl | hp
        · exact ⟨hit', hit.2⟩
        · cases hp
theorem read_char_ci {z : Lex} (Z : LexOk z) {ln : Int} {tl te : Tok} {pbv : List Value} {y : Str × Tok} {r : List (Str × Tok)} {n1 n2 : Nat} {q it : Addr} (hs : r.length ≤ 10000) (hdp : dp + 2 < recursionLimit) (hu : un + 17 < cLine)
  (hqi : @LT.lt Nat _ z.pb q) (hqi2 : @LT.lt Nat _ q it) {Q : Value → Shared → Prop} {E : Value → Shared → Prop}
  (N : News h₀ L s.heap (lexLed w.params z ln tl pbv n1 (strValues (y :: r)) n2 ++ ciLed z q it te))
  (h : ∀ h' tk ln' tl' n2', Fr h₀ L h' m → News h₀ L h' (lexLed w.params z ln' tl' pbv n1 (strValues r) n2' ++ ciLed z q it te) → Q (.str y.1 y.2) { s with heap := h', toks := tk }) :
  wpAny (model PG w) (ktrTop dp un gd cn cs L a ccd cl outer) (call (.ref 78) [.ref z.x]) Q E s := by
  have nq : q ∉ lexAdr z := lex_not_above Z hqi
  have nit : it ∉ lexAdr z := lex_not_above Z (Nat.lt_trans hqi hqi2)
  have Nl : News h₀ L s.heap (lexLed w.params z ln tl pbv n1 (strValues (y :: r)) n2) := fun p hp => N p (List.mem_append_left _ hp)
  have hq := N (q, methodObj (.ref 78) (.ref z.x)) (List.mem_append_right _ (.head _))
  have hit := N (it, ciObj (.ref q) (.str (Str.ofString "") te) (.bool false)) (List.mem_append_right _ (.tail _ (.head _)))
  refine wpAny_call (read_char_ca B F X T hk Z (by simp only [strValues, List.length_map, List.length_cons]; omega) hdp (by omega) Nl ?_)
  intro v h' tk ln' tl' n2' hv F' N' K'
  obtain rfl : v = Value.str y.1 y.2 := hv
  refine h h' tk ln' tl' n2' F' (fun p hp => ?_)
  rcases List.mem_append.mp hp with hp | hp
  · exact N' p hp
  · rcases List.mem_cons.mp hp with rfl | hp
    · exact ⟨K' _ _ hq.1 nq, hq.2⟩
    · rcases List.mem_cons.mp hp with rfl | hp
      · exact ⟨K' _ _ hit.1 nit, hit.2⟩
      · cases hp
end
end Mine
end
section
open PySem PySem.W PyProof.Rows PySem.Calls PySem.Spec
set_option maxRecDepth 100000
set_option maxHeartbeats 1000000
namespace Mine
section
variable {prog : Program} {w : World} {A : Around} {E : Value → Shared → Prop} {s : Shared} {env : Env} {target : PySem.Expr} {body : List Stmt} {Q : Flow → Shared → Prop} {it : Value}
noncomputable def IndPost {σ : Type} (I : σ → Shared → Prop) (μ : σ → Nat) (Q : Flow → Shared → Prop) (c : σ) (f : Flow) (s₃ : Shared) : Prop := match f with
  | .ret v => Q (.ret v) s₃
  | .brk => Q .next s₃
  | _ => ∃ c', μ c' < μ c ∧ I c' s₃
noncomputable def IndTurn (prog : Program) (w : World) (A : Around) (E : Value → Shared → Prop) (env : Env) (target : PySem.Expr) (body : List Stmt) (Q : Flow → Shared → Prop) (it : Value) {σ : Type} (I : σ → Shared → Prop) (μ : σ → Nat) (c : σ) (r : Option Value) (s₁ : Shared) : Prop := match r with
  | none => Q .next s₁
  | some v => wpAny (model prog w) A (letOwnedTupleGo target it v) (fun _ s₁' => wpAny (model prog w) A (assign target env v) (fun _ s₂ => wpAny (model prog w) A (execs body env) (IndPost I μ Q c) E s₂) E s₁') E s₁
theorem for_ind {σ : Type} (I : σ → Shared → Prop) (μ : σ → Nat) (hE : PassesOwn (model prog w) A env E)
    (step : ∀ c s, I c s → wpAny (model prog w) A (pyNext it) (IndTurn prog w A E env target body Q it I μ c) E s) (c : σ) {s : Shared} (h : I c s) : ForRest prog w A E env target body Q it s := by
  have all : ∀ n c s, μ c < n → I c s → ForRest prog w A E env target body Q it s := by
    intro n
    induction n with
    | zero => intro c s h; exact absurd h (Nat.not_lt_zero _)
    | succ n ih =>
      intro c s hn hI
      refine for_turn hE (wpAny_mono (step c s hI) (fun r s₁ h₁ => ?_) fun _ _ x => x)
      cases r with
      | none => exact h₁
      | some v =>
        refine wpAny_mono h₁ (fun _ s₁' h₁' => wpAny_mono h₁' (fun _ s₂ h₂ => wpAny_mono h₂ (fun f s₃ h₃ => ?_) fun _ _ x => x) fun _ _ x => x) fun _ _ x => x
        cases f with
        | ret v => exact h₃
        | brk => exact h₃
        | next => obtain ⟨c', hl, hI'⟩ := h₃; exact ih c' s₃ (Nat.lt_of_lt_of_le hl (Nat.le_of_lt_succ hn)) hI'
        | cont => obtain ⟨c', hl, hI'⟩ := h₃; exact ih c' s₃ (Nat.lt_of_lt_of_le hl (Nat.le_of_lt_succ hn)) hI'
  exact all _ c s (Nat.lt_succ_self _) h
theorem name_go {x : Str} {px : Pos} {v : Value} {Q : Unit → Shared → Prop} (h : wpAny (model prog w) A (storeName env x v) Q E s) :
    wpAny (model prog w) A (letOwnedTupleGo (.Name x px) it v) (fun _ s₁' => wpAny (model prog w) A (assign (.Name x px) env v) Q E s₁') E s := wpAny_pure (wpAny_assign_Name h)
end
theorem fr_congr {g h : Heap} {L : Addr} {m1 m2 : Str → Option Value} (F : Fr g L h m1) (e : ∀ y, m1 y = m2 y) : Fr g L h m2 := by
  have : m1 = m2 := funext e
  exact this ▸ F
noncomputable def chS (c : Nat) : Str := ⟨#[c]⟩
noncomputable def chL (l : List Nat) : List Str := l.map chS
noncomputable def escQ : List Nat → List Nat
  | [] => []
  | c :: r => if c = 92 ∨ c = 34 then 92 :: c :: escQ r else c :: escQ r
noncomputable def encQ (l : List Nat) : List Nat := 34 :: (escQ l ++ [34])
noncomputable def escB : List Nat → List Nat
  | [] => []
  | c :: r => 92 :: c :: escB r
noncomputable def encB (l : List Nat) : List Nat := escB l ++ [10]
theorem ch_ne (c : Nat) : (Str.ofString "" == chS c) = false := by
  rw [show Str.ofString "" = (⟨#[]⟩ : Str) by decide +kernel]
  simp [chS]
theorem r_iter2_N {prog : Program} {w : World} {A : Around} {E : Value → Shared → Prop} {s : Shared} {h₀ : Heap} {L : Addr} {m : Str → Option Value} {news : List (Addr × Obj)} {q : Addr} {fv self sent : Value} {Q : Value → Shared → Prop}
    (F : Fr h₀ L s.heap m) (N : News h₀ L s.heap news) (hm : (q, methodObj fv self) ∈ news)
    (h : ∀ h' D, Fr h₀ L h' m → News h₀ L h' ((D, ciObj (.ref q) sent (.bool false)) :: news) → (∀ p ∈ news, p.1 < D) → Q (.ref D) { s with heap := h' }) :
    wpAny (model prog w) A (call (.builtin "iter") [.ref q, sent]) Q E s :=
  r_iter2 (N.get hm) (h _ _ (F.push _) (N.push F _) (fun p hp => Heap.lt_size (N p hp).1))
noncomputable abbrev gtM (mm : Str → Option Value) (x it : Addr) (acc : Str) (ta : Tok) (cv : Option Value) : Str → Option Value := fun y => if y = Str.ofString "token" then some (.str acc ta) else if y = Str.ofString "ch" then cv else if y = Str.ofString "self" then some (.ref x) else if y = Str.ofString "fiter" then some (.ref it) else mm y
theorem gtM_start {f0 : Str → Option Value} {x it : Addr} {acc : Str} {ta : Tok} (h1 : f0 (Str.ofString "token") = some (.str acc ta)) (h2 : f0 (Str.ofString "self") = some (.ref x)) (h3 : f0 (Str.ofString "fiter") = some (.ref it)) : ∀ y, f0 y = gtM f0 x it acc ta (f0 (Str.ofString "ch")) y := by
  intro y
  unfold gtM
  split
  · rename_i e; rw [e, h1]
  · split
    · rename_i e; rw [e]
    · split
      · rename_i e; rw [e, h2]
      · split
        · rename_i e; rw [e, h3]
        · rfl
theorem gtM_next {g h : Heap} {L : Addr} {mm f : Str → Option Value} {x it : Addr} {acc : Str} {ta : Tok} (F : Fr g L h f) (h1 : f (Str.ofString "token") = some (.str acc ta))
    (h2 : ∀ y, y ≠ Str.ofString "token" → y ≠ Str.ofString "ch" → f y = (if y = Str.ofString "self" then some (.ref x) else if y = Str.ofString "fiter" then some (.ref it) else mm y)) : Fr g L h (gtM mm x it acc ta (f (Str.ofString "ch"))) := by
  refine fr_congr F fun y => ?_
  by_cases e1 : y = Str.ofString "token"
  · rw [e1, h1]; simp [gtM]
  · by_cases e2 : y = Str.ofString "ch"
    · simp [gtM, e2, show ¬ Str.ofString "ch" = Str.ofString "token" by decide +kernel]
    · rw [h2 y e1 e2]; simp only [gtM, if_neg e1, if_neg e2]
theorem chL_cons {sg : List (Str × Tok)} {c : Nat} {r : List Nat} (h : sg.map (·.1) = chL (c :: r)) : ∃ t sg', sg = (chS c, t) :: sg' ∧ sg'.map (·.1) = chL r := by
  cases sg with
  | nil => simp [chL] at h
  | cons y r' =>
    obtain ⟨y1, y2⟩ := y
    simp only [List.map_cons, chL, List.cons.injEq] at h
    exact ⟨y2, r', by rw [h.1], h.2⟩
theorem chL_ne {sg : List (Str × Tok)} {l : List Nat} (h : sg.map (·.1) = chL l) : ∀ y ∈ sg, (Str.ofString "" == y.1) = false := by
  intro y hy
  have : y.1 ∈ chL l := h ▸ List.mem_map_of_mem hy
  obtain ⟨c, _, e⟩ := List.mem_map.mp this
  rw [← e]; exact ch_ne c
inductive QI (P : Params) (z : Lex) (g : Heap) (L : Addr) (s0 : Shared) (mm : Str → Option Value) (q it : Addr) (te : Tok) (n1 : Nat) (tl : List Nat → List Nat) (whole : Str) (c : List Nat) (s : Shared) : Prop
  | mk (h : _) (tk : _) (ln : _) (tln : _) (n2 : _) (sg : _) (acc : _) (ta : _) (cv : _) (x0 : s = { s0 with heap := h, toks := tk }) (x1 : Fr g L h (gtM mm z.x it acc ta cv)) (x2 : News g L h (lexLed P z ln tln [] n1 (strValues sg) n2 ++ ciLed z q it te)) (x3 : sg.map (·.1) = chL (tl c)) (x4 : sg.length ≤ 10000) (x5 : acc.length + c.length ≤ 10000) (x6 : acc ++ ⟨c.toArray⟩ = whole) : QI P z g L s0 mm q it te n1 tl whole c s
theorem escQ_len : ∀ l : List Nat, l.length ≤ (escQ l).length
  | [] => Nat.le_refl _
  | c :: r => by
    have := escQ_len r
    unfold escQ
    split <;> simp only [List.length_cons] <;> first | exact Nat.succ_le_succ (Nat.le_succ_of_le this) | exact Nat.succ_le_succ this
theorem chL_len {sg : List (Str × Tok)} {l : List Nat} (h : sg.map (·.1) = chL l) : sg.length = l.length := by
  have := congrArg List.length h
  simpa [chL] using this
theorem str_nil_app (x : Str) : Str.ofString "" ++ x = x := by
  rw [show Str.ofString "" = (⟨#[]⟩ : Str) by decide +kernel]
  exact Str.ext' (by simp [Str.cps_append])
theorem escB_len : ∀ l : List Nat, l.length ≤ (escB l).length
  | [] => Nat.le_refl _
  | c :: r => by
    have := escB_len r
    unfold escB
    simp only [List.length_cons]
    exact Nat.succ_le_succ (Nat.le_succ_of_le this)
theorem r_truthy_cons {prog : Program} {w : World} {A : Around} {E : Value → Shared → Prop} {s : Shared} {h₀ : Heap} {L : Addr} {news : List (Addr × Obj)} {a : Addr} {v : Value} {r : List Value} {n : Nat} {Q : Bool → Shared → Prop}
    (N : News h₀ L s.heap news) (hm : (a, listOf (v :: r).toArray n) ∈ news) (hfit : (v :: r).length < 2 ^ 62)
    (h : Q true { s with toks := s.toks + 1 + 1 }) : wpAny (model prog w) A (truthy (.ref a)) Q E s := kgr_truthy (vs := v :: r) N hm rfl rfl hfit h
theorem strV_push (l : List (Str × Tok)) (y : Str) (u : Tok) : (strValues l).toArray.push (.str y u) = (strValues (l ++ [(y, u)])).toArray := by simp [strValues]
end Mine
end
section
open PySem PySem.W PyProof.Rows PySem.Calls PySem.Spec
set_option maxRecDepth 100000
set_option maxHeartbeats 1000000
namespace Mine
section
variable {prog : Program} {w : World} {A₀ A : Around} {s : Shared} {base h₀ : Heap} {outer : List Env} {L : Addr} {m : Str → Option Value} {env : Env} {news : List (Addr × Obj)} {K : Frag}
  {R : Result → Shared → Prop} {p : Program} {loose : List Str} {mean : ExcName → Option Value} {mg mb : Str → Option Value}
theorem ent_lam {name qual : Str} {params : Arguments} {body : PySem.Expr} {scope : Scope} {cl : List (Str × Addr)} {pm ctv : Value} {c' : Addr} {f : Addr} {args : Args} {binds : List (Str × Value)}
    (B : Below A₀ base outer h₀) (F : Fr h₀ L s.heap m) (X₀ : K.In h₀) (N : News h₀ L s.heap news) (T : Top p loose mean mg mb h₀) (hA : A.frames = some (env :: outer)) (hf : env.frame = some L) (hke : env.scope.kind = .function)
    (ho : s.heap.get? f = some (kla_obj name qual params body scope cl pm c' ctv)) (hcd : s.heap.CodeRec (.ref c') qual) (hroom : A.depth < recursionLimit)
    (hbind : bindArgs (kla_fn name qual params body scope cl pm (.ref c') ctv) args = pure binds) (hloc : ∀ y ∈ binds, scope.names.lookup y.1 = some .local)
    (h : ∀ g L' h₁, Fr h₀ L g m → Fr g L' h₁ (fun y => binds.reverse.lookup y) → News g L' h₁ news → Below A base (env :: outer) g → K.In g → Top p loose mean mg mb g → GSub s.heap g (news.map (·.1)) → (∀ p ∈ news, p.1 < L') →
      wpAny (model prog w) (A.deeper (envX qual scope L' f (.ref c') cl)) (eval body (envX qual scope L' f (.ref c') cl))
        (fun v s' => LeaveM h₀ L m g s.heap (news.map (·.1)) R v s')
        (fun e s' => wpAny (model prog w) (A.deeper (envX qual scope L' f (.ref c') cl)) (leaving (envX qual scope L' f (.ref c') cl) e) (fun _ s'' => R (.error e) s'') (fun e' s'' => R (.error e') s'') s')
        { s with heap := h₁, toks := s.toks + binds.length })
    (hco : scope.isCoroutine = false) (hgen : scope.isGenerator = false) (hk : scope.kind = .function)
    (hcell : ∀ x ∈ scope.names, x.2 ≠ .cell) : codeAny (model prog w) A (.call (.ref f) args) R s := by
  obtain ⟨g, FG, BG, st, gs, og, gz, gn, lv⟩ := groundM (R := R) B F N hA hf hke
  refine kla_callFunE hroom ho rfl hco hgen rfl hcd ?_
  rw [hbind]
  refine wpAny_pure (wpAny_newFunctionEnv hcell hloc (fun h₁ hns hsb => ⟨((T.nolimit).keeps F.keep).fresh _ hsb, ?_⟩) hk)
  show codeAny _ _ (.expr body (envX qual scope s.heap.objs.size f (.ref c') cl)) _ _
  have hk₁ : ∀ b o, s.heap.get? b = some o → h₁.get? b = some o := fun b o e => hsb.extBut b o (Nat.ne_of_lt (Heap.lt_size e)) (Heap.get?_push_of_some _ e)
  exact kla_codeExpr (wpAny_mono (h _ s.heap.objs.size h₁ FG ⟨hns, fun b o e => hk₁ b o (og _ _ e), Nat.le_of_eq gz⟩
    (fun p hp => ⟨hk₁ _ _ (N p hp).1, Nat.ne_of_lt (Heap.lt_size (N p hp).1), gn p hp⟩) BG (X₀.keeps st) (T.keeps st) gs (fun p hp => Heap.lt_size (N p hp).1)) (fun v s' hl => lv _ _ hl) fun _ _ y => y)
end
section
variable {prog : Program} {w : World} {A : Around} {E : Value → Shared → Prop} {s : Shared} {env : Env} {test : PySem.Expr} {body : List Stmt} {Q : Flow → Shared → Prop}
theorem while_ind {σ : Type} {pos : Pos} (I : σ → Shared → Prop) (μ : σ → Nat) (hE : PassesOwn (model prog w) A env E)
    (step : ∀ c s, I c s → wpAny (model prog w) A (isTrue test env (eval test env)) (fun b s₂ => if b = true then wpAny (model prog w) A (execs body env) (IndPost I μ Q c) E s₂ else Q .next s₂) E s) (c : σ) {s : Shared} (h : I c s) :
    wpAny (model prog w) A (exec (.While test body [] pos) env) Q E s := by
  have all : ∀ n c s, μ c < n → I c s → WhlRest prog w A E env test body [] Q 1 s := by
    intro n
    induction n with
    | zero => intro c s h; exact absurd h (Nat.not_lt_zero _)
    | succ n ih =>
      intro c s hn hI
      refine whl_turn (k := 0) hE (wpAny_mono (step c s hI) (fun b s₂ hb => ?_) fun _ _ x => x)
      unfold WhlIf
      cases b with
      | false => rw [if_neg Bool.false_ne_true] at hb ⊢; exact wpAny_execs_nil hb
      | true =>
        rw [if_pos rfl] at hb ⊢
        refine wpAny_mono hb (fun f s₃ h₃ => ?_) fun _ _ x => x
        cases f with
        | ret v => exact h₃
        | brk => exact h₃
        | next => obtain ⟨c', hl, hI'⟩ := h₃; exact ih c' s₃ (Nat.lt_of_lt_of_le hl (Nat.le_of_lt_succ hn)) hI'
        | cont => obtain ⟨c', hl, hI'⟩ := h₃; exact ih c' s₃ (Nat.lt_of_lt_of_le hl (Nat.le_of_lt_succ hn)) hI'
  exact whl_start 1 (all _ c s (Nat.lt_succ_self _) h)
theorem r_len {l : Addr} {us : List Value} {n : Nat} {Q : Value → Shared → Prop} (hl : s.heap.get? l = some (listOf us.toArray n)) (hfit : us.length ≤ 1000000)
    (h : Q (.int (us.length : Int) (s.toks + 1)) { s with toks := s.toks + 1 + 1 }) : wpAny (model prog w) A (call (.builtin "len") [.ref l]) Q E s := by
  have hl : s.heap.IsList l us.toArray := ⟨_, hl, rfl, n, rfl⟩
  exact len_list hl (by rw [List.size_toArray]; exact len_fit hfit) (by rw [List.size_toArray]; exact h)
theorem r_item {value slice : PySem.Expr} {l : Addr} {us : List Value} {n : Nat} {k : Int} {u : Tok} {v : Value} {Q : Value → Shared → Prop}
    (hl : s.heap.get? l = some (listOf us.toArray n)) (h0 : 0 ≤ k) (hhi : k < 2 ^ 63) (hx : us[k.toNat]? = some v) (h : Q v s)
    (hs : subscripted slice false (.ref l) (.int k u) = operate [.ref l, .int k u] (getItem (.ref l) (.int k u))) :
    wpAny (model prog w) A (subscriptTail value slice (.ref l) (.int k u)) Q E s := by
  have hl : s.heap.IsList l us.toArray := ⟨_, hl, rfl, n, rfl⟩
  exact PyProof.Rows.tail_any hl.typeIs slot_list_getitem.lookup (wpAny_getItem_list hl h0 hhi (by simpa using hx) h) hs
theorem FnAt.ofGet {q : Addr} {h : Heap} {o : Obj} {fd : FuncData} (e : h.get? q = some o) (d : o.data = .func fd) : FnAt q h := by
  obtain ⟨oc, od, dt, sl⟩ := o
  cases d
  exact ⟨oc, od, fd, sl, e⟩
end
/-- a halt for the walk -/
noncomputable def Stop (P : Prop) : Prop := P
theorem Stop.go {P : Prop} (h : Stop P) : P := h
/-- told's lambdas -/
noncomputable def forBody : Stmt → List Stmt | .For _ _ b _ _ => b | _ => []
noncomputable def ifBody : Stmt → List Stmt | .If _ b _ _ => b | _ => []
noncomputable def ifElse : Stmt → List Stmt | .If _ _ b _ => b | _ => []
noncomputable def kwLam : Stmt → Arguments × PySem.Expr × Scope × Pos
  | .Expr (.Call _ _ (k :: _) _) _ => match k.value with | .Lambda a b c p => (a, b, c, p) | _ => default
  | _ => default
noncomputable def lamIf : Stmt := nth (forBody (nth (forBody (nth (bodyOf (nth PG.main.body 14)) 0)) 1)) 1
noncomputable def lamSt : Bool → Stmt | true => nth (ifBody lamIf) 0 | false => nth (ifElse lamIf) 0
noncomputable abbrev lamP (b : Bool) : Arguments := (kwLam (lamSt b)).1
noncomputable abbrev lamB (b : Bool) : PySem.Expr := (kwLam (lamSt b)).2.1
noncomputable abbrev lamS (b : Bool) : Scope := (kwLam (lamSt b)).2.2.1
noncomputable abbrev lamPos (b : Bool) : Pos := (kwLam (lamSt b)).2.2.2
noncomputable abbrev keyQ : Str := Str.ofString "_law_told.<locals>.<lambda>"
noncomputable abbrev keyObj (b : Bool) (pm : Value) (c' : Addr) (ctv : Value) : Obj := kla_obj (Str.ofString "<lambda>") keyQ (lamP b) (lamB b) (lamS b) [] pm c' ctv
end Mine
end
section
open PySem PySem.W PyProof.Rows PySem.Calls PySem.Spec
open Mine
local macro_rules | `(tactic| walk_at "inplaceOp Add str str") => `(tactic| (k_here; k_dflt (refine PyProof.Rows.iadd_str (hsz := ?hsz) ?_; (case hsz => (rw [sizeLine_eq]; omega)); intro _ _)))
local macro_rules | `(tactic| walk_at "ite") => `(tactic| (k_closed; k_dflt (first | refine ite_pos (by decide +kernel) ?_ | refine ite_neg (by decide +kernel) ?_)))
local macro_rules | `(tactic| walk_at "call builtin:iter") => `(tactic| (k_here; k_dflt (apply r_iter2_N; k_asm; k_asm; k_mem; k_whole); intro h' D' F' N' l1; (try k_lt l1)))
local macro_rules | `(tactic| walk_at "exec For Name Name cons nil") => `(tactic| (k_here; k_dflt (refine for_start ?_)))
local macro_rules | `(tactic| walk_at "pyIter ref") => `(tactic| ((with_reducible show wpAny _ _ (pyIter (Value.ref _)) (fun it s₂ => ForRest _ _ _ _ _ _ _ _ it s₂) _ _); k_dflt (refine r_pyIter_ci (News.get (by k_asm) (by k_mem)) ?_); (try dsimp only)))
section
open PySem PySem.W PyProof.Rows PySem.Calls PySem.Spec
set_option maxRecDepth 100000
set_option maxHeartbeats 1000000
namespace Mine
section
variable {w : World} {p : Program} {loose : List Str} {mean : ExcName → Option Value} {mg mb : Str → Option Value}
  {dp un : Nat} {gd : Option (List Code)} {cn : Str} {cs : Scope} {a : Addr} {ccd : Value} {cl : List (Str × Addr)} {outer : List Env} {A₀ : Around} {base h₀ : Heap} {L : Addr} {m : Str → Option Value} {s : Shared} {R : Result → Shared → Prop}
  (B : Below A₀ base outer h₀) (F : Fr h₀ L s.heap m) (X : (hd.heap_39 w.params).In h₀) (T : Top p loose mean mg mb h₀) (hk : cs.kind = .function)
include B F X T hk
theorem gt_quoted {z : Lex} (Z : LexOk z) {ln : Int} {tl : Tok} {n1 n2 : Nat} {wd rest : List Nat} {sg : List (Str × Tok)} (hsg : sg.map (·.1) = chL (encQ wd ++ rest)) (hs : sg.length ≤ 10000) (hdp : dp + 6 < recursionLimit) (hu : un + 40 < cLine) (N : News h₀ L s.heap (lexLed w.params z ln tl [] n1 (strValues sg) n2))
  (hret : ∀ t h' tk ln' tl' n2' sg', sg'.map (·.1) = chL rest → Fr h₀ L h' m → News h₀ L h' (lexLed w.params z ln' tl' [] n1 (strValues sg') n2') → (∀ b o, s.heap.get? b = some o → b ∉ lexAdr z → h'.get? b = some o) → R (.ok (.ret (.str ⟨wd.toArray⟩ t))) { s with heap := h', toks := tk }) :
  codeAny (model PG w) (ktrTop dp un gd cn cs L a ccd cl outer) (.call (.ref 85) ⟨[.ref z.x], []⟩) R s := by
  have hfill : PySem.Challenge.rw_pg0181_01 = PySem.Challenge.rw_pg0181_01 := rfl
  have hfill2 : hd.heap_39 = hd.heap_39 := rfl
  revert hfill hfill2
  k_fill
  intro _ _
  k_dflt ktr_enter
  rename_i g L1 h1 FG F1 N1 B1 X1 T1 GS lt1
  refine let_QE ?_
  intro E9 Q9
  refine let_A ?_
  intro A9
  obtain ⟨a1, a2, a3, a4, a5, a6, a7, a8, ⟨vs1, tq, d11, d12⟩, d2⟩ := id Z
  k_steps
  rename_i q' _ lq _ D' lD hh F1 N1
  refine for_turn (by k_dflt passes_own) ?_
  have N2 : News _ _ hh (lexLed w.params z ln tl [] n1 (strValues sg) n2 ++ ciLed z q' D' _) := fun p hp => N1 p (by
    rcases List.mem_append.mp hp with h | h
    · exact .tail _ (.tail _ h)
    · rcases List.mem_cons.mp h with rfl | h
      · exact .tail _ (.head _)
      · rcases List.mem_cons.mp h with rfl | h
        · exact .head _
        · cases h)
  obtain ⟨t0, sg1, rfl, hsg1⟩ := chL_cons (show sg.map (·.1) = chL (34 :: (escQ wd ++ [34] ++ rest)) from hsg)
  clear N1
  k_dflt (refine' ci_next (z := z) (sg := (chS 34, t0) :: sg1) ?kB F1 ?kX ?kT rfl Z ?hs ?kd ?ku lq.2.1 lD.1 N2 (chL_ne hsg) ?_; (case kB => k_asm); (case kX => k_asm); (case kT => k_asm); (case kd => ktr_room); (case ku => ktr_units); (case hs => (simp only [strValues, List.length_map, List.length_cons] at hs ⊢; omega)))
  dsimp only
  intro h3 tk3 ln3 tl3 n3 F3 N3 K3
  dsimp only [ForTurn]
  refine name_go ?_
  clear F1 N2
  k_steps
  rename_i h5 F5 N5 _ _
  clear K3
  refine for_ind (QI w.params z g L1 s _ q' D' _ n1 (fun c => escQ c ++ 34 :: rest) ⟨wd.toArray⟩) List.length (by k_dflt passes_own) ?step wd ⟨h5, tk, ln3, tl3, n3, sg1, _, _, _, rfl, fr_congr F5 (gtM_start rfl rfl rfl), N5, by simpa [chL] using hsg1, ?i1, ?i2, ?i3⟩
  case i1 => simp only [List.length_cons] at hs; omega
  case i2 =>
    have h1 := chL_len hsg1
    have h2 := escQ_len wd
    simp only [List.length_append, List.length_cons] at h1 hs
    show 0 + _ ≤ _
    rw [Nat.zero_add]
    refine Nat.le_trans h2 (Nat.le_trans (Nat.le_trans (Nat.le_trans (Nat.le_add_right _ _) (Nat.le_add_right _ _)) (Nat.le_of_eq h1.symm)) (Nat.le_of_succ_le hs))
  case i3 => exact str_nil_app _
  clear F5 N5 hsg hsg1 hs N GS
  intro c s' hI
  obtain ⟨h6, tk6, ln6, tl6, n6, sg6, acc, ta, cv, rfl, F6, N6, hsg6, hs6, hl6, hw6⟩ := hI
  cases c with
  | nil =>
    obtain ⟨t7, sg7, rfl, hsg7⟩ := chL_cons (show sg6.map (·.1) = chL (34 :: rest) from hsg6)
    k_dflt (refine' ci_next (z := z) (sg := (chS 34, t7) :: sg7) ?kB F6 ?kX ?kT rfl Z ?hs ?kd ?ku lq.2.1 lD.1 N6 (chL_ne hsg6) ?_; (case kB => k_asm); (case kX => k_asm); (case kT => k_asm); (case kd => ktr_room); (case ku => ktr_units); (case hs => (simp only [strValues, List.length_map, List.length_cons] at hs6 ⊢; omega)))
    dsimp only
    intro h7 tk7 ln7 tl7 n7 F7 N7 K7
    clear F6 N6 K7
    dsimp only [IndTurn]
    refine name_go ?_
    k_steps
    rename Fr _ _ _ _ => F8
    rename News _ _ _ _ => N8
    dsimp only [IndPost, ForPost]
    have hac : acc = ⟨wd.toArray⟩ := by
      rw [← hw6]
      exact Str.ext' (by simp [Str.cps_append])
    subst hac
    exact leaveM_ F8 (fun kF kk kN => hret _ _ _ _ _ _ sg7 hsg7 kF (kN _ (fun p hp => N8 p (List.mem_append_left _ hp))) kk)
  | cons c r =>
    have hl8 : acc.length + (r.length + 1) ≤ 10000 := hl6
    have hc1 : (chS c).length = 1 := rfl
    by_cases hc : c = 92 ∨ c = 34
    · simp only [escQ, if_pos hc, List.cons_append] at hsg6
      obtain ⟨t7, sg7, rfl, hsg7⟩ := chL_cons hsg6
      obtain ⟨t8, sg8, rfl, hsg8⟩ := chL_cons hsg7
      k_dflt (refine' ci_next (z := z) (sg := (chS 92, t7) :: (chS c, t8) :: sg8) ?kB F6 ?kX ?kT rfl Z ?hs ?kd ?ku lq.2.1 lD.1 N6 (chL_ne hsg6) ?_; (case kB => k_asm); (case kX => k_asm); (case kT => k_asm); (case kd => ktr_room); (case ku => ktr_units); (case hs => (simp only [strValues, List.length_map, List.length_cons] at hs6 ⊢; omega)))
      dsimp only
      intro h7 tk7 ln7 tl7 n7 F7 N7 K7
      clear F6 N6 K7
      dsimp only [IndTurn]
      refine name_go ?_
      k_steps
      rename Fr _ _ _ _ => F8
      rename News _ _ _ _ => N8
      k_dflt (refine' read_char_ci (z := z) (y := (chS c, t8)) (r := sg8) ?kB F8 ?kX ?kT rfl Z ?hs ?kd ?ku lq.2.1 lD.1 N8 ?_; (case kB => k_asm); (case kX => k_asm); (case kT => k_asm); (case kd => ktr_room); (case ku => ktr_units); (case hs => (simp only [List.length_cons] at hs6 ⊢; omega)))
      intro h9 tk9 ln9 tl9 n9 F9 N9
      clear F8 N8
      k_steps
      rename Fr _ _ _ _ => F9
      rename News _ _ _ _ => N9
      dsimp only [IndPost]
      refine ⟨r, by simp, _, _, _, _, _, sg8, _, _, _, rfl, gtM_next F9 rfl ?_, N9, hsg8, ?_, ?_, ?_⟩
      · intro y e1 e2
        simp only [gtM, if_neg e1, if_neg e2]
      · simp only [List.length_cons] at hs6; omega
      · simp only [List.length_cons] at hl6
        rw [Str.length_append]
        show _ + 1 + _ ≤ _
        omega
      · rw [← hw6, Str.append_assoc]
        congr 1
        exact Str.ext' (by simp [chS, Str.cps_append])
    · simp only [escQ, if_neg hc, List.cons_append] at hsg6
      obtain ⟨t7, sg7, rfl, hsg7⟩ := chL_cons hsg6
      have hq1 : (chS c == Str.ofString "\"") = false := by
        rw [show Str.ofString "\"" = chS 34 by decide +kernel]
        refine beq_eq_false_iff_ne.mpr fun e => hc (.inr ?_)
        simpa [chS] using e
      have hq2 : (chS c == Str.ofString "\\") = false := by
        rw [show Str.ofString "\\" = chS 92 by decide +kernel]
        refine beq_eq_false_iff_ne.mpr fun e => hc (.inl ?_)
        simpa [chS] using e
      k_dflt (refine' ci_next (z := z) (sg := (chS c, t7) :: sg7) ?kB F6 ?kX ?kT rfl Z ?hs ?kd ?ku lq.2.1 lD.1 N6 (chL_ne hsg6) ?_; (case kB => k_asm); (case kX => k_asm); (case kT => k_asm); (case kd => ktr_room); (case ku => ktr_units); (case hs => (simp only [strValues, List.length_map, List.length_cons] at hs6 ⊢; omega)))
      dsimp only
      intro h7 tk7 ln7 tl7 n7 F7 N7 K7
      clear F6 N6 K7
      dsimp only [IndTurn]
      refine name_go ?_
      k_steps
      all_goals (try (exfalso; simp_all; done))
      rename Fr _ _ _ _ => F9
      rename News _ _ _ _ => N9
      dsimp only [IndPost]
      refine ⟨r, by simp, _, _, _, _, _, sg7, _, _, _, rfl, gtM_next F9 rfl ?_, N9, hsg7, ?_, ?_, ?_⟩
      · intro y e1 e2
        simp only [gtM, if_neg e1, if_neg e2]
      · simp only [List.length_cons] at hs6; omega
      · simp only [List.length_cons] at hl6
        rw [Str.length_append]
        show _ + 1 + _ ≤ _
        omega
      · rw [← hw6, Str.append_assoc]
        congr 1
        exact Str.ext' (by simp [chS, Str.cps_append])
end
end Mine
end
section
open PySem PySem.W PyProof.Rows PySem.Calls PySem.Spec
set_option maxRecDepth 100000
set_option maxHeartbeats 1000000
namespace Mine
section
variable {w : World} {p : Program} {loose : List Str} {mean : ExcName → Option Value} {mg mb : Str → Option Value}
  {dp un : Nat} {gd : Option (List Code)} {cn : Str} {cs : Scope} {a : Addr} {ccd : Value} {cl : List (Str × Addr)} {outer : List Env} {A₀ : Around} {base h₀ : Heap} {L : Addr} {m : Str → Option Value} {s : Shared} {R : Result → Shared → Prop}
  (B : Below A₀ base outer h₀) (F : Fr h₀ L s.heap m) (X : (hd.heap_39 w.params).In h₀) (T : Top p loose mean mg mb h₀) (hk : cs.kind = .function)
include B F X T hk
theorem gt_bare {z : Lex} (Z : LexOk z) {ln : Int} {tl : Tok} {n1 n2 : Nat} {c0 : Nat} {wd rest : List Nat} {sg : List (Str × Tok)} (hsg : sg.map (·.1) = chL (encB (c0 :: wd) ++ rest)) (hs : sg.length ≤ 10000) (hdp : dp + 6 < recursionLimit) (hu : un + 40 < cLine) (N : News h₀ L s.heap (lexLed w.params z ln tl [] n1 (strValues sg) n2))
  (hret : ∀ t h' tk ln' tl' n2' sg', sg'.map (·.1) = chL rest → Fr h₀ L h' m → News h₀ L h' (lexLed w.params z ln' tl' [] n1 (strValues sg') n2') → (∀ b o, s.heap.get? b = some o → b ∉ lexAdr z → h'.get? b = some o) → R (.ok (.ret (.str ⟨(c0 :: wd).toArray⟩ t))) { s with heap := h', toks := tk }) :
  codeAny (model PG w) (ktrTop dp un gd cn cs L a ccd cl outer) (.call (.ref 85) ⟨[.ref z.x], []⟩) R s := by
  have hfill : PySem.Challenge.rw_pg0181_01 = PySem.Challenge.rw_pg0181_01 := rfl
  have hfill2 : hd.heap_39 = hd.heap_39 := rfl
  revert hfill hfill2
  k_fill
  intro _ _
  k_dflt ktr_enter
  rename_i g L1 h1 FG F1 N1 B1 X1 T1 GS lt1
  refine let_QE ?_
  intro E9 Q9
  refine let_A ?_
  intro A9
  obtain ⟨a1, a2, a3, a4, a5, a6, a7, a8, ⟨vs1, tq, d11, d12⟩, d2⟩ := id Z
  k_steps
  rename_i q' _ lq _ D' lD hh F1 N1
  refine for_turn (by k_dflt passes_own) ?_
  have N2 : News _ _ hh (lexLed w.params z ln tl [] n1 (strValues sg) n2 ++ ciLed z q' D' _) := fun p hp => N1 p (by
    rcases List.mem_append.mp hp with h | h
    · exact .tail _ (.tail _ h)
    · rcases List.mem_cons.mp h with rfl | h
      · exact .tail _ (.head _)
      · rcases List.mem_cons.mp h with rfl | h
        · exact .head _
        · cases h)
  obtain ⟨t0, sg0, rfl, hsg0⟩ := chL_cons (show sg.map (·.1) = chL (92 :: c0 :: (escB wd ++ [10] ++ rest)) from hsg)
  obtain ⟨t00, sg1, rfl, hsg1⟩ := chL_cons hsg0
  have hcz : (chS c0).length = 1 := rfl
  have hez : (Str.ofString "").length = 0 := by decide +kernel
  clear N1
  k_dflt (refine' ci_next (z := z) (sg := (chS 92, t0) :: (chS c0, t00) :: sg1) ?kB F1 ?kX ?kT rfl Z ?hs ?kd ?ku lq.2.1 lD.1 N2 (chL_ne hsg) ?_; (case kB => k_asm); (case kX => k_asm); (case kT => k_asm); (case kd => ktr_room); (case ku => ktr_units); (case hs => (simp only [strValues, List.length_map, List.length_cons] at hs ⊢; omega)))
  dsimp only
  intro h3 tk3 ln3 tl3 n3 F3 N3 K3
  dsimp only [ForTurn]
  refine name_go ?_
  clear F1 N2
  k_steps
  rename Fr _ _ _ _ => F4
  rename News _ _ _ _ => N4
  clear K3
  k_dflt (refine' read_char_ci (z := z) (y := (chS c0, t00)) (r := sg1) ?kB F4 ?kX ?kT rfl Z ?hs ?kd ?ku lq.2.1 lD.1 N4 ?_; (case kB => k_asm); (case kX => k_asm); (case kT => k_asm); (case kd => ktr_room); (case ku => ktr_units); (case hs => (simp only [List.length_cons] at hs ⊢; omega)))
  intro h9 tk9 ln9 tl9 n9 F9 N9
  clear F4 N4
  dsimp only at F9 N9 ⊢
  k_steps
  rename Fr _ _ _ _ => F5
  rename News _ _ _ _ => N5
  refine for_ind (QI w.params z g L1 s _ q' D' _ n1 (fun c => escB c ++ 10 :: rest) ⟨(c0 :: wd).toArray⟩) List.length (by k_dflt passes_own) ?step wd ⟨_, _, _, _, _, sg1, _, _, _, rfl, fr_congr F5 (gtM_start rfl rfl rfl), N5, by simpa [chL] using hsg1, ?i1, ?i2, ?i3⟩
  case i1 => simp only [List.length_cons] at hs; omega
  case i2 =>
    have h1 := chL_len hsg1
    have h2 : wd.length ≤ (escB wd).length := escB_len wd
    simp only [List.length_append, List.length_cons] at h1 hs
    rw [Str.length_append, hcz, hez, Nat.zero_add, Nat.add_comm]
    exact Nat.le_trans (Nat.succ_le_succ (Nat.le_trans h2 (Nat.le_trans (Nat.le_trans (Nat.le_add_right _ _) (Nat.le_add_right _ _)) (Nat.le_of_eq h1.symm)))) (Nat.le_of_succ_le hs)
  case i3 =>
    rw [str_nil_app]
    exact Str.ext' (by simp [chS, Str.cps_append])
  clear F5 N5 hsg hsg0 hsg1 hs N GS
  intro c s' hI
  obtain ⟨h6, tk6, ln6, tl6, n6, sg6, acc, ta, cv, rfl, F6, N6, hsg6, hs6, hl6, hw6⟩ := hI
  cases c with
  | nil =>
    obtain ⟨t7, sg7, rfl, hsg7⟩ := chL_cons (show sg6.map (·.1) = chL (10 :: rest) from hsg6)
    k_dflt (refine' ci_next (z := z) (sg := (chS 10, t7) :: sg7) ?kB F6 ?kX ?kT rfl Z ?hs ?kd ?ku lq.2.1 lD.1 N6 (chL_ne hsg6) ?_; (case kB => k_asm); (case kX => k_asm); (case kT => k_asm); (case kd => ktr_room); (case ku => ktr_units); (case hs => (simp only [strValues, List.length_map, List.length_cons] at hs6 ⊢; omega)))
    dsimp only
    intro h7 tk7 ln7 tl7 n7 F7 N7 K7
    clear F6 N6 K7
    dsimp only [IndTurn]
    refine name_go ?_
    k_steps
    rename Fr _ _ _ _ => F8
    rename News _ _ _ _ => N8
    dsimp only [IndPost, ForPost]
    have hac : acc = ⟨(c0 :: wd).toArray⟩ := by
      rw [← hw6]
      exact Str.ext' (by simp [Str.cps_append])
    subst hac
    exact leaveM_ F8 (fun kF kk kN => hret _ _ _ _ _ _ sg7 hsg7 kF (kN _ (fun p hp => N8 p (List.mem_append_left _ hp))) kk)
  | cons c r =>
    have hl8 : acc.length + (r.length + 1) ≤ 10000 := hl6
    have hc1 : (chS c).length = 1 := rfl
    · simp only [escB, List.cons_append] at hsg6
      obtain ⟨t7, sg7, rfl, hsg7⟩ := chL_cons hsg6
      obtain ⟨t8, sg8, rfl, hsg8⟩ := chL_cons hsg7
      k_dflt (refine' ci_next (z := z) (sg := (chS 92, t7) :: (chS c, t8) :: sg8) ?kB F6 ?kX ?kT rfl Z ?hs ?kd ?ku lq.2.1 lD.1 N6 (chL_ne hsg6) ?_; (case kB => k_asm); (case kX => k_asm); (case kT => k_asm); (case kd => ktr_room); (case ku => ktr_units); (case hs => (simp only [strValues, List.length_map, List.length_cons] at hs6 ⊢; omega)))
      dsimp only
      intro h7 tk7 ln7 tl7 n7 F7 N7 K7
      clear F6 N6 K7
      dsimp only [IndTurn]
      refine name_go ?_
      k_steps
      rename Fr _ _ _ _ => F8
      rename News _ _ _ _ => N8
      k_dflt (refine' read_char_ci (z := z) (y := (chS c, t8)) (r := sg8) ?kB F8 ?kX ?kT rfl Z ?hs ?kd ?ku lq.2.1 lD.1 N8 ?_; (case kB => k_asm); (case kX => k_asm); (case kT => k_asm); (case kd => ktr_room); (case ku => ktr_units); (case hs => (simp only [List.length_cons] at hs6 ⊢; omega)))
      intro h9 tk9 ln9 tl9 n9 F9 N9
      clear F8 N8
      k_steps
      rename Fr _ _ _ _ => F9
      rename News _ _ _ _ => N9
      dsimp only [IndPost]
      refine ⟨r, by simp, _, _, _, _, _, sg8, _, _, _, rfl, gtM_next F9 rfl ?_, N9, hsg8, ?_, ?_, ?_⟩
      · intro y e1 e2
        simp only [gtM, if_neg e1, if_neg e2]
      · simp only [List.length_cons] at hs6; omega
      · simp only [List.length_cons] at hl6
        rw [Str.length_append]
        show _ + 1 + _ ≤ _
        omega
      · rw [← hw6, Str.append_assoc]
        congr 1
        exact Str.ext' (by simp [chS, Str.cps_append])
end
end Mine
end
section
open PySem PySem.W PyProof.Rows PySem.Calls PySem.Spec
set_option maxRecDepth 100000
set_option maxHeartbeats 8000000
namespace Mine
section
variable {w : World} {p : Program} {loose : List Str} {mean : ExcName → Option Value} {mg mb : Str → Option Value}
  {dp un : Nat} {gd : Option (List Code)} {cn : Str} {cs : Scope} {a : Addr} {ccd : Value} {cl : List (Str × Addr)} {outer : List Env} {A₀ : Around} {base h₀ : Heap} {L : Addr} {m : Str → Option Value} {s : Shared} {R : Result → Shared → Prop}
  (B : Below A₀ base outer h₀) (F : Fr h₀ L s.heap m) (X : (hd.heap_39 w.params).In h₀) (T : Top p loose mean mg mb h₀) (hk : cs.kind = .function)
include B F X T hk
theorem gt_end {z : Lex} (Z : LexOk z) {ln : Int} {tl : Tok} {n1 n2 : Nat} (hdp : dp + 6 < recursionLimit) (hu : un + 40 < cLine) (N : News h₀ L s.heap (lexLed w.params z ln tl [] n1 [] n2))
  (hret : ∀ t h' tk ln' tl' n2', Fr h₀ L h' m → News h₀ L h' (lexLed w.params z ln' tl' [] n1 [] n2') → (∀ b o, s.heap.get? b = some o → b ∉ lexAdr z → h'.get? b = some o) → R (.ok (.ret (.str (Str.ofString "") t))) { s with heap := h', toks := tk }) :
  codeAny (model PG w) (ktrTop dp un gd cn cs L a ccd cl outer) (.call (.ref 85) ⟨[.ref z.x], []⟩) R s := by
  have hfill : PySem.Challenge.rw_pg0181_01 = PySem.Challenge.rw_pg0181_01 := rfl
  have hfill2 : hd.heap_39 = hd.heap_39 := rfl
  revert hfill hfill2
  k_fill
  intro _ _
  k_dflt ktr_enter
  rename_i g L1 h1 FG F1 N1 B1 X1 T1 GS lt1
  refine let_QE ?_
  intro E9 Q9
  refine let_A ?_
  intro A9
  obtain ⟨a1, a2, a3, a4, a5, a6, a7, a8, ⟨vs1, tq, d11, d12⟩, d2⟩ := id Z
  k_steps
  rename_i q' _ lq _ D' lD hh F1 N1
  refine for_turn (by k_dflt passes_own) ?_
  have N2 : News _ _ hh (lexLed w.params z ln tl [] n1 (strValues []) n2 ++ ciLed z q' D' _) := fun p hp => N1 p (by
    rcases List.mem_append.mp hp with h | h
    · exact .tail _ (.tail _ h)
    · rcases List.mem_cons.mp h with rfl | h
      · exact .tail _ (.head _)
      · rcases List.mem_cons.mp h with rfl | h
        · exact .head _
        · cases h)
  clear N1
  k_dflt (refine' ci_next (z := z) (sg := []) ?kB F1 ?kX ?kT rfl Z ?hs ?kd ?ku lq.2.1 lD.1 N2 ?hn ?_; (case kB => k_asm); (case kX => k_asm); (case kT => k_asm); (case kd => ktr_room); (case ku => ktr_units); (case hs => exact Nat.zero_le _); (case hn => exact fun _ h => nomatch h))
  dsimp only
  intro h3 tk3 ln3 tl3 n3 F3 N3 K3
  dsimp only [ForTurn]
  clear F1 N2
  k_steps
  all_goals dsimp only
  all_goals exact leaveM_ (by assumption) (fun kF kk kN => hret _ _ _ _ _ _ kF (kN _ (by assumption)) kk)
end
end Mine
end
section
open PySem PySem.W PyProof.Rows PySem.Calls PySem.Spec
set_option maxRecDepth 100000
set_option maxHeartbeats 8000000
namespace Mine
local macro_rules | `(tactic| walk_at "truthy ref") => `(tactic| (k_here; k_dflt (apply r_truthy_cons; k_asm; k_mem; (simp only [List.length_cons]; omega))))
local macro_rules | `(tactic| walk_at "call builtin:list.pop") => `(tactic| (k_here; k_dflt (apply pop0; k_asm; k_asm; k_upd; exact rfl; (refine size_fit ?_; (simp only [strValues, List.length_cons, List.length_nil, List.length_map] at *); omega); k_whole); intro h' F' N'))
section
variable {w : World} {p : Program} {loose : List Str} {mean : ExcName → Option Value} {mg mb : Str → Option Value}
  {dp un : Nat} {gd : Option (List Code)} {cn : Str} {cs : Scope} {a : Addr} {ccd : Value} {cl : List (Str × Addr)} {outer : List Env} {A₀ : Around} {base h₀ : Heap} {L : Addr} {m : Str → Option Value} {s : Shared} {R : Result → Shared → Prop}
  (B : Below A₀ base outer h₀) (F : Fr h₀ L s.heap m) (X : (hd.heap_39 w.params).In h₀) (T : Top p loose mean mg mb h₀) (hk : cs.kind = .function)
include B F X T hk
theorem gt_pop {z : Lex} (Z : LexOk z) {ln : Int} {tl : Tok} {n1 n2 : Nat} {y : Str × Tok} {r : List (Str × Tok)} {sgv : List Value} (hr : r.length ≤ 10000) (hdp : dp + 6 < recursionLimit) (hu : un + 40 < cLine) (N : News h₀ L s.heap (lexLed w.params z ln tl (strValues (y :: r)) n1 sgv n2))
  (hret : ∀ h' tk n1', Fr h₀ L h' m → News h₀ L h' (lexLed w.params z ln tl (strValues r) n1' sgv n2) → (∀ b o, s.heap.get? b = some o → b ∉ lexAdr z → h'.get? b = some o) → R (.ok (.ret (.str y.1 y.2))) { s with heap := h', toks := tk }) :
  codeAny (model PG w) (ktrTop dp un gd cn cs L a ccd cl outer) (.call (.ref 85) ⟨[.ref z.x], []⟩) R s := by
  have hfill : PySem.Challenge.rw_pg0181_01 = PySem.Challenge.rw_pg0181_01 := rfl
  have hfill2 : hd.heap_39 = hd.heap_39 := rfl
  revert hfill hfill2
  k_fill
  intro _ _
  k_dflt ktr_enter
  rename_i g L1 h1 FG F1 N1 B1 X1 T1 GS lt1
  refine let_QE ?_
  intro E9 Q9
  refine let_A ?_
  intro A9
  obtain ⟨a1, a2, a3, a4, a5, a6, a7, a8, ⟨vs1, tq, d11, d12⟩, d2⟩ := id Z
  have b7 := Nat.lt_trans a7 a8
  have b6 := Nat.lt_trans a6 b7
  have b5 := Nat.lt_trans a5 b6
  have b4 := Nat.lt_trans a4 b5
  have b3 := Nat.lt_trans a3 b4
  have b2 := Nat.lt_trans a2 b3
  have b1 := Nat.lt_trans a1 b2
  have hlr : (strValues r).length = r.length := by simp [strValues]
  have hpv : strValues (y :: r) = Value.str y.1 y.2 :: strValues r := rfl
  rw [hpv] at N1
  k_steps
  all_goals (try dsimp only)
  all_goals exact leaveM_ (by assumption) (fun kF kk kN => hret _ _ _ kF (kN _ (by assumption)) kk)
end
end Mine
end
section
open PySem PySem.W PyProof.Rows PySem.Calls PySem.Spec
set_option maxRecDepth 100000
set_option maxHeartbeats 8000000
namespace Mine
local macro_rules | `(tactic| walk_at "truthy ref") => `(tactic| (k_here; k_dflt (apply r_truthy_cons; k_asm; k_mem; (simp only [List.length_cons]; omega))))
local macro_rules | `(tactic| walk_at "call builtin:list.pop") => `(tactic| (k_here; k_dflt (apply pop0; k_asm; k_asm; k_upd; exact rfl; (refine size_fit ?_; (simp only [strValues, List.length_cons, List.length_nil, List.length_map] at *); omega); k_whole); intro h' F' N'))
section
variable {w : World} {p : Program} {loose : List Str} {mean : ExcName → Option Value} {mg mb : Str → Option Value}
  {dp un : Nat} {gd : Option (List Code)} {cn : Str} {cs : Scope} {a : Addr} {ccd : Value} {cl : List (Str × Addr)} {outer : List Env} {A₀ : Around} {base h₀ : Heap} {L : Addr} {m : Str → Option Value} {s : Shared} {R : Result → Shared → Prop}
  (B : Below A₀ base outer h₀) (F : Fr h₀ L s.heap m) (X : (hd.heap_39 w.params).In h₀) (T : Top p loose mean mg mb h₀) (hk : cs.kind = .function)
include B F X T hk
theorem push_ca {z : Lex} (Z : LexOk z) {ln : Int} {tl : Tok} {n1 n2 : Nat} {y : Str} {u : Tok} {l : List (Str × Tok)} {sgv : List Value} (hr : l.length ≤ 10000) (hdp : dp + 6 < recursionLimit) (hu : un + 40 < cLine) (N : News h₀ L s.heap (lexLed w.params z ln tl (strValues l) n1 sgv n2))
  (hret : ∀ v h' tk n1', Fr h₀ L h' m → News h₀ L h' (lexLed w.params z ln tl (strValues (l ++ [(y, u)])) n1' sgv n2) → (∀ b o, s.heap.get? b = some o → b ∉ lexAdr z → h'.get? b = some o) → R (.ok (.ret v)) { s with heap := h', toks := tk }) :
  codeAny (model PG w) (ktrTop dp un gd cn cs L a ccd cl outer) (.call (.ref 92) ⟨[.ref z.x, .str y u], []⟩) R s := by
  have hfill : PySem.Challenge.rw_pg0181_01 = PySem.Challenge.rw_pg0181_01 := rfl
  have hfill2 : hd.heap_39 = hd.heap_39 := rfl
  revert hfill hfill2
  k_fill
  intro _ _
  k_dflt ktr_enter
  rename_i g L1 h1 FG F1 N1 B1 X1 T1 GS lt1
  refine let_QE ?_
  intro E9 Q9
  refine let_A ?_
  intro A9
  obtain ⟨a1, a2, a3, a4, a5, a6, a7, a8, ⟨vs1, tq, d11, d12⟩, d2⟩ := id Z
  have b7 := Nat.lt_trans a7 a8
  have b6 := Nat.lt_trans a6 b7
  have b5 := Nat.lt_trans a5 b6
  have b4 := Nat.lt_trans a4 b5
  have b3 := Nat.lt_trans a3 b4
  have b2 := Nat.lt_trans a2 b3
  have b1 := Nat.lt_trans a1 b2
  have hlr : (strValues l).length = l.length := by simp [strValues]
  k_steps
  rename News _ _ _ _ => N9
  rw [strV_push] at N9
  exact leaveM_ (by assumption) (fun kF kk kN => hret _ _ _ _ kF (kN _ N9) kk)
end
end Mine
end
end
section
open PySem PySem.W PyProof.Rows PySem.Calls PySem.Spec
set_option maxRecDepth 100000
set_option maxHeartbeats 1000000
namespace Mine
section
variable {w : World} {p : Program} {loose : List Str} {mean : ExcName → Option Value} {mg mb : Str → Option Value}
  {dp un : Nat} {gd : Option (List Code)} {cn : Str} {cs : Scope} {a : Addr} {ccd : Value} {cl : List (Str × Addr)} {outer : List Env} {A₀ : Around} {base h₀ : Heap} {L : Addr} {m : Str → Option Value} {s : Shared} {R : Result → Shared → Prop}
  (B : Below A₀ base outer h₀) (F : Fr h₀ L s.heap m) (X : (hd.heap_39 w.params).In h₀) (T : Top p loose mean mg mb h₀) (hk : cs.kind = .function)
include B F X T hk
theorem key_ca {b : Bool} {kf c' : Addr} {pm ctv : Value} {x : Str} {t : Tok} (ho : s.heap.get? kf = some (keyObj b pm c' ctv)) (hcd : s.heap.CodeRec (.ref c') keyQ) (hx : x.length ≤ 1000000)
  (hdp : dp + 2 < recursionLimit) (hu : un + 16 < cLine)
  (hret : ∀ t h' tk, Fr h₀ L h' m → (∀ b o, s.heap.get? b = some o → h'.get? b = some o) → R (.ok (.ret (.str (stripS x) t))) { s with heap := h', toks := tk }) :
  codeAny (model PG w) (ktrTop dp un gd cn cs L a ccd cl outer) (.call (.ref kf) ⟨[.str x t], []⟩) R s := by
  have hfill : PySem.Challenge.rw_pg0181_01 = PySem.Challenge.rw_pg0181_01 := rfl
  have hfill2 : hd.heap_39 = hd.heap_39 := rfl
  revert hfill hfill2
  k_fill
  intro _ _
  cases b with
  | false =>
    refine ent_lam B F X (News.nil) T rfl rfl hk ho hcd ?_ rfl (locs rfl) ?_ rfl rfl rfl (by decide +kernel)
    · ktr_room
    intro g' L' h' FG' F' N' B' X' T' GS' l1
    clear l1
    have ⟨sc, hsc⟩ : ∃ sc, sc = lamS false := ⟨_, rfl⟩
    rw [← hsc]
    conv at hsc =>
      rhs
      whnf
    subst hsc
    have ⟨bd, hbd⟩ : ∃ bd, bd = lamB false := ⟨_, rfl⟩
    rw [← hbd]
    conv at hbd =>
      rhs
      whnf
    subst hbd
    k_steps
    k_dflt (refine' strip_call ?kB ?kF ?kX ?kN ?kT rfl ?kd ?ku hx ?_; (case kB => k_asm); (case kF => k_asm); (case kX => k_asm); (case kN => k_asm); (case kT => k_asm); (case kd => ktr_room); (case ku => ktr_units))
    intro t9 h9 tk9 F9 N9 _
    k_steps
    exact leaveM_ F9 (fun kF kk kN => hret _ _ _ kF (fun b o e => kk b o e (List.not_mem_nil)))
  | true =>
    refine ent_lam B F X (News.nil) T rfl rfl hk ho hcd ?_ rfl (locs rfl) ?_ rfl rfl rfl (by decide +kernel)
    · ktr_room
    intro g' L' h' FG' F' N' B' X' T' GS' l1
    clear l1
    have ⟨sc, hsc⟩ : ∃ sc, sc = lamS true := ⟨_, rfl⟩
    rw [← hsc]
    conv at hsc =>
      rhs
      whnf
    subst hsc
    have ⟨bd, hbd⟩ : ∃ bd, bd = lamB true := ⟨_, rfl⟩
    rw [← hbd]
    conv at hbd =>
      rhs
      whnf
    subst hbd
    k_steps
    k_dflt (refine' strip_call ?kB ?kF ?kX ?kN ?kT rfl ?kd ?ku hx ?_; (case kB => k_asm); (case kF => k_asm); (case kX => k_asm); (case kN => k_asm); (case kT => k_asm); (case kd => ktr_room); (case ku => ktr_units))
    intro t9 h9 tk9 F9 N9 _
    k_steps
    exact leaveM_ F9 (fun kF kk kN => hret _ _ _ kF (fun b o e => kk b o e (List.not_mem_nil)))
end
end Mine
end
section
open PySem PySem.W PyProof.Rows PySem.Calls PySem.Spec
set_option maxRecDepth 100000
namespace Mine
noncomputable def ltS (x y : Str) : Prop := x.cps.toList < y.cps.toList
noncomputable abbrev bsM (mm : Str → Option Value) (av xv kv : Value) (lo hi : Int) (tl th : Tok) (mv : Option Value) : Str → Option Value := fun y => if y = Str.ofString "lo" then some (.int lo tl) else if y = Str.ofString "hi" then some (.int hi th) else if y = Str.ofString "mid" then mv else if y = Str.ofString "a" then some av else if y = Str.ofString "x" then some xv else if y = Str.ofString "key" then some kv else mm y
theorem bsM_start {f0 : Str → Option Value} {av xv kv : Value} {lo hi : Int} {tl th : Tok} (h1 : f0 (Str.ofString "hi") = some (.int hi th)) (h2 : f0 (Str.ofString "lo") = some (.int lo tl)) (h3 : f0 (Str.ofString "a") = some av) (h4 : f0 (Str.ofString "x") = some xv) (h5 : f0 (Str.ofString "key") = some kv) :
    ∀ y, f0 y = bsM f0 av xv kv lo hi tl th (f0 (Str.ofString "mid")) y := by
  intro y
  unfold bsM
  (repeat' split) <;> first | rfl | (rename_i e; rw [e]; assumption) | (rename_i e; rw [e])
theorem bsM_next {g h : Heap} {L : Addr} {mm f : Str → Option Value} {av xv kv : Value} {lo hi : Int} {tl th : Tok} (F : Fr g L h f) (h1 : f (Str.ofString "lo") = some (.int lo tl)) (h2 : f (Str.ofString "hi") = some (.int hi th))
    (h3 : ∀ y, y ≠ Str.ofString "lo" → y ≠ Str.ofString "hi" → y ≠ Str.ofString "mid" → f y = (if y = Str.ofString "a" then some av else if y = Str.ofString "x" then some xv else if y = Str.ofString "key" then some kv else mm y)) : Fr g L h (bsM mm av xv kv lo hi tl th (f (Str.ofString "mid"))) := by
  refine fr_congr F fun y => ?_
  by_cases e1 : y = Str.ofString "lo"
  · rw [e1, h1]; simp [bsM]
  · by_cases e2 : y = Str.ofString "hi"
    · rw [e2, h2]; simp [bsM, show ¬ Str.ofString "hi" = Str.ofString "lo" by decide +kernel]
    · by_cases e3 : y = Str.ofString "mid"
      · rw [e3]; simp [bsM, show ¬ Str.ofString "mid" = Str.ofString "lo" by decide +kernel, show ¬ Str.ofString "mid" = Str.ofString "hi" by decide +kernel]
      · rw [h3 y e1 e2 e3]; simp only [bsM, if_neg e1, if_neg e2, if_neg e3]
inductive BI (g : Heap) (L : Addr) (s0 : Shared) (mm : Str → Option Value) (av xv kv : Value) (ws : List (Str × Tok)) (P : Str × Tok → Prop) (c : Int × Int) (s : Shared) : Prop
  | mk (h : _) (tk : _) (tl : _) (th : _) (mv : _) (x0 : s = { s0 with heap := h, toks := tk }) (x1 : Fr g L h (bsM mm av xv kv c.1 c.2 tl th mv)) (x2 : 0 ≤ c.1) (x3 : c.1 ≤ c.2) (x4 : c.2 ≤ (ws.length : Int)) (x5 : (∀ i : Nat, (i : Int) < c.1 → ∀ v, ws[i]? = some v → P v)) (x6 : (∀ i : Nat, c.2 ≤ (i : Int) → ∀ v, ws[i]? = some v → ¬ P v)) : BI g L s0 mm av xv kv ws P c s
end Mine
end
section
open PySem PySem.W PyProof.Rows PySem.Calls PySem.Spec
open Mine
local macro_rules | `(tactic| walk_at "exec While Compare cons nil") => `(tactic| (k_here; refine Stop.go ?_))
local macro_rules | `(tactic| walk_at "subscriptTail") => `(tactic| (k_here; refine Stop.go ?_))
section
open PySem PySem.W PyProof.Rows PySem.Calls PySem.Spec
set_option maxRecDepth 100000
set_option maxHeartbeats 1000000
namespace Mine
section
variable {w : World} {p : Program} {loose : List Str} {mean : ExcName → Option Value} {mg mb : Str → Option Value}
  {dp un : Nat} {gd : Option (List Code)} {cn : Str} {cs : Scope} {a : Addr} {ccd : Value} {cl : List (Str × Addr)} {outer : List Env} {A₀ : Around} {base h₀ : Heap} {L : Addr} {m : Str → Option Value} {s : Shared} {R : Result → Shared → Prop}
  (B : Below A₀ base outer h₀) (F : Fr h₀ L s.heap m) (X : (hd.heap_39 w.params).In h₀) (T : Top p loose mean mg mb h₀) (hk : cs.kind = .function)
include B F X T hk
theorem bisr_ca {b : Bool} {kf c' l : Addr} {pm ctv : Value} {x : Str} {tx t0 : Tok} {ws : List (Str × Tok)} {n : Nat} (hmo : ∀ (i j : Nat) vi vj, i ≤ j → ws[i]? = some vi → ws[j]? = some vj → (fun v => ¬ ltS x (stripS v.1)) vj → (fun v => ¬ ltS x (stripS v.1)) vi) (hko : s.heap.get? kf = some (keyObj b pm c' ctv)) (hcd : s.heap.CodeRec (.ref c') keyQ) (hl : s.heap.get? l = some (listOf (strValues ws).toArray n)) (hws : ∀ v ∈ ws, v.1.length ≤ 1000000) (hn : ws.length ≤ 10000) (hdp : dp + 4 < recursionLimit) (hu : un + 30 < cLine) (N : News h₀ L s.heap [])
  (hret : ∀ (k : Nat) t h' tk, k ≤ ws.length → (∀ i : Nat, i < k → ∀ v, ws[i]? = some v → (fun v => ¬ ltS x (stripS v.1)) v) → (∀ i : Nat, k ≤ i → ∀ v, ws[i]? = some v → ¬ (fun v => ¬ ltS x (stripS v.1)) v) → Fr h₀ L h' m → (∀ b o, s.heap.get? b = some o → h'.get? b = some o) → R (.ok (.ret (.int (k : Int) t))) { s with heap := h', toks := tk }) :
  codeAny (model PG w) (ktrTop dp un gd cn cs L a ccd cl outer) (.call (.ref 39) ⟨[.ref l, .str x tx, .int 0 t0, .none], [(Str.ofString "key", .ref kf)]⟩) R s := by
  have hfill : PySem.Challenge.rw_pg0181_01 = PySem.Challenge.rw_pg0181_01 := rfl
  have hfill2 : hd.heap_39 = hd.heap_39 := rfl
  revert hfill hfill2
  k_fill
  intro _ _
  k_dflt ktr_enter
  rename_i g L1 h1 FG F1 N1 B1 X1 T1 GS lt1
  refine let_QE ?_
  intro E9 Q9
  refine let_A ?_
  intro A9
  have hlg := GS _ _ hl (List.not_mem_nil)
  have hkg := GS _ _ hko (List.not_mem_nil)
  obtain ⟨cq, oq, vq, tq, eq0, hcq, dq, nq⟩ := hcd
  have hcg := GS _ _ hcq (List.not_mem_nil)
  have hvl : (strValues ws).length = ws.length := by simp [strValues]
  k_steps
  refine r_len (n := n) (F1.keep _ _ hlg) (by omega) ?_
  k_steps
  unfold Stop
  rename Fr _ _ _ _ => F2
  refine while_ind (BI g L1 s _ (.ref l) (.str x tx) (.ref kf) ws (fun v => ¬ ltS x (stripS v.1))) (fun c => (c.2 - c.1).toNat) (by k_dflt passes_own) ?step (0, (ws.length : Int)) ⟨_, _, _, _, _, rfl, fr_congr F2 (bsM_start (by rw [← hvl]; rfl) rfl rfl rfl rfl), Int.le_refl _, Int.natCast_nonneg _, Int.le_refl _, fun i h => absurd h (Int.not_lt.mpr (Int.natCast_nonneg _)), fun i h v hv => absurd (List.getElem?_eq_some_iff.mp hv).1 (Nat.not_lt.mpr (Int.ofNat_le.mp h))⟩
  intro c s' hI
  obtain ⟨lo, hi⟩ := c
  obtain ⟨h6, tk6, tl6, th6, mv6, rfl, F6, e1, e2, e3, e4, e5⟩ := hI
  dsimp only at F6 e1 e2 e3 e4 e5
  clear F2
  have N6 : News g L1 h6 [] := News.nil
  have hfd : (lo + hi).fdiv 2 = (lo + hi) / 2 := Int.fdiv_eq_ediv_of_nonneg _ (by decide)
  k_steps
  · rename_i hlt h7 F7 N7
    have hmd := midF hn e1 e3 hlt
    obtain ⟨wv, hwv⟩ : ∃ wv, ws[((lo + hi) / 2).toNat]? = some wv := ⟨ws[((lo + hi) / 2).toNat]'hmd.2.2.2.2.1, List.getElem?_eq_getElem _⟩
    have hwm : wv ∈ ws := List.mem_of_getElem? hwv
    refine callWith_F (FnAt.ofGet (F7.keep _ _ hkg) rfl) ?_
    k_steps
    unfold Stop
    refine r_item (n := n) (v := .str wv.1 wv.2) (F7.keep _ _ hlg) (by rw [hfd]; exact hmd.2.1) (by rw [hfd]; exact hmd.2.2.2.1) (by rw [hfd]; simp [strValues, hwv]) ?_ (by k_dflt rfl)
    k_steps
    · exact FnAt.ofGet (F7.keep _ _ hkg) rfl
    k_dflt (refine' wpAny_call (key_ca (b := b) (pm := pm) (ctv := ctv) (c' := c') ?kB F7 ?kX ?kT rfl (F7.keep _ _ hkg) ?hc (hws _ hwm) ?kd ?ku ?_); (case kB => k_asm); (case kX => k_asm); (case kT => k_asm); (case hc => exact ⟨cq, oq, vq, tq, eq0, F7.keep _ _ hcg, dq, nq⟩); (case kd => ktr_room); (case ku => ktr_units))
    intro t9 h9 tk9 F9 K9
    clear F7 N7
    have N9 : News g L1 h9 [] := News.nil
    dsimp only
    k_steps
    · rename_i hx9 h8 F8 N8
      dsimp only [IndPost]
      refine ⟨(lo, (lo + hi).fdiv 2), by dsimp only; rw [hfd]; exact hmd.2.2.2.2.2.1, _, _, _, _, _, rfl, bsM_next F8 rfl rfl ?_, e1, by dsimp only; rw [hfd]; exact hmd.2.2.1, by dsimp only; rw [hfd]; exact hmd.2.2.2.2.2.2.2.2.2, e4, ?_⟩
      · intro y d1 d2 d3
        simp only [bsM, if_neg d1, if_neg d2, if_neg d3]
      · intro i hi9 v hv hP
        dsimp only at hi9
        rw [hfd] at hi9
        exact hmo _ _ _ _ (Int.toNat_le.mpr hi9) hwv hv hP hx9
    · rename_i hx9 h8 F8 N8
      dsimp only [IndPost]
      refine ⟨((lo + hi).fdiv 2 + 1, hi), by dsimp only; rw [hfd]; exact hmd.2.2.2.2.2.2.1, _, _, _, _, _, rfl, bsM_next F8 rfl rfl ?_, by dsimp only; rw [hfd]; exact hmd.2.2.2.2.2.2.2.1, by dsimp only; rw [hfd]; exact hmd.2.2.2.2.2.2.2.2.1, e3, ?_, e5⟩
      · intro y d1 d2 d3
        simp only [bsM, if_neg d1, if_neg d2, if_neg d3]
      · intro i hi9 v hv
        dsimp only at hi9
        rw [hfd] at hi9
        exact hmo _ _ _ _ ((Int.le_toNat hmd.2.1).mpr (Int.le_of_lt_add_one hi9)) hv hwv hx9
  · rename_i hge
    dsimp only
    obtain ⟨k, rfl⟩ := Int.eq_ofNat_of_zero_le e1
    exact leaveM_ F6 (fun kF kk kN => hret k _ _ _ (Int.ofNat_le.mp (Int.le_trans e2 e3)) (fun i hi v hv => e4 i (Int.ofNat_lt.mpr hi) v hv) (fun i hi v hv => e5 i (Int.le_trans (Int.not_lt.mp hge) (Int.ofNat_le.mpr hi)) v hv) kF (fun b o e => kk b o e (List.not_mem_nil)))
end
end Mine
end
section
open PySem PySem.W PyProof.Rows PySem.Calls PySem.Spec
set_option maxRecDepth 100000
set_option maxHeartbeats 1000000
namespace Mine
section
variable {w : World} {p : Program} {loose : List Str} {mean : ExcName → Option Value} {mg mb : Str → Option Value}
  {dp un : Nat} {gd : Option (List Code)} {cn : Str} {cs : Scope} {a : Addr} {ccd : Value} {cl : List (Str × Addr)} {outer : List Env} {A₀ : Around} {base h₀ : Heap} {L : Addr} {m : Str → Option Value} {s : Shared} {R : Result → Shared → Prop}
  (B : Below A₀ base outer h₀) (F : Fr h₀ L s.heap m) (X : (hd.heap_39 w.params).In h₀) (T : Top p loose mean mg mb h₀) (hk : cs.kind = .function)
include B F X T hk
theorem bisl_ca {b : Bool} {kf c' l : Addr} {pm ctv : Value} {x : Str} {tx t0 : Tok} {ws : List (Str × Tok)} {n : Nat} (hmo : ∀ (i j : Nat) vi vj, i ≤ j → ws[i]? = some vi → ws[j]? = some vj → (fun v => ltS (stripS v.1) x) vj → (fun v => ltS (stripS v.1) x) vi) (hko : s.heap.get? kf = some (keyObj b pm c' ctv)) (hcd : s.heap.CodeRec (.ref c') keyQ) (hl : s.heap.get? l = some (listOf (strValues ws).toArray n)) (hws : ∀ v ∈ ws, v.1.length ≤ 1000000) (hn : ws.length ≤ 10000) (hdp : dp + 4 < recursionLimit) (hu : un + 30 < cLine) (N : News h₀ L s.heap [])
  (hret : ∀ (k : Nat) t h' tk, k ≤ ws.length → (∀ i : Nat, i < k → ∀ v, ws[i]? = some v → (fun v => ltS (stripS v.1) x) v) → (∀ i : Nat, k ≤ i → ∀ v, ws[i]? = some v → ¬ (fun v => ltS (stripS v.1) x) v) → Fr h₀ L h' m → (∀ b o, s.heap.get? b = some o → h'.get? b = some o) → R (.ok (.ret (.int (k : Int) t))) { s with heap := h', toks := tk }) :
  codeAny (model PG w) (ktrTop dp un gd cn cs L a ccd cl outer) (.call (.ref 57) ⟨[.ref l, .str x tx, .int 0 t0, .none], [(Str.ofString "key", .ref kf)]⟩) R s := by
  have hfill : PySem.Challenge.rw_pg0181_01 = PySem.Challenge.rw_pg0181_01 := rfl
  have hfill2 : hd.heap_39 = hd.heap_39 := rfl
  revert hfill hfill2
  k_fill
  intro _ _
  k_dflt ktr_enter
  rename_i g L1 h1 FG F1 N1 B1 X1 T1 GS lt1
  refine let_QE ?_
  intro E9 Q9
  refine let_A ?_
  intro A9
  have hlg := GS _ _ hl (List.not_mem_nil)
  have hkg := GS _ _ hko (List.not_mem_nil)
  obtain ⟨cq, oq, vq, tq, eq0, hcq, dq, nq⟩ := hcd
  have hcg := GS _ _ hcq (List.not_mem_nil)
  have hvl : (strValues ws).length = ws.length := by simp [strValues]
  k_steps
  refine r_len (n := n) (F1.keep _ _ hlg) (by omega) ?_
  k_steps
  unfold Stop
  rename Fr _ _ _ _ => F2
  refine while_ind (BI g L1 s _ (.ref l) (.str x tx) (.ref kf) ws (fun v => ltS (stripS v.1) x)) (fun c => (c.2 - c.1).toNat) (by k_dflt passes_own) ?step (0, (ws.length : Int)) ⟨_, _, _, _, _, rfl, fr_congr F2 (bsM_start (by rw [← hvl]; rfl) rfl rfl rfl rfl), Int.le_refl _, Int.natCast_nonneg _, Int.le_refl _, fun i h => absurd h (Int.not_lt.mpr (Int.natCast_nonneg _)), fun i h v hv => absurd (List.getElem?_eq_some_iff.mp hv).1 (Nat.not_lt.mpr (Int.ofNat_le.mp h))⟩
  intro c s' hI
  obtain ⟨lo, hi⟩ := c
  obtain ⟨h6, tk6, tl6, th6, mv6, rfl, F6, e1, e2, e3, e4, e5⟩ := hI
  dsimp only at F6 e1 e2 e3 e4 e5
  clear F2
  have N6 : News g L1 h6 [] := News.nil
  have hfd : (lo + hi).fdiv 2 = (lo + hi) / 2 := Int.fdiv_eq_ediv_of_nonneg _ (by decide)
  k_steps
  · rename_i hlt h7 F7 N7
    have hmd := midF hn e1 e3 hlt
    obtain ⟨wv, hwv⟩ : ∃ wv, ws[((lo + hi) / 2).toNat]? = some wv := ⟨ws[((lo + hi) / 2).toNat]'hmd.2.2.2.2.1, List.getElem?_eq_getElem _⟩
    have hwm : wv ∈ ws := List.mem_of_getElem? hwv
    refine callWith_F (FnAt.ofGet (F7.keep _ _ hkg) rfl) ?_
    k_steps
    unfold Stop
    refine r_item (n := n) (v := .str wv.1 wv.2) (F7.keep _ _ hlg) (by rw [hfd]; exact hmd.2.1) (by rw [hfd]; exact hmd.2.2.2.1) (by rw [hfd]; simp [strValues, hwv]) ?_ (by k_dflt rfl)
    k_steps
    · exact FnAt.ofGet (F7.keep _ _ hkg) rfl
    k_dflt (refine' wpAny_call (key_ca (b := b) (pm := pm) (ctv := ctv) (c' := c') ?kB F7 ?kX ?kT rfl (F7.keep _ _ hkg) ?hc (hws _ hwm) ?kd ?ku ?_); (case kB => k_asm); (case kX => k_asm); (case kT => k_asm); (case hc => exact ⟨cq, oq, vq, tq, eq0, F7.keep _ _ hcg, dq, nq⟩); (case kd => ktr_room); (case ku => ktr_units))
    intro t9 h9 tk9 F9 K9
    clear F7 N7
    have N9 : News g L1 h9 [] := News.nil
    dsimp only
    k_steps
    · rename_i hx9 h8 F8 N8
      dsimp only [IndPost]
      refine ⟨((lo + hi).fdiv 2 + 1, hi), by dsimp only; rw [hfd]; exact hmd.2.2.2.2.2.2.1, _, _, _, _, _, rfl, bsM_next F8 rfl rfl ?_, by dsimp only; rw [hfd]; exact hmd.2.2.2.2.2.2.2.1, by dsimp only; rw [hfd]; exact hmd.2.2.2.2.2.2.2.2.1, e3, ?_, e5⟩
      · intro y d1 d2 d3
        simp only [bsM, if_neg d1, if_neg d2, if_neg d3]
      · intro i hi9 v hv
        dsimp only at hi9
        rw [hfd] at hi9
        exact hmo _ _ _ _ ((Int.le_toNat hmd.2.1).mpr (Int.le_of_lt_add_one hi9)) hv hwv hx9
    · rename_i hx9 h8 F8 N8
      dsimp only [IndPost]
      refine ⟨(lo, (lo + hi).fdiv 2), by dsimp only; rw [hfd]; exact hmd.2.2.2.2.2.1, _, _, _, _, _, rfl, bsM_next F8 rfl rfl ?_, e1, by dsimp only; rw [hfd]; exact hmd.2.2.1, by dsimp only; rw [hfd]; exact hmd.2.2.2.2.2.2.2.2.2, e4, ?_⟩
      · intro y d1 d2 d3
        simp only [bsM, if_neg d1, if_neg d2, if_neg d3]
      · intro i hi9 v hv hP
        dsimp only at hi9
        rw [hfd] at hi9
        exact hx9 (hmo _ _ _ _ (Int.toNat_le.mpr hi9) hwv hv hP)
  · rename_i hge
    dsimp only
    obtain ⟨k, rfl⟩ := Int.eq_ofNat_of_zero_le e1
    exact leaveM_ F6 (fun kF kk kN => hret k _ _ _ (Int.ofNat_le.mp (Int.le_trans e2 e3)) (fun i hi v hv => e4 i (Int.ofNat_lt.mpr hi) v hv) (fun i hi v hv => e5 i (Int.le_trans (Int.not_lt.mp hge) (Int.ofNat_le.mpr hi)) v hv) kF (fun b o e => kk b o e (List.not_mem_nil)))
end
end Mine
end
end
section
open PySem PySem.W PyProof.Rows PySem.Calls PySem.Spec
open Mine
local macro_rules | `(tactic| walk_at "call builtin:list.insert") => `(tactic| (k_here; refine Stop.go ?_))
section
open PySem PySem.W PyProof.Rows PySem.Calls PySem.Spec
set_option maxRecDepth 100000
set_option maxHeartbeats 1000000
namespace Mine
theorem strip_len (x : Str) : (stripS x).length ≤ x.length := by unfold stripS; exact PySem.Txt.slice_le _ _ _
noncomputable def ltB (x y : Str) : Bool := decide (x.cps.toList < y.cps.toList)
noncomputable def insK (left : Bool) (x : Str) (v : Str × Tok) : Bool := if left then ltB (stripS v.1) (stripS x) else !ltB (stripS x) (stripS v.1)
noncomputable def insT (left : Bool) (x : Str × Tok) (ws : List (Str × Tok)) : List (Str × Tok) := ws.takeWhile (insK left x.1) ++ x :: ws.dropWhile (insK left x.1)
theorem cut_at {α : Type} (P : α → Bool) : ∀ (ws : List α) (k : Nat), k ≤ ws.length → (∀ i : Nat, i < k → ∀ v, ws[i]? = some v → P v = true) → (∀ i : Nat, k ≤ i → ∀ v, ws[i]? = some v → P v = false) → ws.take k = ws.takeWhile P ∧ ws.drop k = ws.dropWhile P
  | [], k, _, _, _ => by simp
  | w :: ws, 0, _, _, h2 => by
    have := h2 0 (Nat.le_refl _) w rfl
    simp [List.takeWhile, List.dropWhile, this]
  | w :: ws, k + 1, hk, h1, h2 => by
    have h := h1 0 (Nat.succ_pos _) w rfl
    obtain ⟨a, b⟩ := cut_at P ws k (by simpa using hk) (fun i hi v hv => h1 (i + 1) (Nat.succ_lt_succ hi) v hv) (fun i hi v hv => h2 (i + 1) (Nat.succ_le_succ hi) v hv)
    simp [List.takeWhile, List.dropWhile, h, a, b]
theorem ins_eq {left : Bool} {x : Str} {tx : Tok} {ws : List (Str × Tok)} {k : Nat} (hk : k ≤ ws.length) (h1 : ∀ i : Nat, i < k → ∀ v, ws[i]? = some v → insK left x v = true) (h2 : ∀ i : Nat, k ≤ i → ∀ v, ws[i]? = some v → insK left x v = false) :
    kl_ins (strValues ws) (k : Int) (.str x tx) = strValues (insT left (x, tx) ws) := by
  obtain ⟨a, b⟩ := cut_at (insK left x) ws k hk h1 h2
  have hl : (strValues ws).length = ws.length := by simp [strValues]
  unfold kl_ins insT
  rw [if_neg (Int.not_lt.mpr (Int.natCast_nonneg _)), hl, ← a, ← b, show min (k : Int).toNat ws.length = k by rw [Int.toNat_natCast]; exact Nat.min_eq_left hk]
  simp [strValues]
theorem fits_idx {k : Nat} (h : k ≤ 10000) : Builtin.List.listFitsIndex (k : Int) = true := by
  unfold Builtin.List.listFitsIndex
  simp
  omega
section
variable {w : World} {p : Program} {loose : List Str} {mean : ExcName → Option Value} {mg mb : Str → Option Value}
  {dp un : Nat} {gd : Option (List Code)} {cn : Str} {cs : Scope} {a : Addr} {ccd : Value} {cl : List (Str × Addr)} {outer : List Env} {A₀ : Around} {base h₀ : Heap} {L : Addr} {m : Str → Option Value} {s : Shared} {R : Result → Shared → Prop}
  (B : Below A₀ base outer h₀) (F : Fr h₀ L s.heap m) (X : (hd.heap_39 w.params).In h₀) (T : Top p loose mean mg mb h₀) (hk : cs.kind = .function)
include B F X T hk
theorem insr_ca {b : Bool} {kf c' l : Addr} {pm ctv : Value} {x : Str} {tx : Tok} {ws : List (Str × Tok)} {n : Nat} (hmo : ∀ (i j : Nat) vi vj, i ≤ j → ws[i]? = some vi → ws[j]? = some vj → insK false x vj = true → insK false x vi = true) (hko : s.heap.get? kf = some (keyObj b pm c' ctv)) (hcd : s.heap.CodeRec (.ref c') keyQ) (hx : x.length ≤ 100000) (hws : ∀ v ∈ ws, v.1.length ≤ 1000000) (hn : ws.length ≤ 10000) (hdp : dp + 6 < recursionLimit) (hu : un + 40 < cLine) (N : News h₀ L s.heap [(l, listOf (strValues ws).toArray n)])
  (hret : ∀ v h' tk n', Fr h₀ L h' m → News h₀ L h' [(l, listOf (strValues (insT false (x, tx) ws)).toArray n')] → (∀ b o, s.heap.get? b = some o → b ≠ l → h'.get? b = some o) → R (.ok (.ret v)) { s with heap := h', toks := tk }) :
  codeAny (model PG w) (ktrTop dp un gd cn cs L a ccd cl outer) (.call (.ref 30) ⟨[.ref l, .str x tx], [(Str.ofString "key", .ref kf)]⟩) R s := by
  have hfill : PySem.Challenge.rw_pg0181_01 = PySem.Challenge.rw_pg0181_01 := rfl
  have hfill2 : hd.heap_39 = hd.heap_39 := rfl
  revert hfill hfill2
  k_fill
  intro _ _
  k_dflt ktr_enter
  rename_i g L1 h1 FG F1 N1 B1 X1 T1 GS lt1
  refine let_QE ?_
  intro E9 Q9
  refine let_A ?_
  intro A9
  have hl := (N (l, _) (.head _)).1
  obtain ⟨cq, oq, vq, tq, eq0, hcq, dq, nq⟩ := hcd
  have hkl : kf ∉ [l] := fun q => by
    rw [List.mem_singleton.mp q, hl] at hko
    exact absurd (Value.type.inj (show Value.type "list" = Value.type "function" from congrArg Obj.cls (Option.some.inj hko))) (by decide)
  have hcl : cq ∉ [l] := fun q => by
    rw [List.mem_singleton.mp q, hl] at hcq
    rw [← Option.some.inj hcq] at dq
    cases dq
  have hkg := GS _ _ hko hkl
  have hcg := GS _ _ hcq hcl
  have hsl := strip_len x
  k_steps
  rename Fr _ _ _ _ => F2
  refine callWith_F (FnAt.ofGet (F2.keep _ _ hkg) rfl) ?_
  k_steps
  · exact FnAt.ofGet (F2.keep _ _ hkg) rfl
  k_dflt (refine' wpAny_call (key_ca (b := b) (pm := pm) (ctv := ctv) (c' := c') ?kB F2 ?kX ?kT rfl (F2.keep _ _ hkg) ?hc (by omega) ?kd ?ku ?_); (case kB => k_asm); (case kX => k_asm); (case kT => k_asm); (case hc => exact ⟨cq, oq, vq, tq, eq0, F2.keep _ _ hcg, dq, nq⟩); (case kd => ktr_room); (case ku => ktr_units))
  intro t9 h9 tk9 F9 K9
  rename News _ _ _ _ => N2
  have N9 : News g L1 h9 [(l, listOf (strValues ws).toArray n)] := fun p hp => ⟨K9 _ _ (N2 p hp).1, (N2 p hp).2⟩
  clear F2 N2 K9
  dsimp only
  k_steps
  k_dflt (refine' wpAny_call (bisr_ca (b := b) (pm := pm) (ctv := ctv) (c' := c') (ws := ws) (n := n) ?kB F9 ?kX ?kT rfl ?hm (F9.keep _ _ hkg) ?hc (N9 _ (.head _)).1 hws hn ?kd ?ku News.nil ?_); (case kB => k_asm); (case kX => k_asm); (case kT => k_asm); (case hc => exact ⟨cq, oq, vq, tq, eq0, F9.keep _ _ hcg, dq, nq⟩); (case kd => ktr_room); (case ku => ktr_units); (case hm => exact fun i j vi vj h1 h2 h3 h4 => by simpa [insK, ltB, ltS] using hmo i j vi vj h1 h2 h3 (by simpa [insK, ltB, ltS] using h4)))
  intro k t h10 tk10 hk1 hk2 hk3 F10 K10
  have N10 : News g L1 h10 [(l, listOf (strValues ws).toArray n)] := fun p hp => ⟨K10 _ _ (N9 p hp).1, (N9 p hp).2⟩
  clear F9 N9 K10
  dsimp only
  k_steps
  unfold Stop
  rename Fr _ _ _ _ => F11
  rename News _ _ _ _ => N11
  have hi := ins_eq (left := false) (x := x) (tx := tx) hk1 (fun i h v hv => by simpa [insK, ltB, ltS] using hk2 i h v hv) (fun i h v hv => by simpa [insK, ltB, ltS] using hk3 i h v hv)
  refine kl_insert (l := strValues (insT false (x, tx) ws)) F11 N11 (fits_idx (Nat.le_trans hk1 hn)) hi (Upd.head (fun _ h => nomatch h)) (by rw [List.toList_toArray]; refine size_fit ?_; simp only [strValues, List.length_map]; omega) ?_
  intro h12 F12 N12
  clear F11 N11
  k_steps
  exact leaveM_ F12 (fun kF kk kN => hret _ _ _ _ kF (kN _ N12) (fun b o e hb => kk b o e (fun q => hb (List.mem_singleton.mp q))))
end
end Mine
end
section
open PySem PySem.W PyProof.Rows PySem.Calls PySem.Spec
set_option maxRecDepth 100000
set_option maxHeartbeats 1000000
namespace Mine
section
variable {w : World} {p : Program} {loose : List Str} {mean : ExcName → Option Value} {mg mb : Str → Option Value}
  {dp un : Nat} {gd : Option (List Code)} {cn : Str} {cs : Scope} {a : Addr} {ccd : Value} {cl : List (Str × Addr)} {outer : List Env} {A₀ : Around} {base h₀ : Heap} {L : Addr} {m : Str → Option Value} {s : Shared} {R : Result → Shared → Prop}
  (B : Below A₀ base outer h₀) (F : Fr h₀ L s.heap m) (X : (hd.heap_39 w.params).In h₀) (T : Top p loose mean mg mb h₀) (hk : cs.kind = .function)
include B F X T hk
theorem insl_ca {b : Bool} {kf c' l : Addr} {pm ctv : Value} {x : Str} {tx : Tok} {ws : List (Str × Tok)} {n : Nat} (hmo : ∀ (i j : Nat) vi vj, i ≤ j → ws[i]? = some vi → ws[j]? = some vj → insK true x vj = true → insK true x vi = true) (hko : s.heap.get? kf = some (keyObj b pm c' ctv)) (hcd : s.heap.CodeRec (.ref c') keyQ) (hx : x.length ≤ 100000) (hws : ∀ v ∈ ws, v.1.length ≤ 1000000) (hn : ws.length ≤ 10000) (hdp : dp + 6 < recursionLimit) (hu : un + 40 < cLine) (N : News h₀ L s.heap [(l, listOf (strValues ws).toArray n)])
  (hret : ∀ v h' tk n', Fr h₀ L h' m → News h₀ L h' [(l, listOf (strValues (insT true (x, tx) ws)).toArray n')] → (∀ b o, s.heap.get? b = some o → b ≠ l → h'.get? b = some o) → R (.ok (.ret v)) { s with heap := h', toks := tk }) :
  codeAny (model PG w) (ktrTop dp un gd cn cs L a ccd cl outer) (.call (.ref 48) ⟨[.ref l, .str x tx], [(Str.ofString "key", .ref kf)]⟩) R s := by
  have hfill : PySem.Challenge.rw_pg0181_01 = PySem.Challenge.rw_pg0181_01 := rfl
  have hfill2 : hd.heap_39 = hd.heap_39 := rfl
  revert hfill hfill2
  k_fill
  intro _ _
  k_dflt ktr_enter
  rename_i g L1 h1 FG F1 N1 B1 X1 T1 GS lt1
  refine let_QE ?_
  intro E9 Q9
  refine let_A ?_
  intro A9
  have hl := (N (l, _) (.head _)).1
  obtain ⟨cq, oq, vq, tq, eq0, hcq, dq, nq⟩ := hcd
  have hkl : kf ∉ [l] := fun q => by
    rw [List.mem_singleton.mp q, hl] at hko
    exact absurd (Value.type.inj (show Value.type "list" = Value.type "function" from congrArg Obj.cls (Option.some.inj hko))) (by decide)
  have hcl : cq ∉ [l] := fun q => by
    rw [List.mem_singleton.mp q, hl] at hcq
    rw [← Option.some.inj hcq] at dq
    cases dq
  have hkg := GS _ _ hko hkl
  have hcg := GS _ _ hcq hcl
  have hsl := strip_len x
  k_steps
  rename Fr _ _ _ _ => F2
  refine callWith_F (FnAt.ofGet (F2.keep _ _ hkg) rfl) ?_
  k_steps
  · exact FnAt.ofGet (F2.keep _ _ hkg) rfl
  k_dflt (refine' wpAny_call (key_ca (b := b) (pm := pm) (ctv := ctv) (c' := c') ?kB F2 ?kX ?kT rfl (F2.keep _ _ hkg) ?hc (by omega) ?kd ?ku ?_); (case kB => k_asm); (case kX => k_asm); (case kT => k_asm); (case hc => exact ⟨cq, oq, vq, tq, eq0, F2.keep _ _ hcg, dq, nq⟩); (case kd => ktr_room); (case ku => ktr_units))
  intro t9 h9 tk9 F9 K9
  rename News _ _ _ _ => N2
  have N9 : News g L1 h9 [(l, listOf (strValues ws).toArray n)] := fun p hp => ⟨K9 _ _ (N2 p hp).1, (N2 p hp).2⟩
  clear F2 N2 K9
  dsimp only
  k_steps
  k_dflt (refine' wpAny_call (bisl_ca (b := b) (pm := pm) (ctv := ctv) (c' := c') (ws := ws) (n := n) ?kB F9 ?kX ?kT rfl ?hm (F9.keep _ _ hkg) ?hc (N9 _ (.head _)).1 hws hn ?kd ?ku News.nil ?_); (case kB => k_asm); (case kX => k_asm); (case kT => k_asm); (case hc => exact ⟨cq, oq, vq, tq, eq0, F9.keep _ _ hcg, dq, nq⟩); (case kd => ktr_room); (case ku => ktr_units); (case hm => exact fun i j vi vj h1 h2 h3 h4 => by simpa [insK, ltB, ltS] using hmo i j vi vj h1 h2 h3 (by simpa [insK, ltB, ltS] using h4)))
  intro k t h10 tk10 hk1 hk2 hk3 F10 K10
  have N10 : News g L1 h10 [(l, listOf (strValues ws).toArray n)] := fun p hp => ⟨K10 _ _ (N9 p hp).1, (N9 p hp).2⟩
  clear F9 N9 K10
  dsimp only
  k_steps
  unfold Stop
  rename Fr _ _ _ _ => F11
  rename News _ _ _ _ => N11
  have hi := ins_eq (left := true) (x := x) (tx := tx) hk1 (fun i h v hv => by simpa [insK, ltB, ltS] using hk2 i h v hv) (fun i h v hv => by simpa [insK, ltB, ltS] using hk3 i h v hv)
  refine kl_insert (l := strValues (insT true (x, tx) ws)) F11 N11 (fits_idx (Nat.le_trans hk1 hn)) hi (Upd.head (fun _ h => nomatch h)) (by rw [List.toList_toArray]; refine size_fit ?_; simp only [strValues, List.length_map]; omega) ?_
  intro h12 F12 N12
  clear F11 N11
  k_steps
  exact leaveM_ F12 (fun kF kk kN => hret _ _ _ _ kF (kN _ N12) (fun b o e hb => kk b o e (fun q => hb (List.mem_singleton.mp q))))
end
end Mine
end
end
section
open PySem PySem.W PyProof.Rows PySem.Calls PySem.Spec
set_option maxRecDepth 100000
set_option maxHeartbeats 1000000
namespace Mine
theorem setGen_toks (s : Shared) (g : Nat) (x : GenState) : (s.setGen g x).toks = s.toks := rfl
theorem runs_toks {M : Model} {Γ : PySem.Ctx} {p : Pos} {t : Sem Fin} {fs : List Frame} {s s' : Shared} {e : End} (h : Runs M Γ p t fs s e s') : s.toks ≤ s'.toks := by
  induction h <;> (try simp only [setGen_toks] at *) <;> first | assumption | exact Nat.le_refl _ | exact Nat.le_of_succ_le ‹_› | (apply Nat.le_trans <;> assumption) | omega
theorem wp_toks {α : Type} {M : Model} {Γ : PySem.Ctx} {n : Nat} : ∀ (t : Sem α) (Q : α → Pos → Shared → Prop) (E : Value → Pos → Shared → Prop) (p : Pos) (s : Shared), n ≤ s.toks →
    Sem.wp M Γ t (fun a p' s' => n ≤ s'.toks → Q a p' s') (fun e p' s' => n ≤ s'.toks → E e p' s') p s → Sem.wp M Γ t Q E p s := by
  intro t
  induction t with
  | pure a => intro Q E p s hn h; exact h hn
  | raise e => intro Q E p s hn h; exact h hn
  | unsupported _ => intro Q E p s hn h; exact h
  | finish _ => intro Q E p s hn h; exact h
  | rule _ k ih => intro Q E p s hn h; exact ih _ Q E p s hn h
  | «at» p' k ih => intro Q E p s hn h; exact ih _ Q E p' s hn h
  | load a _ k ih => intro Q E p s hn h; obtain ⟨o, ho, h⟩ := h; exact ⟨o, ho, ih _ Q E p s hn h⟩
  | update a _ f k ih => intro Q E p s hn h; exact ⟨h.1, ih _ Q E p _ hn h.2⟩
  | loadIfAlive a k ih => intro Q E p s hn h; exact ih _ Q E p s hn h
  | point _ k ih => intro Q E p s hn h; exact ih _ Q E p s hn h
  | register _ _ => intro Q E p s hn h; exact h
  | alloc o k ih => intro Q E p s hn h; exact ih _ Q E p _ hn h
  | fresh k ih => intro Q E p s hn h; exact ih _ Q E p _ (Nat.le_succ_of_le hn) h
  | ask k ih => intro Q E p s hn h; exact ih _ Q E p s hn h
  | choose src n' k ih => intro Q E p s hn h; exact ⟨h.1, ih _ Q E p _ hn h.2⟩
  | os q _ k ih => intro Q E p s hn h; exact ih _ Q E p _ hn h
  | call c h' g l k ih =>
    intro Q E p s hn h
    rw [Sem.wp_call] at h ⊢
    obtain ⟨r, s', hr, h⟩ := h
    exact ⟨r, s', hr, ih _ Q E p s' (Nat.le_trans hn (runs_toks hr)) h⟩
  | handled own k ih => intro Q E p s hn h; exact ih _ Q E p s hn h
  | genState g k ih => intro Q E p s hn h; obtain ⟨st, hs, h⟩ := h; exact ⟨st, hs, ih _ Q E p s hn h⟩
  | newGen c k ih => intro Q E p s hn h; exact ih _ Q E p _ hn h
  | resume g r l k ih =>
    intro Q E p s hn h
    obtain ⟨res, s', hw, h⟩ := h
    refine ⟨res, s', hw, ih _ Q E p s' (Nat.le_trans hn ?_) h⟩
    unfold Wakes at hw
    split at hw
    · exact hw.elim
    · split at hw
      · obtain ⟨e₁, s₁, hr, _, _, rfl⟩ := hw; have := runs_toks hr; simpa only [setGen_toks] using this
      · rw [hw.2]; exact Nat.le_refl _
      · rw [hw.2]; exact Nat.le_refl _
    · obtain ⟨e₁, s₁, hr, _, _, rfl⟩ := hw; have := runs_toks hr; simpa only [setGen_toks] using this
    · rw [hw.2]; exact Nat.le_refl _
    · rw [hw.2]; exact Nat.le_refl _
  | yield _ _ _ _ => intro Q E p s hn h; exact h
  | stack k ih => intro Q E p s hn h; exact ih _ Q E p s hn h
  | fork _ _ => intro Q E p s hn h; exact h
  | thread k ih => intro Q E p s hn h; exact ih _ Q E p s hn h
  | await _ _ => intro Q E p s hn h; exact h
/-- the count of the tokens never falls -/
theorem wpAny_toks {α : Type} {M : Model} {A : Around} {t : Sem α} {Q : α → Shared → Prop} {E : Value → Shared → Prop} {s : Shared} {n : Nat} (hn : n ≤ s.toks)
    (h : wpAny M A t (fun a s' => n ≤ s'.toks → Q a s') (fun e s' => n ≤ s'.toks → E e s') s) : wpAny M A t Q E s := fun Γ p hΓ =>
  wp_toks t _ _ p s hn (h Γ p hΓ)
theorem codeAny_toks {M : Model} {A : Around} {c : Code} {R : Result → Shared → Prop} {s : Shared} {n : Nat} (hn : n ≤ s.toks)
    (h : codeAny M A c (fun r s' => n ≤ s'.toks → R r s') s) : codeAny M A c R s := fun Γ p hc hΓ => by
  obtain ⟨r, s', hr, hR⟩ := h Γ p hc hΓ
  exact ⟨r, s', hr, hR (Nat.le_trans hn (runs_toks hr))⟩
end Mine
end
section
open PySem PySem.W PyProof.Rows PySem.Calls PySem.Spec
set_option maxRecDepth 100000
set_option maxHeartbeats 1000000
namespace Mine
local macro_rules | `(tactic| walk_at "subscriptTail") => `(tactic| (k_here; (with_reducible show wpAny _ _ (subscriptTail _ _ (Value.ref _) (Value.int _ _)) _ _ _); refine Stop.go ?_))
local macro_rules | `(tactic| walk_at "call builtin:str.replace") => `(tactic| (k_here; refine Stop.go ?_))
local macro_rules | `(tactic| walk_at "call builtin:str.split") => `(tactic| (k_here; refine Stop.go ?_))
noncomputable def turnCut (x : Str) : Int := (((Txt.split (Txt.replace x (Str.ofString "\n") (Str.ofString ":")) (Str.ofString ":")).headD Str.empty).length : Int)
noncomputable def turnFront (x : Str) : Str := Txt.slice x none (some (turnCut x - ((stripS x).length : Int)))
noncomputable def turnS (x : Str) : Str := if turnFront x == Str.ofString "" then Str.ofString ":" ++ x else Txt.slice (turnFront x) none (some (-1)) ++ Str.ofString ":" ++ Txt.slice x (some ((turnFront x).length : Int)) none
section
variable {w : World} {p : Program} {loose : List Str} {mean : ExcName → Option Value} {mg mb : Str → Option Value}
  {dp un : Nat} {gd : Option (List Code)} {cn : Str} {cs : Scope} {a : Addr} {ccd : Value} {cl : List (Str × Addr)} {outer : List Env} {A₀ : Around} {base h₀ : Heap} {L : Addr} {m : Str → Option Value} {s : Shared} {R : Result → Shared → Prop}
  (B : Below A₀ base outer h₀) (F : Fr h₀ L s.heap m) (X : (hd.heap_39 w.params).In h₀) (T : Top p loose mean mg mb h₀) (hk : cs.kind = .function)
include B F X T hk
theorem turned_ca {x : Str} {t : Tok} (hx : x.length ≤ 100000) (hdp : dp + 4 < recursionLimit) (hu : un + 20 < cLine) (N : News h₀ L s.heap [])
  (hret : ∀ t h' tk, Fr h₀ L h' m → (∀ b o, s.heap.get? b = some o → h'.get? b = some o) → R (.ok (.ret (.str (turnS x) t))) { s with heap := h', toks := tk }) :
  codeAny (model PG w) (ktrTop dp un gd cn cs L a ccd cl outer) (.call (.ref 123) ⟨[.str x t], []⟩) R s := by
  have hfill : PySem.Challenge.rw_pg0181_01 = PySem.Challenge.rw_pg0181_01 := rfl
  have hfill2 : hd.heap_39 = hd.heap_39 := rfl
  revert hfill hfill2
  k_fill
  intro _ _
  k_dflt ktr_enter
  rename_i g L1 h1 FG F1 N1 B1 X1 T1 GS lt1
  refine let_QE ?_
  intro E9 Q9
  refine let_A ?_
  intro A9
  have hpos : 0 < s.toks + 1 := Nat.succ_pos _
  refine toks_pos hpos (fun tk htk => ?_)
  k_steps
  unfold Stop
  refine PySem.SC.replaceW (Nat.ne_of_gt htk) (Nat.succ_ne_zero _) (Nat.ne_of_lt (Nat.lt_succ_self _)) (by decide +kernel) (by omega) (by decide +kernel) ?_
  intro t1 k1
  k_steps
  unfold Stop
  have hrl := repl_len x (Str.ofString "\n") (Str.ofString ":")
  have hl1 : (Str.ofString ":").length = 1 := by decide +kernel
  have hl0 : (Str.ofString "").length = 0 := by decide +kernel
  rw [hl1] at hrl
  rename Fr _ _ _ _ => F2
  rename News _ _ _ _ => N2
  refine r_split1 F2 N2 (by decide +kernel) (by rw [sizeLine_eq]; exact rp1L hrl hx) ?_
  intro D y0 t0 l' h3 k3 hy0 hyl F3 N3 _
  clear F2 N2
  have hy9 := Nat.le_trans hyl (Nat.le_of_succ_le (Nat.le_of_succ_le (rp1L hrl hx)))
  k_steps
  unfold Stop
  refine r_item (n := 0) (v := .str y0 t0) (N3 _ (.head _)).1 (by decide) (by decide) rfl ?_ (by k_dflt rfl)
  k_steps
  have hsl := strip_len x
  k_dflt (refine' strip_call ?kB ?kF ?kX ?kN ?kT rfl ?kd ?ku (x := x) (by omega) ?_; (case kB => k_asm); (case kF => k_asm); (case kX => k_asm); (case kN => k_asm); (case kT => k_asm); (case kd => ktr_room); (case ku => ktr_units))
  intro t9 h9 tk9 F9 N9 _
  k_steps
  · rename (_ == _) = true => hb
    dsimp only
    have e : Str.ofString ":" ++ x = turnS x := by unfold turnS turnFront turnCut; rw [← hy0, if_pos hb]
    rw [e]
    exact leaveM_ (by assumption) (fun kF kk kN => hret _ _ _ kF (fun b o e => kk b o e (List.not_mem_nil)))
  · rename (_ == _) = false => hb
    have e : Txt.slice (Txt.slice x none (some ((y0.length : Int) - ((stripS x).length : Int)))) none (some (-1)) ++ Str.ofString ":" ++ Txt.slice x (some ((Txt.slice x none (some ((y0.length : Int) - ((stripS x).length : Int)))).length : Int)) none = turnS x := by
      unfold turnS turnFront turnCut
      rw [← hy0, if_neg (by rw [hb]; decide)]
    rw [e]
    exact leaveM_ (by assumption) (fun kF kk kN => hret _ _ _ kF (fun b o e => kk b o e (List.not_mem_nil)))
end
end Mine
end
section
open PySem PySem.W PyProof.Rows PySem.Calls PySem.Spec
set_option maxRecDepth 100000
set_option maxHeartbeats 1000000
namespace Mine
local macro_rules | `(tactic| walk_at "subscriptTail") => `(tactic| (k_here; k_dflt (apply r_item; exact Fr.keep (by assumption) _ _ (by assumption); omega; omega; (first | exact rfl | assumption); rotate_left; rfl)))
noncomputable def aheadV (a0 a1 a2 b0 b1 b2 : Str) (i j : Nat) (l0 l1 l2 : Int) : Bool :=
  if (a0 != b0) = true then (decide (a0.cps.toList < b0.cps.toList) != (Int.fmod 0 2 == 1))
  else if (a1 != b1) = true then (decide (a1.cps.toList < b1.cps.toList) != ((l2 + 0).fmod 2 == 1))
  else if (a2 != b2) = true then (decide (a2.cps.toList < b2.cps.toList) != ((l1 + (l2 + 0)).fmod 2 == 1))
  else (decide ((i : Int) < (j : Int)) != ((l0 + (l1 + (l2 + 0))).fmod 2 == 1))
section
variable {w : World} {p : Program} {loose : List Str} {mean : ExcName → Option Value} {mg mb : Str → Option Value}
  {dp un : Nat} {gd : Option (List Code)} {cn : Str} {cs : Scope} {a : Addr} {ccd : Value} {cl : List (Str × Addr)} {outer : List Env} {A₀ : Around} {base h₀ : Heap} {L : Addr} {m : Str → Option Value} {s : Shared} {R : Result → Shared → Prop}
  (B : Below A₀ base outer h₀) (F : Fr h₀ L s.heap m) (X : (hd.heap_39 w.params).In h₀) (T : Top p loose mean mg mb h₀) (hk : cs.kind = .function)
include B F X T hk
theorem ahead_ca {nl lt pi pj : Addr} {i j : Nat} {ti tj : Tok} {nv : List Value} {n0 n1 n2 n3 : Nat} {l0 l1 l2 : Int} {t0 t1 t2 u0 u1 u2 w0 w1 w2 : Tok} {a0 a1 a2 b0 b1 b2 : Str} (hn : s.heap.get? nl = some (listOf nv.toArray n0)) (hi : nv[i]? = some (.ref pi)) (hj : nv[j]? = some (.ref pj)) (hpi : s.heap.get? pi = some (listOf [Value.str a0 u0, .str a1 u1, .str a2 u2].toArray n1)) (hpj : s.heap.get? pj = some (listOf [Value.str b0 w0, .str b1 w1, .str b2 w2].toArray n2)) (hne : nl ≠ lt ∧ pi ≠ lt ∧ pj ≠ lt) (hil : i ≤ 100) (hjl : j ≤ 100) (hdp : dp + 4 < recursionLimit) (hu : un + 20 < cLine) (N : News h₀ L s.heap [(lt, listOf [Value.int l0 t0, .int l1 t1, .int l2 t2].toArray n3)])
  (hret : ∀ v h' tk, v = .bool (aheadV a0 a1 a2 b0 b1 b2 i j l0 l1 l2) → Fr h₀ L h' m → News h₀ L h' [(lt, listOf [Value.int l0 t0, Value.int l1 t1, Value.int l2 t2].toArray n3)] → (∀ b o, s.heap.get? b = some o → b ∉ [lt] → h'.get? b = some o) → R (.ok (.ret v)) { s with heap := h', toks := tk }) :
  codeAny (model PG w) (ktrTop dp un gd cn cs L a ccd cl outer) (.call (.ref 135) ⟨[.ref nl, .int i ti, .int j tj, .ref lt], []⟩) R s := by
  have hfill : PySem.Challenge.rw_pg0181_01 = PySem.Challenge.rw_pg0181_01 := rfl
  have hfill2 : hd.heap_39 = hd.heap_39 := rfl
  revert hfill hfill2
  k_fill
  intro _ _
  k_dflt ktr_enter
  rename_i g L1 h1 FG F1 N1 B1 X1 T1 GS lt1
  refine let_QE ?_
  intro E9 Q9
  refine let_A ?_
  intro A9
  have hng := GS _ _ hn (by simpa using hne.1)
  have hpig := GS _ _ hpi (by simpa using hne.2.1)
  have hpjg := GS _ _ hpj (by simpa using hne.2.2)
  clear hn hpi hpj
  k_steps
  · rename News _ _ _ _ => N9
    exact leaveM_ (by assumption) (fun kF kk kN => hret _ _ _ (by unfold aheadV; rw [if_pos (show (a0 != b0) = true by assumption)]) kF (kN _ (fun p hp => N9 p (by rw [List.mem_singleton.mp hp]; k_mem))) kk)
  · rename News _ _ _ _ => N9
    exact leaveM_ (by assumption) (fun kF kk kN => hret _ _ _ (by unfold aheadV; rw [if_neg (ne_true_of_eq_false (show (a0 != b0) = false by assumption)), if_pos (show (a1 != b1) = true by assumption)]) kF (kN _ (fun p hp => N9 p (by rw [List.mem_singleton.mp hp]; k_mem))) kk)
  · rename News _ _ _ _ => N9
    exact leaveM_ (by assumption) (fun kF kk kN => hret _ _ _ (by unfold aheadV; rw [if_neg (ne_true_of_eq_false (show (a0 != b0) = false by assumption)), if_neg (ne_true_of_eq_false (show (a1 != b1) = false by assumption)), if_pos (show (a2 != b2) = true by assumption)]) kF (kN _ (fun p hp => N9 p (by rw [List.mem_singleton.mp hp]; k_mem))) kk)
  · rename News _ _ _ _ => N9
    exact leaveM_ (by assumption) (fun kF kk kN => hret _ _ _ (by unfold aheadV; rw [if_neg (ne_true_of_eq_false (show (a0 != b0) = false by assumption)), if_neg (ne_true_of_eq_false (show (a1 != b1) = false by assumption)), if_neg (ne_true_of_eq_false (show (a2 != b2) = false by assumption))]) kF (kN _ (fun p hp => N9 p (by rw [List.mem_singleton.mp hp]; k_mem))) kk)
end
end Mine
end
section
open PySem PySem.W PyProof.Rows PySem.Calls PySem.Spec
set_option maxRecDepth 100000
set_option maxHeartbeats 1000000
namespace Mine
section
variable {prog : Program} {w : World} {A : Around} {E : Value → Shared → Prop} {s : Shared} {env : Env} {elt target iter : PySem.Expr} {ifs : List PySem.Expr} {scope : Scope} {pos : Pos}
noncomputable abbrev noE : Value → Shared → Prop := fun _ _ => False
/-- what is left of a comprehension's loop -/
noncomputable def CompRest (prog : Program) (w : World) (A : Around) (cenv : Env) (elt target iter : PySem.Expr) (ifs : List PySem.Expr) (scope : Scope) (pos : Pos) (it acc : Value) (Done : Shared → Prop) (s : Shared) : Prop :=
  codeAny (model prog w) A (.compLoop (.ListComp elt [⟨target, iter, ifs, 0⟩] scope pos) 0 it acc cenv) (fun r s' => match r with | .ok .next => Done s' | _ => False) s
noncomputable def compTests (ifs : List PySem.Expr) (cenv : Env) : Sem Bool := forIn ifs true fun c r => if r = true then do let ok ← isTrue c cenv (eval c cenv); pure (ForInStep.yield ok) else pure (ForInStep.yield r)
noncomputable def CompTurn (prog : Program) (w : World) (A : Around) (cenv : Env) (elt target : PySem.Expr) (ifs : List PySem.Expr) (it acc : Value) (Done : Shared → Prop) {σ : Type} (I : σ → Shared → Prop) (μ : σ → Nat) (c : σ) (r : Option Value) (s₁ : Shared) : Prop := match r with
  | none => Done s₁
  | some v => wpAny (model prog w) A (letOwnedTupleGo target it v) (fun _ s₁' => wpAny (model prog w) A (assign target cenv v) (fun _ s₂ => wpAny (model prog w) A (compTests ifs cenv) (fun ok s₃ =>
      if ok = true then wpAny (model prog w) A (eval elt cenv) (fun x s₄ => wpAny (model prog w) A (call (.builtin "list.append") [acc, x]) (fun _ s₅ => ∃ c', μ c' < μ c ∧ I c' s₅) noE s₄) noE s₃
      else ∃ c', μ c' < μ c ∧ I c' s₃) noE s₂) noE s₁') noE s₁
theorem comp_ind {σ : Type} {cenv : Env} {it acc : Value} {Done : Shared → Prop} (I : σ → Shared → Prop) (μ : σ → Nat)
    (step : ∀ c s, I c s → wpAny (model prog w) A (pyNext it) (CompTurn prog w A cenv elt target ifs it acc Done I μ c) noE s) (c : σ) {s : Shared} (h : I c s) :
    CompRest prog w A cenv elt target iter ifs scope pos it acc Done s := by
  refine codeAny_loop rfl (fun n s => ∃ c, μ c = n ∧ I c s) (fun n s hI => ?_) (μ c) ⟨c, rfl, h⟩
  obtain ⟨c, rfl, hI⟩ := hI
  show wpAny _ A ((compTurn (.ListComp elt [⟨target, iter, ifs, 0⟩] scope pos) 0 it acc cenv).onRaise (fun x => do noteFrame x cenv; theTreesLotGoes x)) _ _ s
  refine wpAny_noted ?_
  rw [compTurn_list]
  refine wpAny_bind (wpAny_standAt (wpAny_bind (wpAny_mono (step c s hI) (fun r s₁ h₁ => ?_) fun _ _ h' => h'.elim)))
  cases r with
  | none => exact wpAny_pure h₁
  | some v =>
    refine wpAny_bind (wpAny_mono h₁ (fun _ s₁' h₁' => ?_) fun _ _ h' => h'.elim)
    refine wpAny_bind (wpAny_mono h₁' (fun _ s₂ h₂ => wpAny_bind (wpAny_mono h₂ (fun ok s₃ h₃ => ?_) fun _ _ h' => h'.elim)) fun _ _ h' => h'.elim)
    cases ok with
    | false => rw [if_neg (by decide)] at h₃; obtain ⟨c', a, b⟩ := h₃; exact wpAny_pure ⟨rfl, _, a, c', rfl, b⟩
    | true =>
      rw [if_pos rfl] at h₃
      exact wpAny_bind (wpAny_bind (wpAny_mono h₃ (fun x s₄ h₄ => wpAny_bind (wpAny_mono h₄ (fun _ s₅ h₅ => wpAny_pure (wpAny_pure ⟨rfl, (let ⟨c', a, b⟩ := h₅; ⟨_, a, c', rfl, b⟩)⟩)) fun _ _ h' => h'.elim)) fun _ _ h' => h'.elim))
theorem comp_start {Q : Value → Shared → Prop} {cl : List (Str × Addr)} (hclos : closureFor scope env = pure cl) (hcell : ∀ y ∈ scope.names, y.2 ≠ .cell) (hkind : scope.kind = .function) (hnames : ∀ x ∈ scope.names, x.2 = .local → scope.names.lookup x.1 = some .local)
    (h : wpAny (model prog w) A (eval iter env) (fun xv s₁ => wpAny (model prog w) A (pyIter xv) (fun it s₂ => ∀ C h₁ tk, s₂.heap.objs.size < C → h₁.get? s₂.heap.objs.size = some (listOf [].toArray 0) → h₁.Ns C (fun _ => none) → (∀ b o, s₂.heap.get? b = some o → h₁.get? b = some o) →
      wpAny (model prog w) A (pyIter it) (fun it' s₃ => it' = it ∧ s₃ = { s₂ with heap := h₁, toks := tk }) noE { s₂ with heap := h₁, toks := tk } ∧
      CompRest prog w A (compEnvC scope cl C env) elt target iter ifs scope pos it (.ref s₂.heap.objs.size) (fun s' => ∃ m, s'.heap.Ns C m ∧ ∀ h', Heap.SameBut C s'.heap h' → Q (.ref s₂.heap.objs.size) { s' with heap := h' }) { s₂ with heap := h₁, toks := tk }) E s₁) E s)
    (hs : ∀ x, foldedSetIterable iter env x = pure x := by intro _; rfl) :
    wpAny (model prog w) A (eval (.ListComp elt [⟨target, iter, ifs, 0⟩] scope pos) env) Q E s := by
  rw [eval_ListComp]
  refine wpAny_comprehension_free (g := ⟨target, iter, ifs, 0⟩) (gs := []) rfl hs hclos hkind hnames ?_
  refine wpAny_mono h (fun xv s₁ h₁ => wpAny_mono h₁ (fun it s₂ h₂ => ?_) fun _ _ x => x) fun _ _ x => x
  refine wpAny_newObj_type (wpAny_newFunctionEnv hcell (by intro y hy; simp at hy) (fun h₁ hns₁ hsb₁ => ?_) hkind)
  dsimp only at hns₁ hsb₁ ⊢
  have hC : (s₂.heap.push { cls := .type "list", dict := none, data := .seq ([] : List Value).toArray }).objs.size = s₂.heap.objs.size + 1 := Heap.size_push ..
  have old : ∀ b o, (s₂.heap.push { cls := .type "list", dict := none, data := .seq ([] : List Value).toArray }).get? b = some o → h₁.get? b = some o := fun b o e => hsb₁.extBut b o (Nat.ne_of_lt (Heap.lt_size e)) (Heap.get?_push_of_some _ e)
  obtain ⟨hit, hr⟩ := h₂ _ h₁ _ (by rw [hC]; exact Nat.lt_succ_self _) (old _ _ (Heap.get?_push_size _ rfl)) hns₁ (fun b o e => old b o (Heap.get?_push_of_some _ e))
  have hr' : codeAny (model prog w) A (.compLoop (.ListComp elt [⟨target, iter, ifs, 0⟩] scope pos) 0 it (.ref s₂.heap.objs.size) (compEnvC scope cl (s₂.heap.push { cls := .type "list", dict := none, data := .seq ([] : List Value).toArray }).objs.size env))
      (compPost (model prog w) A E none Q (.ref s₂.heap.objs.size) (s₂.heap.push { cls := .type "list", dict := none, data := .seq ([] : List Value).toArray }).objs.size) _ :=
    codeAny_mono hr fun r s' hr => by
      match r with
      | .ok .next => exact hr
      | .ok .brk => exact hr.elim
      | .ok .cont => exact hr.elim
      | .ok (.ret _) => exact hr.elim
      | .error _ => exact hr.elim
  exact codeAny_compStart_list hr' (wpAny_mono hit (fun it' s₃ he => by obtain ⟨rfl, rfl⟩ := he; exact hr') fun _ _ h' => h'.elim)
end
end Mine
end
section
open PySem PySem.W PyProof.Rows PySem.Calls PySem.Spec
set_option maxRecDepth 100000
set_option maxHeartbeats 1000000
namespace Mine
theorem let_CR {prog : Program} {w : World} {A : Around} {cenv : Env} {elt target iter : PySem.Expr} {ifs : List PySem.Expr} {scope : Scope} {pos : Pos} {it acc : Value} {Done : Shared → Prop} {s : Shared} (h : let D8 := Done; CompRest prog w A cenv elt target iter ifs scope pos it acc D8 s) : CompRest prog w A cenv elt target iter ifs scope pos it acc Done s := h
end Mine
end
section
open PySem PySem.W PyProof.Rows PySem.Calls PySem.Spec
set_option maxRecDepth 100000
set_option maxHeartbeats 1000000
namespace Mine
section
variable {g h h' : Heap} {L : Addr} {m : Str → Option Value}
theorem led_step {it : Addr} {o o' : Obj} {rest : List (Addr × Obj)} (F : Fr g L h m) (N : News g L h ((it, o) :: rest)) (off : ∀ p ∈ rest, p.1 ≠ it) (hs : Heap.SameBut it h h') (ho : h'.get? it = some o') :
    Fr g L h' m ∧ News g L h' ((it, o') :: rest) := by
  have hi := N _ (.head _)
  have k : ∀ b o, b ≠ it → h.get? b = some o → h'.get? b = some o := fun b o hb e => (hs.2 b hb).trans e
  refine ⟨?_, fun p hp => ?_⟩
  · obtain ⟨oL, es, ep, e1, e2⟩ := F.ns
    exact ⟨⟨oL, es, ep, k _ _ hi.2.1.symm e1, e2⟩, fun b o e => k b o (fun q => by rw [q, hi.2.2] at e; cases e) (F.keep b o e), F.above⟩
  · rcases List.mem_cons.mp hp with rfl | hp
    · exact ⟨ho, hi.2⟩
    · exact ⟨k _ _ (off p hp) (N p (.tail _ hp)).1, (N p (.tail _ hp)).2⟩
theorem led_drop {it : Addr} {o : Obj} {rest : List (Addr × Obj)} (F : Fr g L h m) (N : News g L h ((it, o) :: rest)) (off : ∀ p ∈ rest, p.1 ≠ it) (hs : Heap.ExtBut it h h') :
    Fr g L h' m ∧ News g L h' rest := by
  have hi := N _ (.head _)
  have k : ∀ b o, b ≠ it → h.get? b = some o → h'.get? b = some o := fun b o hb e => hs b o hb e
  refine ⟨?_, fun p hp => ?_⟩
  · obtain ⟨oL, es, ep, e1, e2⟩ := F.ns
    exact ⟨⟨oL, es, ep, k _ _ hi.2.1.symm e1, e2⟩, fun b o e => k b o (fun q => by rw [q, hi.2.2] at e; cases e) (F.keep b o e), F.above⟩
  · exact ⟨k _ _ (off p hp) (N p (.tail _ hp)).1, (N p (.tail _ hp)).2⟩
theorem news_swap {led A' rest : List (Addr × Obj)} {adr : List Addr} (N : News g L h led) (N' : News g L h' A') (K : ∀ b o, h.get? b = some o → b ∉ adr → h'.get? b = some o) (hr : ∀ p ∈ rest, p ∈ led ∧ p.1 ∉ adr) : News g L h' (A' ++ rest) := by
  intro p hp
  rcases List.mem_append.mp hp with hp | hp
  · exact N' p hp
  · obtain ⟨a, b⟩ := hr p hp
    exact ⟨K _ _ (N p a).1 b, (N p a).2⟩
theorem news_sub {led led' : List (Addr × Obj)} (N : News g L h led) (hs : ∀ p ∈ led', p ∈ led) : News g L h led' := fun p hp => N p (hs p hp)
end
noncomputable def IsLi (o : Obj) (l : Addr) (i : Nat) : Prop := o.cls = .type "list_iterator" ∧ o.data = .fields #[.ref l, .int i 0]
noncomputable def liNew (l : Addr) : Obj := { cls := .type "list_iterator", data := .fields #[.ref l, .int 0 0] }
theorem liNew_is (l : Addr) : IsLi (liNew l) l 0 := ⟨rfl, rfl⟩
noncomputable def riObj (x left : Int) : Obj := { cls := .type "range_iterator", data := .fields #[rawInt x, rawInt left, rawInt 1] }
section
variable {prog : Program} {w : World} {A : Around} {E : Value → Shared → Prop} {s : Shared} {g : Heap} {L : Addr} {m : Str → Option Value} {rest : List (Addr × Obj)}
theorem li_start {l : Addr} {us : List Value} {n : Nat} {Q : Value → Shared → Prop} (F : Fr g L s.heap m) (N : News g L s.heap rest) (hl : s.heap.get? l = some (listOf us.toArray n))
    (h : ∀ h' it, Fr g L h' m → News g L h' ((it, liNew l) :: rest) → (∀ b o, s.heap.get? b = some o → h'.get? b = some o ∧ b < it) → Q (.ref it) { s with heap := h' }) : wpAny (model prog w) A (pyIter (.ref l)) Q E s :=
  wpAny_pyIter_list (items := us.toArray) ⟨_, hl, rfl, n, rfl⟩ (h _ _ (F.push _) (N.push F _) (fun b o e => ⟨Heap.get?_push_of_some _ e, Heap.lt_size e⟩))
theorem li_item {it l : Addr} {oi : Obj} {i : Nat} {us : List Value} {n : Nat} {v : Value} {Q : Option Value → Shared → Prop} (F : Fr g L s.heap m) (N : News g L s.heap ((it, oi) :: rest)) (off : ∀ p ∈ rest, p.1 ≠ it) (hi : IsLi oi l i)
    (hl : s.heap.get? l = some (listOf us.toArray n)) (hv : us[i]? = some v)
    (h : ∀ h' oi', IsLi oi' l (i + 1) → Fr g L h' m → News g L h' ((it, oi') :: rest) → (∀ b o, s.heap.get? b = some o → b ≠ it → h'.get? b = some o) → Q (some v) { s with heap := h' }) : wpAny (model prog w) A (pyNext (.ref it)) Q E s := by
  refine wpAny_pyNext_list_item (l := l) (i := i) (items := us.toArray) ⟨oi, (N _ (.head _)).1, hi.1, hi.2⟩ ⟨_, hl, rfl, n, rfl⟩ (by simpa using hv) fun h' hit hs => ?_
  obtain ⟨o', ho', hc, hd⟩ := hit
  obtain ⟨F', N'⟩ := led_step F N off hs ho'
  exact h h' o' ⟨hc, hd⟩ F' N' (fun b o e hb => (hs.2 b hb).trans e)
theorem li_end {it l : Addr} {oi : Obj} {i : Nat} {us : List Value} {n : Nat} {Q : Option Value → Shared → Prop} (hh : A.handled = none) (F : Fr g L s.heap m) (N : News g L s.heap ((it, oi) :: rest)) (off : ∀ p ∈ rest, p.1 ≠ it) (hi : IsLi oi l i)
    (hl : s.heap.get? l = some (listOf us.toArray n)) (hv : us[i]? = none)
    (h : ∀ h', Fr g L h' m → News g L h' rest → (∀ b o, s.heap.get? b = some o → b ≠ it → h'.get? b = some o) → Q none { s with heap := h' }) : wpAny (model prog w) A (pyNext (.ref it)) Q E s := by
  refine wpAny_pyNext_list_end (l := l) (i := i) (items := us.toArray) hh ⟨oi, (N _ (.head _)).1, hi.1, hi.2⟩ ⟨_, hl, rfl, n, rfl⟩ (by simpa using hv) fun h' hs => ?_
  obtain ⟨F', N'⟩ := led_drop F N off hs
  exact h h' F' N' (fun b o e hb => hs b o hb e)
theorem ri_start {r : Addr} {b : Int} {t u v : Tok} {Q : Value → Shared → Prop} (F : Fr g L s.heap m) (N : News g L s.heap rest) (hr : IsRange s.heap r 0 b 1 t u v) (hb : 0 ≤ b) (hb2 : b ≤ 10000)
    (h : ∀ h' it, Fr g L h' m → News g L h' ((it, riObj 0 b) :: rest) → (∀ b o, s.heap.get? b = some o → h'.get? b = some o ∧ b < it) → Q (.ref it) { s with heap := h' }) : wpAny (model prog w) A (pyIter (.ref r)) Q E s := by
  have hz : Builtin.Range.rangeSize 0 b 1 = b := by
    unfold Builtin.Range.rangeSize
    rw [if_pos (by decide), Int.ediv_one]
    split
    · rw [Int.sub_zero, Int.sub_add_cancel]
    · exact Int.le_antisymm hb (Int.not_lt.mp ‹_›)
  refine wpAny_pyIter_range hr (by unfold Builtin.Range.small; rw [hz]; simp [Builtin.Range.rangeFitsLong]; exact ⟨⟨Int.le_trans (by decide) hb, Int.lt_of_le_of_lt hb2 (by decide)⟩, .inr ⟨Int.le_trans (by decide) hb, Int.lt_of_le_of_lt hb2 (by decide)⟩⟩) ?_
  rw [hz]
  exact h _ _ (F.push _) (N.push F _) (fun b o e => ⟨Heap.get?_push_of_some _ e, Heap.lt_size e⟩)
theorem ri_item {it : Addr} {x left : Int} {Q : Option Value → Shared → Prop} (F : Fr g L s.heap m) (N : News g L s.heap ((it, riObj x left) :: rest)) (off : ∀ p ∈ rest, p.1 ≠ it) (hl : 0 < left)
    (h : ∀ h', Fr g L h' m → News g L h' ((it, riObj (x + 1) (left - 1)) :: rest) → (∀ b o, s.heap.get? b = some o → b ≠ it → h'.get? b = some o) → Q (some (.int x s.toks)) { s with heap := h', toks := s.toks + 1 }) : wpAny (model prog w) A (pyNext (.ref it)) Q E s := by
  refine wpAny_pyNext_range_item (N _ (.head _)).1 hl fun h' hit hs => ?_
  obtain ⟨F', N'⟩ := led_step F N off hs hit
  exact h h' F' N' (fun b o e hb => (hs.2 b hb).trans e)
theorem ri_end {it : Addr} {x left : Int} {Q : Option Value → Shared → Prop} (hh : A.handled = none) (F : Fr g L s.heap m) (N : News g L s.heap ((it, riObj x left) :: rest)) (off : ∀ p ∈ rest, p.1 ≠ it) (hl : left ≤ 0)
    (h : ∀ h', Fr g L h' m → News g L h' rest → (∀ b o, s.heap.get? b = some o → b ≠ it → h'.get? b = some o) → Q none { s with heap := h' }) : wpAny (model prog w) A (pyNext (.ref it)) Q E s := by
  refine wpAny_pyNext_range_end hh (N _ (.head _)).1 hl fun h' hs => ?_
  obtain ⟨F', N'⟩ := led_drop F N off hs
  exact h h' F' N' (fun b o e hb => hs b o hb e)
end
/-- what a lexer will give: what waits on it, or what stands in its text -/
noncomputable def encE (e : List Nat × Bool) : List Nat := if e.2 = true ∧ e.1 ≠ [] then encB e.1 else encQ e.1
noncomputable def SrcOk (pb sg : List (Str × Tok)) (ws : List Str) : Prop :=
  (sg = [] ∧ pb.map (·.1) = ws) ∨ (pb = [] ∧ ∃ es : List (List Nat × Bool), sg.map (·.1) = chL (es.flatMap encE) ∧ ws = es.map (fun e => ⟨e.1.toArray⟩))
section
variable {w : World} {p : Program} {loose : List Str} {mean : ExcName → Option Value} {mg mb : Str → Option Value}
  {dp un : Nat} {gd : Option (List Code)} {cn : Str} {cs : Scope} {a : Addr} {ccd : Value} {cl : List (Str × Addr)} {outer : List Env} {A₀ : Around} {base h₀ : Heap} {L : Addr} {m : Str → Option Value} {s : Shared} {R : Result → Shared → Prop}
  (B : Below A₀ base outer h₀) (F : Fr h₀ L s.heap m) (X : (hd.heap_39 w.params).In h₀) (T : Top p loose mean mg mb h₀) (hk : cs.kind = .function)
include B F X T hk
theorem gt_src {z : Lex} (Z : LexOk z) {ln : Int} {tl : Tok} {n1 n2 : Nat} {pb sg : List (Str × Tok)} {ws : List Str} (hS : SrcOk pb sg ws) (hp : pb.length ≤ 10000) (hs : sg.length ≤ 10000) (hdp : dp + 6 < recursionLimit) (hu : un + 40 < cLine)
  (N : News h₀ L s.heap (lexLed w.params z ln tl (strValues pb) n1 (strValues sg) n2))
  (hret : ∀ t h' tk ln' tl' n1' n2' pb' sg', SrcOk pb' sg' ws.tail → pb'.length ≤ 10000 → sg'.length ≤ 10000 → Fr h₀ L h' m → News h₀ L h' (lexLed w.params z ln' tl' (strValues pb') n1' (strValues sg') n2') → (∀ b o, s.heap.get? b = some o → b ∉ lexAdr z → h'.get? b = some o) → R (.ok (.ret (.str (ws.headD (Str.ofString "")) t))) { s with heap := h', toks := tk }) :
  codeAny (model PG w) (ktrTop dp un gd cn cs L a ccd cl outer) (.call (.ref 85) ⟨[.ref z.x], []⟩) R s := by
  rcases hS with ⟨rfl, rfl⟩ | ⟨rfl, es, hsg, rfl⟩
  · cases pb with
    | nil =>
      refine gt_end B F X T hk Z hdp hu N fun t h' tk ln' tl' n2' F' N' K' => ?_
      exact hret t h' tk ln' tl' _ n2' [] [] (.inl ⟨rfl, rfl⟩) (Nat.zero_le _) (Nat.zero_le _) F' N' K'
    | cons y r =>
      refine gt_pop B F X T hk Z (sgv := []) (y := y) (r := r) (Nat.le_of_succ_le hp) hdp hu N fun h' tk n1' F' N' K' => ?_
      exact hret y.2 h' tk ln tl n1' _ r [] (.inl ⟨rfl, rfl⟩) (Nat.le_of_succ_le hp) (Nat.zero_le _) F' N' K'
  · cases es with
    | nil =>
      obtain rfl : sg = [] := by simpa [chL] using hsg
      refine gt_end B F X T hk Z hdp hu N fun t h' tk ln' tl' n2' F' N' K' => ?_
      exact hret t h' tk ln' tl' _ n2' [] [] (.inl ⟨rfl, rfl⟩) (Nat.zero_le _) (Nat.zero_le _) F' N' K'
    | cons e es =>
      obtain ⟨wd, b⟩ := e
      simp only [List.flatMap_cons, encE] at hsg
      by_cases hb : b = true ∧ wd ≠ []
      · rw [if_pos hb] at hsg
        cases wd with
        | nil => exact absurd rfl hb.2
        | cons c0 wd =>
          refine gt_bare B F X T hk Z hsg hs hdp hu N fun t h' tk ln' tl' n2' sg' hsg' F' N' K' => ?_
          refine hret t h' tk ln' tl' _ n2' [] sg' (.inr ⟨rfl, es, hsg', rfl⟩) (Nat.zero_le _) ?_ F' N' K'
          have h1 := chL_len hsg
          have h2 := chL_len hsg'
          simp only [List.length_append] at h1
          show sg'.length ≤ 10000
          change _ = List.length (List.flatMap _ es) at h2
          rw [h2]
          exact Nat.le_trans (Nat.le_trans (Nat.le_add_left _ _) (Nat.le_of_eq h1.symm)) hs
      · rw [if_neg hb] at hsg
        refine gt_quoted B F X T hk Z hsg hs hdp hu N fun t h' tk ln' tl' n2' sg' hsg' F' N' K' => ?_
        refine hret t h' tk ln' tl' _ n2' [] sg' (.inr ⟨rfl, es, hsg', rfl⟩) (Nat.zero_le _) ?_ F' N' K'
        have h1 := chL_len hsg
        have h2 := chL_len hsg'
        simp only [List.length_append] at h1
        rw [h2]
        exact Nat.le_trans (Nat.le_trans (Nat.le_add_left _ _) (Nat.le_of_eq h1.symm)) hs
end
end Mine
end
section
open PySem PySem.W PyProof.Rows PySem.Calls PySem.Spec
set_option maxRecDepth 100000
set_option maxHeartbeats 1000000
namespace Mine
noncomputable def TabOk (ps : Array Value) (cs : List (Addr × Obj)) : Prop := TriplesOk ps.toList ∧ ∀ b cv, codeAmong (lamPos b) ps.toList = some cv → ∃ c oc vs t, cv = .ref c ∧ (c, oc) ∈ cs ∧ oc.data = .fields vs ∧ vs[1]? = some (.str keyQ t)
theorem TabOk.nil : TabOk #[] [] := ⟨trivial, fun _ _ h => by cases h⟩
theorem among_app {pos q : Pos} {c cv : Value} (l : List Value) (h : TriplesOk l) (e : codeAmong q (l ++ [rawInt pos.line, rawInt pos.col, c]) = some cv) : codeAmong q l = some cv ∨ cv = c := by
  fun_induction TriplesOk l with
  | case1 =>
    simp only [List.nil_append, codeAmong, rawInt] at e
    split at e
    · exact .inr (Option.some.inj e).symm
    · cases e
  | case2 a t b u x rest ih =>
    simp only [List.cons_append, codeAmong] at e ⊢
    split at e
    · rename_i hh; rw [if_pos hh]; exact .inl e
    · rename_i hh; rw [if_neg hh]; exact ih h e
  | case3 l h1 h2 => exact h.elim
section
variable {prog : Program} {w : World} {A : Around} {E : Value → Shared → Prop} {s : Shared} {h₀ : Heap} {L : Addr} {m : Str → Option Value} {mg mb : Str → Option Value} {cn : Str} {sc : Scope} {a : Addr} {cl : List (Str × Addr)} {p : Program} {loose : List Str} {mean : ExcName → Option Value}
theorem r_lambda {b : Bool} {ps : Array Value} {rest cs : List (Addr × Obj)} {Q : Value → Shared → Prop} (F : Fr h₀ L s.heap m) (N : News h₀ L s.heap ((125, tabObj ps) :: rest)) (T : Top p loose mean mg mb h₀) (C : CodeHd h₀ 127 125) (off : ∀ p ∈ rest, p.1 ≠ 125) (ok : TabOk ps cs) (hcs : ∀ p ∈ cs, p ∈ rest)
    (hdef : defaultsOf (lamP b) (envX cn sc L a (.ref 127) cl) = ([], [])) (hcl : closureFor (lamS b) (envX cn sc L a (.ref 127) cl) = pure []) (hq : (envX cn sc L a (.ref 127) cl).qual ++ Str.ofString "<lambda>" = keyQ)
    (h : ∀ f c' oc vs t ctv ps' cs' h' tk, (∀ q ∈ rest, q.1 < f) → TabOk ps' cs' → (c', oc) ∈ cs' → oc.data = .fields vs → vs[1]? = some (.str keyQ t) → (∀ p ∈ cs', p ∈ cs ∨ ∀ q ∈ rest, q.1 < p.1) →
      Fr h₀ L h' m → News h₀ L h' ((f, keyObj b ((mg (Str.ofString "__name__")).getD .none) c' ctv) :: (125, tabObj ps') :: rest) → News h₀ L h' cs' → Q (.ref f) { s with heap := h', toks := tk }) :
    wpAny (model prog w) A (eval (.Lambda (lamP b) (lamB b) (lamS b) (lamPos b)) (envX cn sc L a (.ref 127) cl)) Q E s := by
  refine kla_eval hdef ?_
  show wpAny _ A (makeFunction (Str.ofString "<lambda>") ((envX cn sc L a (.ref 127) cl).qual ++ Str.ofString "<lambda>") (lamP b) (.expr (lamB b)) (lamS b) (envX cn sc L a (.ref 127) cl) [] [] [] (lamPos b) (lamPos b).line) Q E s
  rw [hq]
  cases hc : codeAmong (lamPos b) ps.toList with
  | none =>
    refine kla_nest F N T C rfl (UpdF.head off) ok.1 hc hcl ?_
    intro f c' oc vs t ctv h' tk F' N' d1 d2 l1 l2
    refine h f c' oc vs t ctv (ps ++ #[rawInt (lamPos b).line, rawInt (lamPos b).col, .ref c']) ((c', oc) :: cs) h' tk (fun q hq => Nat.lt_trans (l1 q (.tail _ hq)) l2) (And.intro ?_ ?_) (.head _) d1 d2 ?_ F' ?_ ?_
    · simp only [Array.toList_append]
      exact TriplesOk_snoc _ _ _ _ ok.1
    · intro b' cv e
      simp only [Array.toList_append] at e
      rcases among_app (pos := lamPos b) ps.toList ok.1 e with e | rfl
      · obtain ⟨c, oc2, vs2, t2, e1, e2, e3, e4⟩ := ok.2 b' cv e
        exact ⟨c, oc2, vs2, t2, e1, .tail _ e2, e3, e4⟩
      · exact ⟨c', oc, vs, t, rfl, .head _, d1, d2⟩
    · intro p hp
      rcases List.mem_cons.mp hp with rfl | hp
      · exact .inr fun q hq => l1 q (.tail _ hq)
      · exact .inl hp
    · intro p hp
      rcases List.mem_cons.mp hp with rfl | hp
      · exact N' _ (.head _)
      · exact N' _ (.tail _ (.tail _ hp))
    · intro p hp
      rcases List.mem_cons.mp hp with rfl | hp
      · exact N' _ (.tail _ (.head _))
      · exact N' _ (.tail _ (.tail _ (.tail _ (hcs p hp))))
  | some cv =>
    obtain ⟨c', oc, vs, t, rfl, hm, d1, d2⟩ := ok.2 b cv hc
    refine kla_hit F N T C rfl (.head _) ok.1 hc hcl ?_
    intro f ctv h' tk F' N' l1
    exact h f c' oc vs t ctv ps cs h' tk (fun q hq => l1 q (.tail _ hq)) ok hm d1 d2 (fun p hp => .inl hp) F' N' (fun p hp => N' _ (.tail _ (.tail _ (hcs p hp))))
end
end Mine
end
section
open PySem PySem.W PyProof.Rows PySem.Calls PySem.Spec
set_option maxRecDepth 100000
set_option maxHeartbeats 1000000
namespace Mine
structure TP where
  (g : Heap) (L : Addr) (s0 : Shared) (mm : Str → Option Value) (z : Lex) (P : Params) (n : Nat) (tn : Tok) (lt : Addr) (oc : Obj) (tv : List (Int × Tok)) (words : Nat → List Str)
noncomputable abbrev toldM (t : TP) (lv rv pv wv : Option Value) : Str → Option Value := fun y => if y = Str.ofString "left" then lv else if y = Str.ofString "row" then rv else if y = Str.ofString "place" then pv else if y = Str.ofString "word" then wv else if y = Str.ofString "many" then some (.int (t.n : Int) t.tn) else if y = Str.ofString "turns" then some (.ref t.lt) else t.mm y
theorem toldM_start {t : TP} {f0 : Str → Option Value} (e : t.mm = f0) (h1 : f0 (Str.ofString "many") = some (.int (t.n : Int) t.tn)) (h2 : f0 (Str.ofString "turns") = some (.ref t.lt)) :
    ∀ y, f0 y = toldM t (f0 (Str.ofString "left")) (f0 (Str.ofString "row")) (f0 (Str.ofString "place")) (f0 (Str.ofString "word")) y := by
  intro y
  unfold toldM
  (repeat' split) <;> first | (rename_i q; rw [q]; done) | (rename_i q; rw [q]; assumption) | rw [e]
theorem toldM_next {t : TP} {g h : Heap} {L : Addr} {f : Str → Option Value} (F : Fr g L h f)
    (h3 : ∀ y, y ≠ Str.ofString "left" → y ≠ Str.ofString "row" → y ≠ Str.ofString "place" → y ≠ Str.ofString "word" → f y = (if y = Str.ofString "many" then some (.int (t.n : Int) t.tn) else if y = Str.ofString "turns" then some (.ref t.lt) else t.mm y)) :
    Fr g L h (toldM t (f (Str.ofString "left")) (f (Str.ofString "row")) (f (Str.ofString "place")) (f (Str.ofString "word"))) := by
  refine fr_congr F fun y => ?_
  by_cases e1 : y = Str.ofString "left"
  · rw [e1]; simp [toldM]
  · by_cases e2 : y = Str.ofString "row"
    · rw [e2]; simp [toldM, show ¬ Str.ofString "row" = Str.ofString "left" by decide +kernel]
    · by_cases e3 : y = Str.ofString "place"
      · rw [e3]; simp [toldM, show ¬ Str.ofString "place" = Str.ofString "left" by decide +kernel, show ¬ Str.ofString "place" = Str.ofString "row" by decide +kernel]
      · by_cases e4 : y = Str.ofString "word"
        · rw [e4]; simp [toldM, show ¬ Str.ofString "word" = Str.ofString "left" by decide +kernel, show ¬ Str.ofString "word" = Str.ofString "row" by decide +kernel, show ¬ Str.ofString "word" = Str.ofString "place" by decide +kernel]
        · rw [h3 y e1 e2 e3 e4]; simp only [toldM, if_neg e1, if_neg e2, if_neg e3, if_neg e4]
noncomputable def tvV (tv : List (Int × Tok)) : List Value := tv.map fun p => .int p.1 p.2
noncomputable abbrev LB (t : TP) (ps : Array Value) (ln : Int) (tl : Tok) (pb : List (Str × Tok)) (n1 : Nat) (sg : List (Str × Tok)) (n2 : Nat) (cs : List (Addr × Obj)) : List (Addr × Obj) :=
  (125, tabObj ps) :: (t.L + 1, t.oc) :: (lexLed t.P t.z ln tl (strValues pb) n1 (strValues sg) n2 ++ cs)
noncomputable def LtL (t : TP) : Prop := @LT.lt Nat _ 125 t.L ∧ @LT.lt Nat _ t.z.dx t.L ∧ @LT.lt Nat _ t.z.pb t.L ∧ @LT.lt Nat _ t.z.sg t.L ∧ @LT.lt Nat _ t.z.x t.L ∧ @LT.lt Nat _ t.z.sD t.L ∧ @LT.lt Nat _ t.z.st t.L ∧ @LT.lt Nat _ t.z.rd t.L ∧ @LT.lt Nat _ t.z.c1 t.L ∧ @LT.lt Nat _ t.z.cell t.L
theorem mem_LB {t : TP} {ps : Array Value} {ln : Int} {tl : Tok} {pb sg : List (Str × Tok)} {n1 n2 : Nat} {cs : List (Addr × Obj)} (H : LtL t) {p : Addr × Obj} (hp : p ∈ LB t ps ln tl pb n1 sg n2 cs) : @LT.lt Nat _ p.1 (t.L + 2) ∨ p ∈ cs := by
  obtain ⟨h1, h2, h3, h4, h5, h6, h7, h8, h9, h10⟩ := H
  simp only [LB, lexLed, List.mem_cons, List.mem_append, List.not_mem_nil, or_false] at hp
  rcases hp with rfl | rfl | (rfl | rfl | rfl | rfl | rfl | rfl | rfl | rfl | rfl) | hp
  all_goals first | exact .inr hp | (refine .inl (Nat.lt_add_right 2 ?_); assumption) | exact .inl (Nat.lt_succ_self _)
theorem off_LB {t : TP} {ps : Array Value} {ln : Int} {tl : Tok} {pb sg : List (Str × Tok)} {n1 n2 : Nat} {cs : List (Addr × Obj)} (H : LtL t) {x : Addr} (hx : @LT.lt Nat _ (t.L + 1) x) (hc : ∀ p ∈ cs, p.1 ≠ x) : ∀ p ∈ LB t ps ln tl pb n1 sg n2 cs, p.1 ≠ x := by
  intro p hp e
  rcases mem_LB H hp with h | h
  · exact Nat.lt_irrefl _ (Nat.lt_of_lt_of_le hx (Nat.le_of_lt_succ (e ▸ h)))
  · exact hc p h e
inductive TOut (t : TP) (ito : Addr) (j : Nat) (s : Shared) : Prop
  | mk (h : _) (tk : _) (lv : _) (rv : _) (pv : _) (wv : _) (oi : _) (ps : _) (cs : _) (ln : _) (tl : _) (pb : _) (n1 : _) (sg : _) (n2 : _) (x0 : s = { t.s0 with heap := h, toks := tk }) (x1 : Fr t.g t.L h (toldM t lv rv pv wv)) (x2 : News t.g t.L h ((ito, oi) :: LB t ps ln tl pb n1 sg n2 cs)) (x3 : IsLi oi t.lt j) (x4 : TabOk ps cs) (x5 : (∀ p ∈ cs, @LT.lt Nat _ (t.L + 1) p.1 ∧ p.1 ≠ ito)) (x6 : SrcOk pb sg (t.words j)) (x7 : pb.length ≤ 10000) (x8 : sg.length ≤ 10000) (x9 : j ≤ t.tv.length) : TOut t ito j s
end Mine
end
section
open PySem PySem.W PyProof.Rows PySem.Calls PySem.Spec
set_option maxRecDepth 100000
set_option maxHeartbeats 1000000
namespace Mine
noncomputable def insKS (left : Bool) (x v : Str) : Bool := if left then ltB (stripS v) (stripS x) else !ltB (stripS x) (stripS v)
noncomputable def insS (left : Bool) (x : Str) (ws : List Str) : List Str := ws.takeWhile (insKS left x) ++ x :: ws.dropWhile (insKS left x)
noncomputable def rowOf (left : Bool) (ws : List Str) : List Str := ws.foldl (fun r x => insS left x r) []
noncomputable def passS (left : Bool) (ws : List Str) : List Str := (rowOf left ws).map turnS
theorem insT_map (left : Bool) (x : Str × Tok) (ws : List (Str × Tok)) : (insT left x ws).map (·.1) = insS left x.1 (ws.map (·.1)) := by
  have h : ∀ ws : List (Str × Tok), (ws.takeWhile (insK left x.1)).map (·.1) = (ws.map (·.1)).takeWhile (insKS left x.1) ∧ (ws.dropWhile (insK left x.1)).map (·.1) = (ws.map (·.1)).dropWhile (insKS left x.1) := by
    intro ws
    induction ws with
    | nil => exact ⟨rfl, rfl⟩
    | cons w ws ih =>
      have e : insK left x.1 w = insKS left x.1 w.1 := rfl
      simp only [List.map_cons, List.takeWhile, List.dropWhile, e]
      cases insKS left x.1 w.1 <;> simp [ih]
  unfold insT insS
  rw [List.map_append, List.map_cons, (h ws).1, (h ws).2]
theorem ltB_iff (x y : Str) : ltB x y = true ↔ x.cps.toList < y.cps.toList := by unfold ltB; exact decide_eq_true_iff
theorem ltB_irrefl (x : Str) : ltB x x = false := by
  cases h : ltB x x with
  | false => rfl
  | true => exact absurd ((ltB_iff _ _).mp h) (List.lt_irrefl _)
theorem ltB_trans {x y z : Str} (h1 : ltB x y = true) (h2 : ltB y z = true) : ltB x z = true := (ltB_iff _ _).mpr (List.lt_trans ((ltB_iff _ _).mp h1) ((ltB_iff _ _).mp h2))
theorem ltB_total {x y : Str} (h1 : ltB x y = false) (h2 : ltB y x = false) : x = y := by
  have a : ¬ x.cps.toList < y.cps.toList := fun q => by rw [(ltB_iff _ _).mpr q] at h1; cases h1
  have b : ¬ y.cps.toList < x.cps.toList := fun q => by rw [(ltB_iff _ _).mpr q] at h2; cases h2
  have e : x.cps.toList = y.cps.toList := List.le_antisymm (List.not_lt.mp b) (List.not_lt.mp a)
  exact Str.ext' (Array.toList_inj.mp e)
theorem ltB_asymm {x y : Str} (h : ltB x y = true) : ltB y x = false := by
  cases h2 : ltB y x with
  | false => rfl
  | true => have := ltB_trans h h2; rw [ltB_irrefl] at this; cases this
theorem ltB_of_le_lt {x y z : Str} (h1 : ltB y x = false) (h2 : ltB y z = true) : ltB x z = true := by
  cases h : ltB x y with
  | true => exact ltB_trans h h2
  | false => rw [ltB_total h h1]; exact h2
theorem ltB_of_lt_le {x y z : Str} (h1 : ltB x y = true) (h2 : ltB z y = false) : ltB x z = true := by
  cases h : ltB y z with
  | true => exact ltB_trans h1 h
  | false => rw [← ltB_total h h2]; exact h1
/-- no later key below an earlier one -/
noncomputable def SortedK (ws : List Str) : Prop := ws.Pairwise fun a b => ltB (stripS b) (stripS a) = false
theorem insKS_mono {left : Bool} {x a b : Str} (h : ltB (stripS b) (stripS a) = false) (hb : insKS left x b = true) : insKS left x a = true := by
  unfold insKS at hb ⊢
  cases left with
  | true =>
    rw [if_pos rfl] at hb ⊢
    exact ltB_of_le_lt h hb
  | false =>
    rw [if_neg (by decide)] at hb ⊢
    simp only [Bool.not_eq_true'] at hb ⊢
    cases hxa : ltB (stripS x) (stripS a) with
    | false => rfl
    | true => rw [ltB_of_lt_le hxa h] at hb; cases hb
theorem insK_down {left : Bool} {x : Str} {ws : List (Str × Tok)} (hs : SortedK (ws.map (·.1))) : ∀ (i j : Nat) vi vj, i ≤ j → ws[i]? = some vi → ws[j]? = some vj → insK left x vj = true → insK left x vi = true := by
  intro i j vi vj hij hi hj h
  rcases Nat.lt_or_eq_of_le hij with hlt | rfl
  · have hp := List.pairwise_iff_getElem.mp hs i j
    obtain ⟨hi1, hi2⟩ := List.getElem?_eq_some_iff.mp hi
    obtain ⟨hj1, hj2⟩ := List.getElem?_eq_some_iff.mp hj
    have := hp (by simpa using hi1) (by simpa using hj1) hlt
    simp only [List.getElem_map, hi2, hj2] at this
    exact insKS_mono this h
  · rw [hi] at hj; cases hj; exact h
theorem mem_takeWhile_true {α : Type} {P : α → Bool} : ∀ {l : List α} {a : α}, a ∈ l.takeWhile P → P a = true
  | [], _, h => by cases h
  | b :: l, a, h => by
    cases hb : P b with
    | false => simp [List.takeWhile, hb] at h
    | true =>
      simp only [List.takeWhile, hb, List.mem_cons] at h
      rcases h with rfl | h
      · exact hb
      · exact mem_takeWhile_true h
theorem dropWhile_head {α : Type} {P : α → Bool} : ∀ {l : List α} {a : α} {r : List α}, l.dropWhile P = a :: r → P a = false
  | [], _, _, h => by cases h
  | b :: l, a, r, h => by
    cases hb : P b with
    | false => simp only [List.dropWhile, hb] at h; cases h; exact hb
    | true => simp only [List.dropWhile, hb] at h; exact dropWhile_head h
theorem insS_sorted {left : Bool} {x : Str} {ws : List Str} (hs : SortedK ws) : SortedK (insS left x ws) := by
  unfold insS SortedK
  have hsplit : ws.takeWhile (insKS left x) ++ ws.dropWhile (insKS left x) = ws := List.takeWhile_append_dropWhile
  have hs' := hs
  unfold SortedK at hs'
  rw [← hsplit, List.pairwise_append] at hs'
  obtain ⟨h1, h2, h3⟩ := hs'
  have hx : ∀ a ∈ ws.dropWhile (insKS left x), insKS left x a = false := by
    intro a ha
    cases hd : ws.dropWhile (insKS left x) with
    | nil => rw [hd] at ha; cases ha
    | cons b r =>
      have hb := dropWhile_head hd
      rw [hd] at ha h2
      rcases List.mem_cons.mp ha with rfl | ha
      · exact hb
      · cases hh : insKS left x a with
        | false => rfl
        | true => rw [insKS_mono ((List.pairwise_cons.mp h2).1 a ha) hh] at hb; cases hb
  rw [List.pairwise_append, List.pairwise_cons]
  refine ⟨h1, ⟨fun a ha => ?_, h2⟩, fun a ha b hb => ?_⟩
  · have := hx a ha
    unfold insKS at this
    cases left with
    | true => rw [if_pos rfl] at this; exact this
    | false => rw [if_neg (by decide)] at this; simp only [Bool.not_eq_false'] at this; exact ltB_asymm this
  · rcases List.mem_cons.mp hb with rfl | hb
    · have := mem_takeWhile_true ha
      unfold insKS at this
      cases left with
      | true => rw [if_pos rfl] at this; exact ltB_asymm this
      | false => rw [if_neg (by decide)] at this; simpa using this
    · exact h3 a ha b hb
theorem rowOf_sorted (left : Bool) (ws : List Str) : SortedK (rowOf left ws) := by
  unfold rowOf
  have : ∀ (ws r : List Str), SortedK r → SortedK (ws.foldl (fun r x => insS left x r) r) := by
    intro ws
    induction ws with
    | nil => intro r h; exact h
    | cons w ws ih => intro r h; exact ih _ (insS_sorted h)
  exact this ws [] .nil
theorem rowOf_snoc (left : Bool) (ws : List Str) (x : Str) : rowOf left (ws ++ [x]) = insS left x (rowOf left ws) := by
  unfold rowOf
  rw [List.foldl_append]; rfl
theorem insS_mem {left : Bool} {x y : Str} {ws : List Str} : y ∈ insS left x ws ↔ y = x ∨ y ∈ ws := by
  unfold insS
  have hsplit : ws.takeWhile (insKS left x) ++ ws.dropWhile (insKS left x) = ws := List.takeWhile_append_dropWhile
  constructor
  · intro h
    rcases List.mem_append.mp h with h | h
    · exact .inr (hsplit ▸ List.mem_append_left _ h)
    · rcases List.mem_cons.mp h with h | h
      · exact .inl h
      · exact .inr (hsplit ▸ List.mem_append_right _ h)
  · rintro (rfl | h)
    · exact List.mem_append_right _ (.head _)
    · rw [← hsplit] at h
      rcases List.mem_append.mp h with h | h
      · exact List.mem_append_left _ h
      · exact List.mem_append_right _ (.tail _ h)
theorem rowOf_mem {left : Bool} {y : Str} {ws : List Str} : y ∈ rowOf left ws ↔ y ∈ ws := by
  unfold rowOf
  have : ∀ (ws r : List Str), y ∈ ws.foldl (fun r x => insS left x r) r ↔ y ∈ ws ∨ y ∈ r := by
    intro ws
    induction ws with
    | nil => intro r; simp
    | cons w ws ih =>
      intro r
      rw [List.foldl_cons, ih, insS_mem, List.mem_cons]
      constructor
      · rintro (h | h | h)
        · exact .inl (.inr h)
        · exact .inl (.inl h)
        · exact .inr h
      · rintro ((h | h) | h)
        · exact .inr (.inl h)
        · exact .inl h
        · exact .inr (.inr h)
  rw [this]; simp
theorem insS_length (left : Bool) (x : Str) (ws : List Str) : (insS left x ws).length = ws.length + 1 := by
  unfold insS
  have h := congrArg List.length (List.takeWhile_append_dropWhile (p := insKS left x) (l := ws))
  rw [List.length_append] at h
  rw [List.length_append, List.length_cons]; omega
theorem rowOf_length (left : Bool) (ws : List Str) : (rowOf left ws).length = ws.length := by
  unfold rowOf
  have : ∀ (ws r : List Str), (ws.foldl (fun r x => insS left x r) r).length = ws.length + r.length := by
    intro ws
    induction ws with
    | nil => intro r; simp
    | cons w ws ih => intro r; rw [List.foldl_cons, ih, insS_length, List.length_cons]; omega
  rw [this]; simp
theorem swapLex {t : TP} {g h h' : Heap} {L : Addr} {pre cs : List (Addr × Obj)} {ps : Array Value} {ln ln' : Int} {tl tl' : Tok} {pb sg pb' sg' : List (Str × Tok)} {n1 n2 n1' n2' : Nat} (Z : LexOk t.z) (hz : @LT.lt Nat _ 125 t.z.cell) (H : LtL t)
    (N : News g L h (pre ++ LB t ps ln tl pb n1 sg n2 cs)) (N' : News g L h' (lexLed t.P t.z ln' tl' (strValues pb') n1' (strValues sg') n2')) (K : ∀ b o, h.get? b = some o → b ∉ lexAdr t.z → h'.get? b = some o)
    (hp : ∀ p ∈ pre, @LT.lt Nat _ t.L p.1) (hc : ∀ p ∈ cs, @LT.lt Nat _ t.L p.1) : News g L h' (pre ++ LB t ps ln' tl' pb' n1' sg' n2' cs) := by
  have h3 := H.2.2.1
  have big : ∀ b : Nat, @LT.lt Nat _ t.L b → b ∉ lexAdr t.z := fun b hb => lex_not_above Z (Nat.lt_trans h3 hb)
  have sml : (125 : Nat) ∉ lexAdr t.z := lex_not_below Z hz
  have old : ∀ p ∈ pre ++ LB t ps ln tl pb n1 sg n2 cs, p.1 ∉ lexAdr t.z → h'.get? p.1 = some p.2 ∧ p.1 ≠ L ∧ g.get? p.1 = none := fun p hp hn => ⟨K _ _ (N p hp).1 hn, (N p hp).2⟩
  intro p hpm
  rcases List.mem_append.mp hpm with hpm | hpm
  · exact old p (List.mem_append_left _ hpm) (big _ (hp p hpm))
  · rcases List.mem_cons.mp hpm with rfl | hpm
    · exact old _ (List.mem_append_right _ (.head _)) sml
    · rcases List.mem_cons.mp hpm with rfl | hpm
      · exact old _ (List.mem_append_right _ (.tail _ (.head _))) (big _ (Nat.lt_succ_self _))
      · rcases List.mem_append.mp hpm with hpm | hpm
        · exact N' p hpm
        · exact old p (List.mem_append_right _ (.tail _ (.tail _ (List.mem_append_right _ hpm)))) (big _ (hc p hpm))
inductive TRow (t : TP) (lf : Int × Tok) (ito itr rowA : Addr) (oi : Obj) (j : Nat) (k : Nat) (s : Shared) : Prop
  | mk (h : _) (tk : _) (pv : _) (wv : _) (ps : _) (cs : _) (ln : _) (tl : _) (pb : _) (n1 : _) (sg : _) (n2 : _) (rw : _) (nr : _) (x0 : s = { t.s0 with heap := h, toks := tk }) (x1 : Fr t.g t.L h (toldM t (some (.int lf.1 lf.2)) (some (.ref rowA)) pv wv)) (x2 : News t.g t.L h ((itr, riObj (k : Int) ((t.n : Int) - (k : Int))) :: (rowA, listOf (strValues rw).toArray nr) :: (ito, oi) :: LB t ps ln tl pb n1 sg n2 cs)) (x3 : TabOk ps cs) (x4 : (∀ p ∈ cs, @LT.lt Nat _ (t.L + 1) p.1 ∧ p.1 ≠ ito ∧ p.1 ≠ rowA ∧ p.1 ≠ itr)) (x5 : SrcOk pb sg ((t.words j).drop k)) (x6 : rw.map (·.1) = rowOf (lf.1 == 1) ((t.words j).take k)) (x7 : pb.length ≤ 10000) (x8 : sg.length ≤ 10000) (x9 : k ≤ t.n) : TRow t lf ito itr rowA oi j k s
end Mine
end
section
open PySem PySem.W PyProof.Rows PySem.Calls PySem.Spec
set_option maxRecDepth 100000
set_option maxHeartbeats 1000000
namespace Mine
theorem lex_above {P : Params} {z : Lex} {ln : Int} {tl : Tok} {pbv sgv : List Value} {n1 n2 : Nat} {b : Nat} (Z : LexOk z) (hz : @LT.lt Nat _ b z.cell) : ∀ p ∈ lexLed P z ln tl pbv n1 sgv n2, @LT.lt Nat _ b p.1 := by
  intro p hp
  have h1 : p.1 ∈ lexAdr z := List.mem_map_of_mem (f := fun x : Addr × Obj => x.1) hp
  exact Nat.lt_of_lt_of_le hz (lexAdr_ge Z _ h1)
theorem riObj_succ (k n : Nat) : riObj ((k : Int) + 1) ((n : Int) - (k : Int) - 1) = riObj ((k + 1 : Nat) : Int) ((n : Int) - ((k + 1 : Nat) : Int)) := by
  rw [Int.natCast_succ, Int.sub_sub]
inductive TPush (t : TP) (ito itw rowA : Addr) (oi : Obj) (rw : List (Str × Tok)) (nr : Nat) (i : Nat) (s : Shared) : Prop
  | mk (h : _) (tk : _) (lv : _) (rv : _) (pv : _) (wv : _) (ow : _) (ps : _) (cs : _) (ln : _) (tl : _) (pb : _) (n1 : _) (n2 : _) (x0 : s = { t.s0 with heap := h, toks := tk }) (x1 : Fr t.g t.L h (toldM t lv rv pv wv)) (x2 : News t.g t.L h ((itw, ow) :: (rowA, listOf (strValues rw).toArray nr) :: (ito, oi) :: LB t ps ln tl pb n1 [] n2 cs)) (x3 : IsLi ow rowA i) (x4 : TabOk ps cs) (x5 : (∀ p ∈ cs, @LT.lt Nat _ (t.L + 1) p.1 ∧ p.1 ≠ ito ∧ p.1 ≠ rowA ∧ p.1 ≠ itw)) (x6 : pb.map (·.1) = (rw.take i).map (fun v => turnS v.1)) (x7 : pb.length = i) (x8 : i ≤ rw.length) : TPush t ito itw rowA oi rw nr i s
theorem SrcOk.nil_of {pb sg : List (Str × Tok)} (h : SrcOk pb sg []) : pb = [] ∧ sg = [] := by
  rcases h with ⟨rfl, h⟩ | ⟨rfl, es, h, he⟩
  · exact ⟨by simpa using h, rfl⟩
  · have : es = [] := by cases es with
      | nil => rfl
      | cons _ _ => simp at he
    subst this
    refine ⟨rfl, ?_⟩
    simpa [chL] using h
end Mine
end
section
open PySem PySem.W PyProof.Rows PySem.Calls PySem.Spec
set_option maxRecDepth 100000
set_option maxHeartbeats 1000000
namespace Mine
section
variable {prog : Program} {w : World} {A : Around} {E : Value → Shared → Prop} {s : Shared} {env : Env} {elt target iter : PySem.Expr} {ifs : List PySem.Expr} {scope : Scope} {pos : Pos}
theorem comp_assign {y : Str} {py spos : Pos} {Q : Flow → Shared → Prop} {cl : List (Str × Addr)} (hsw : swapsWith (.ListComp elt [⟨target, iter, ifs, 0⟩] scope pos) (some (.Name y py)) spos.line env = pure true)
    (hclos : closureFor scope env = pure cl) (hcell : ∀ y ∈ scope.names, y.2 ≠ .cell) (hkind : scope.kind = .function) (hnames : ∀ x ∈ scope.names, x.2 = .local → scope.names.lookup x.1 = some .local)
    (h : wpAny (model prog w) A (eval iter env) (fun xv s₁ => wpAny (model prog w) A (pyIter xv) (fun it s₂ => ∀ C h₁ tk, s₂.heap.objs.size < C → h₁.get? s₂.heap.objs.size = some (listOf [].toArray 0) → h₁.Ns C (fun _ => none) → (∀ b o, s₂.heap.get? b = some o → h₁.get? b = some o) →
      wpAny (model prog w) A (pyIter it) (fun it' s₃ => it' = it ∧ s₃ = { s₂ with heap := h₁, toks := tk }) noE { s₂ with heap := h₁, toks := tk } ∧
      CompRest prog w A (compEnvC scope cl C env) elt target iter ifs scope pos it (.ref s₂.heap.objs.size) (fun s' => wpAny (model prog w) A (storeName env y (.ref s₂.heap.objs.size)) (fun _ s'' => ∃ m, s''.heap.Ns C m ∧ ∀ h', Heap.SameBut C s''.heap h' → Q .next { s'' with heap := h' }) E s') { s₂ with heap := h₁, toks := tk }) E s₁) E s)
    (hs : ∀ x, foldedSetIterable iter env x = pure x := by intro _; rfl) :
    wpAny (model prog w) A (exec (.Assign [.Name y py] (.ListComp elt [⟨target, iter, ifs, 0⟩] scope pos) spos) env) Q E s := by
  rw [exec_Assign_Name_used _ _ _ _ hsw]
  refine wpAny_bind (wpAny_standAt (wpAny_bind ?_))
  show wpAny _ A (do let _ ← comprehension (.ListComp elt [⟨target, iter, ifs, 0⟩] scope pos) scope env _ (newList []) false (eval iter env) (some (assign (.Name y py) env))) _ _ s
  refine wpAny_bind (wpAny_mono (wpAny_comprehension_free (g := ⟨target, iter, ifs, 0⟩) (gs := []) (use := some (assign (.Name y py) env)) (Q := fun _ s' => Q .next s') rfl hs hclos hkind hnames
    (wpAny_mono h (fun xv s₁ h₁ => wpAny_mono h₁ (fun it s₂ h₂ => ?_) fun _ _ x => x) fun _ _ x => x)) (fun _ s' hq => wpAny_pure (wpAny_pure hq)) fun _ _ e => e)
  refine wpAny_newObj_type (wpAny_newFunctionEnv hcell (by intro y hy; simp at hy) (fun h₁ hns₁ hsb₁ => ?_) hkind)
  dsimp only at hns₁ hsb₁ ⊢
  have hC : (s₂.heap.push { cls := .type "list", dict := none, data := .seq ([] : List Value).toArray }).objs.size = s₂.heap.objs.size + 1 := Heap.size_push ..
  have old : ∀ b o, (s₂.heap.push { cls := .type "list", dict := none, data := .seq ([] : List Value).toArray }).get? b = some o → h₁.get? b = some o := fun b o e => hsb₁.extBut b o (Nat.ne_of_lt (Heap.lt_size e)) (Heap.get?_push_of_some _ e)
  obtain ⟨hit, hr⟩ := h₂ _ h₁ _ (by rw [hC]; exact Nat.lt_succ_self _) (old _ _ (Heap.get?_push_size _ rfl)) hns₁ (fun b o e => old b o (Heap.get?_push_of_some _ e))
  have hr' : codeAny (model prog w) A (.compLoop (.ListComp elt [⟨target, iter, ifs, 0⟩] scope pos) 0 it (.ref s₂.heap.objs.size) (compEnvC scope cl (s₂.heap.push { cls := .type "list", dict := none, data := .seq ([] : List Value).toArray }).objs.size env))
      (compPost (model prog w) A E (some (assign (.Name y py) env)) (fun _ s' => Q .next s') (.ref s₂.heap.objs.size) (s₂.heap.push { cls := .type "list", dict := none, data := .seq ([] : List Value).toArray }).objs.size) _ :=
    codeAny_mono hr fun r s' hr => by
      match r with
      | .ok .next => exact wpAny_assign_Name hr
      | .ok .brk => exact hr.elim
      | .ok .cont => exact hr.elim
      | .ok (.ret _) => exact hr.elim
      | .error _ => exact hr.elim
  exact codeAny_compStart_list hr' (wpAny_mono hit (fun it' s₃ he => by obtain ⟨rfl, rfl⟩ := he; exact hr') fun _ _ h' => h'.elim)
end
end Mine
end
section
open PySem PySem.W PyProof.Rows PySem.Calls PySem.Spec
set_option maxRecDepth 100000
set_option maxHeartbeats 1000000
namespace Mine
theorem comp_store {prog : Program} {w : World} {A : Around} {E : Value → Shared → Prop} {s : Shared} {g : Heap} {L C : Addr} {m mC : Str → Option Value} {oC : Obj} {rest : List (Addr × Obj)} {scope : Scope} {cl : List (Str × Addr)} {env : Env} {y : Str} {v : Value} {Q : Unit → Shared → Prop}
    (F : Fr g L s.heap m) (N : News g L s.heap ((C, oC) :: rest)) (off : ∀ p ∈ rest, p.1 ≠ C) (hC : LCg.NsObj oC mC) (hy : (compEnvC scope cl C env).kindOf y = some .local)
    (h : ∀ h' oC', LCg.NsObj oC' (fun x => if x = y then some v else mC x) → Fr g L h' m → News g L h' ((C, oC') :: rest) → Q () { s with heap := h', toks := s.toks + 1 })
    (hp : ((compEnvC scope cl C env).scope.kind == .class || ((compEnvC scope cl C env).scope.kind == .module && (compEnvC scope cl C env).locals != (compEnvC scope cl C env).globals)) = false := by rfl) :
    wpAny (model prog w) A (storeName (compEnvC scope cl C env) y v) Q E s := by
  refine wpAny_storeName_local hy (hC.ns (N _ (.head _)).1) (fun h' hn hs => ?_) hp
  obtain ⟨o', e, hO⟩ := LCg.ns_obj hn
  obtain ⟨F', N'⟩ := led_step F N off hs e
  exact h h' o' hO F' N'
inductive TComp (t : TP) (itr acc C : Addr) (k : Nat) (s : Shared) : Prop
  | mk (h : _) (tk : _) (lv : _) (rv : _) (pv : _) (wv : _) (oC : _) (mC : _) (ps : _) (cs : _) (ln : _) (tl : _) (pb : _) (n1 : _) (sg : _) (n2 : _) (l : _) (nl : _) (x0 : s = { t.s0 with heap := h, toks := tk }) (x1 : Fr t.g t.L h (toldM t lv rv pv wv)) (x2 : News t.g t.L h ((C, oC) :: (acc, listOf (strValues l).toArray nl) :: (itr, riObj (k : Int) ((t.n : Int) - (k : Int))) :: LB t ps ln tl pb n1 sg n2 cs)) (x3 : LCg.NsObj oC mC) (x4 : (∀ p ∈ cs, @LT.lt Nat _ (t.L + 1) p.1 ∧ @LT.lt Nat _ p.1 itr)) (x5 : SrcOk pb sg ((t.words t.tv.length).drop k)) (x6 : l.map (·.1) = (t.words t.tv.length).take k) (x7 : pb.length ≤ 10000) (x8 : sg.length ≤ 10000) (x9 : k ≤ t.n) : TComp t itr acc C k s
end Mine
end
section
open PySem PySem.W PyProof.Rows PySem.Calls PySem.Spec
set_option maxRecDepth 100000
set_option maxHeartbeats 1000000
namespace Mine
theorem reader_pack {g h : Heap} {L : Addr} {P : Params} {xl x d D f c f1 c1 D1 cell : Addr} {oc oc1 oc0 : Obj} {k' : Int} {n' n0 : Nat} {fS : FuncData} {dc pm ct : Value} {l : List (Str × Tok)} {t1 t2 t3 t4 tw tS tl : Tok} {rest : List (Addr × Obj)}
    (N : News g L h ((xl, listOf #[] 0) :: (x, instObj 95 d) :: (d, dictOf [⟨PyData.keyHash P (Str.ofString "lineno"), .str (Str.ofString "lineno") t1, .int 1 tl⟩, ⟨PyData.keyHash P (Str.ofString "instream"), .str (Str.ofString "instream") t2, .ref f⟩, ⟨PyData.keyHash P (Str.ofString "whitespace"), .str (Str.ofString "whitespace") t3, .str (Str.ofString "\n\t\r ") tw⟩, ⟨PyData.keyHash P (Str.ofString "pushback"), .str (Str.ofString "pushback") t4, .ref xl⟩] 4) ::
      (D, dictOf [⟨k', .str (Str.ofString "read") tS, .ref f1⟩] n') :: (f, { cls := .type "function", data := .func fS, dict := some D }) :: (c, oc) :: (f1, fnMade (Str.ofString "read") (Str.ofString "_law_reader.<locals>.read") rdParams rdBody rdScope [(Str.ofString "signs", cell)] dc pm c1 ct) :: (c1, oc1) :: (D1, listOf (strValues l).toArray n0) :: (cell, oc0) :: rest))
    (e1 : @LT.lt Nat _ cell D1) (e2 : @LT.lt Nat _ D1 c1) (e3 : @LT.lt Nat _ c1 f1) (e4 : @LT.lt Nat _ f1 f) (e5 : @LT.lt Nat _ f D) (e6 : @LT.lt Nat _ D d) (e7 : @LT.lt Nat _ d x) (e8 : @LT.lt Nat _ x xl) (e0 : @LT.lt Nat _ 125 cell)
    (h1 : ∃ vs t, oc1.data = .fields vs ∧ vs[1]? = some (.str (Str.ofString "_law_reader.<locals>.read") t)) (h2 : oc0.data = .cell (some (.ref D1))) :
    ∃ z : Lex, LexOk z ∧ @LT.lt Nat _ 125 z.cell ∧ z.x = x ∧ News g L h (lexLed P z 1 tl (strValues []) 0 (strValues l) n0) := by
  refine ⟨⟨x, d, xl, D1, cell, f1, c1, f, D, t1, t2, t3, t4, tw, tS, k', n', fS, dc, pm, ct, oc1, oc0⟩, ⟨e1, e2, e3, e4, e5, e6, e7, e8, h1, h2⟩, e0, rfl, ?_⟩
  intro p hp
  refine N p ?_
  simp only [lexLed, List.mem_cons, List.not_mem_nil, or_false] at hp ⊢
  rcases hp with h | h | h | h | h | h | h | h | h
  · exact .inr (.inr (.inl h))
  · exact .inl h
  · exact .inr (.inr (.inr (.inr (.inr (.inr (.inr (.inr (.inl h))))))))
  · exact .inr (.inl h)
  · exact .inr (.inr (.inr (.inl h)))
  · exact .inr (.inr (.inr (.inr (.inl h))))
  · exact .inr (.inr (.inr (.inr (.inr (.inr (.inl h))))))
  · exact .inr (.inr (.inr (.inr (.inr (.inr (.inr (.inl h)))))))
  · exact .inr (.inr (.inr (.inr (.inr (.inr (.inr (.inr (.inr (.inl h)))))))))
end Mine
end
section
open PySem PySem.W PyProof.Rows PySem.Calls PySem.Spec
set_option maxRecDepth 100000
set_option maxHeartbeats 1000000
namespace Mine
local macro_rules | `(tactic| k_room) => `(tactic| ktr_room)
local macro_rules | `(tactic| walk_at "call type:list") => `(tactic| (k_here; k_dflt (apply r_listStr; exact rfl; k_asm; k_asm; size_fits; k_whole); intro h' tk' D' n' l' F' N' l1 hsg'; (try k_lt l1)))
local macro_rules | `(tactic| walk_at "setAttr ref") => `(tactic| (k_here; k_dflt (apply r_fnset_N; k_asm; k_asm; k_all; k_whole); intro h' D' k' tk' n' F' N' l1; (try k_lt l1)))
theorem lex_fresh {H g h : Heap} {L : Addr} {P : Params} {z : Lex} {ln : Int} {tl : Tok} {pbv sgv : List Value} {n1 n2 : Nat} {adr : List Addr} (Z : LexOk z) (hz : @LT.lt Nat _ 125 z.cell) (N : News g L h (lexLed P z ln tl pbv n1 sgv n2)) (GS : GSub H g adr) (ha : ∀ b ∈ adr, @LE.le Nat _ b 125) :
    ∀ p ∈ lexLed P z ln tl pbv n1 sgv n2, H.get? p.1 = none := by
  intro p hp
  cases q : H.get? p.1 with
  | none => rfl
  | some o =>
    have h1 : @LT.lt Nat _ 125 p.1 := lex_above Z hz p hp
    have h2 := GS _ _ q (fun hm => absurd (ha _ hm) (Nat.not_le_of_gt h1))
    rw [(N p hp).2.2] at h2; cases h2
section
variable {w : World} {p : Program} {loose : List Str} {mean : ExcName → Option Value} {mg mb : Str → Option Value}
  {dp un : Nat} {gd : Option (List Code)} {cn : Str} {cs : Scope} {a : Addr} {ccd : Value} {cl : List (Str × Addr)} {outer : List Env} {A₀ : Around} {base h₀ : Heap} {L : Addr} {m : Str → Option Value} {s : Shared} {R : Result → Shared → Prop}
  (B : Below A₀ base outer h₀) (F : Fr h₀ L s.heap m) (X : (hd.heap_39 w.params).In h₀) (T : Top p loose mean mg mb h₀) (hk : cs.kind = .function)
include B F X T hk
theorem reader_ca {tx : Str} {tt : Tok} (hx : tx.length ≤ 100000) (C1 : CodeHd base 115 111) (hdp : dp + 10 < recursionLimit) (hu : un + 100 < cLine) (N : News h₀ L s.heap [(111, tabObj #[]), (125, tabObj #[])])
  (hret : ∀ z l n0 tl h' tk, LexOk z → @LT.lt Nat _ 125 z.cell → l.map (·.1) = signs tx → Fr h₀ L h' m → News h₀ L h' ((125, tabObj #[]) :: lexLed w.params z 1 tl (strValues []) 0 (strValues l) n0) → (∀ b o, s.heap.get? b = some o → b ∉ [111, 125] → h'.get? b = some o) → (∀ p ∈ lexLed w.params z 1 tl (strValues []) 0 (strValues l) n0, s.heap.get? p.1 = none) → (∃ ps, h'.get? 111 = some (tabObj ps)) → R (.ok (.ret (.ref z.x))) { s with heap := h', toks := tk }) :
  codeAny (model PG w) (ktrTop dp un gd cn cs L a ccd cl outer) (.call (.ref 116) ⟨[.str tx tt], []⟩) R s := by
  have hfill : PySem.Challenge.rw_pg0181_01 = PySem.Challenge.rw_pg0181_01 := rfl
  have hfill2 : hd.heap_39 = hd.heap_39 := rfl
  revert hfill hfill2
  k_fill
  intro _ _
  k_dflt ktr_enter
  rename_i g L1 h1 tk1 FG F1 B1 X1 T1 GS lt1 oc dc N1
  k_steps
  rename Fr _ _ _ _ => F5
  rename News _ _ _ _ => N5
  rename List.map _ _ = signs tx => hsg5
  have hx1 := reader_pack (P := w.params) N5 (by omega) (by omega) (by omega) (by omega) (by omega) (by omega) (by omega) (by omega) (by omega) ⟨_, _, by assumption, by with_unfolding_all assumption⟩ (by assumption)
  obtain ⟨z, Z, hz, ex, N6⟩ := hx1
  have N7 : News _ _ _ ((125, tabObj #[]) :: lexLed w.params z 1 _ (strValues []) 0 (strValues _) _) := fun p hp => (List.mem_cons.mp hp).elim (fun h => by rw [h]; exact N5 _ (.tail _ (.tail _ (.tail _ (.tail _ (.tail _ (.tail _ (.tail _ (.tail _ (.tail _ (.tail _ (.tail _ (.head _))))))))))))) (N6 p)
  rw [← ex]
  have hfresh := lex_fresh Z hz N6 GS (by
    intro b hb
    simp only [List.map_cons, List.map_nil, List.mem_cons, List.not_mem_nil, or_false] at hb
    rcases hb with rfl | rfl <;> decide)
  exact leaveM_ F5 (fun kF kk kN => hret z _ _ _ _ _ Z hz hsg5 kF (kN _ N7) kk hfresh ⟨_, (N5 _ (.tail _ (.tail _ (.tail _ (.tail _ (.tail _ (.tail _ (.tail _ (.tail _ (.tail _ (.tail _ (.head _)))))))))))).1⟩)
end
end Mine
end
section
open PySem PySem.W PyProof.Rows PySem.Calls PySem.Spec
set_option maxRecDepth 100000
set_option maxHeartbeats 1000000
namespace Mine
/-- a message as it lies in the heap: a tuple of a list of parts, a tail, and whether it is bare -/
structure MsgV where
  (tu pl : Addr) (np : Nat) (ps : List (Str × Tok)) (tl : Str) (tt : Tok) (b : Int) (tb : Tok)
noncomputable def MsgV.led (m : MsgV) : List (Addr × Obj) := [(m.tu, { cls := .type "tuple", data := .seq #[.ref m.pl, .str m.tl m.tt, .int m.b m.tb] }), (m.pl, listOf (strValues m.ps).toArray m.np)]
noncomputable def msgRefs (ms : List MsgV) : List Value := ms.map fun m => .ref m.tu
noncomputable def figS : Nat → Str
  | 0 => Str.ofString ""
  | 1 => Str.ofString "a"
  | 2 => Str.ofString "b"
  | 3 => Str.ofString "a\""
  | _ => Str.ofString "\\"
noncomputable def tailS : Nat → Str
  | 0 => Str.ofString ""
  | 1 => Str.ofString ": c.a"
  | 2 => Str.ofString "\n.b:a"
  | _ => Str.ofString ":\n\""
noncomputable def partsOf (x : Int) : List Str := (List.range (1 + (x.fmod 3).toNat)).map fun k => figS ((((x.fdiv 3).fdiv (5 ^ k)).fmod 5).toNat)
noncomputable def tailOf (x : Int) : Str := tailS (((x.fdiv 375).fmod 4).toNat)
noncomputable def bareOf (x : Int) : Int := (x.fdiv 1500).fmod 2
noncomputable def MsgV.of (m : MsgV) (x : Int) : Prop := m.ps.map (·.1) = partsOf x ∧ m.tl = tailOf x ∧ m.b = bareOf x
end Mine
end
section
open PySem PySem.W PyProof.Rows PySem.Calls PySem.Spec
set_option maxRecDepth 100000
set_option maxHeartbeats 1000000
namespace Mine
/-- the messages so far lie in the heap as the numbers ask -/
noncomputable def MsgsOf (ms : List MsgV) (xs : List Int) : Prop := ms.length = xs.length ∧ ∀ (i : Nat) (m : MsgV) (x : Int), ms[i]? = some m → xs[i]? = some x → m.of x
theorem MsgsOf.nil : MsgsOf [] [] := ⟨rfl, fun _ _ _ h => by simp at h⟩
theorem MsgsOf.snoc {ms : List MsgV} {xs : List Int} {m : MsgV} {x : Int} (h : MsgsOf ms xs) (hm : m.of x) : MsgsOf (ms ++ [m]) (xs ++ [x]) := by
  refine ⟨by simp [h.1], fun i a b ha hb => ?_⟩
  by_cases hi : i < ms.length
  · rw [List.getElem?_append_left hi] at ha
    rw [List.getElem?_append_left (by rw [← h.1]; exact hi)] at hb
    exact h.2 i a b ha hb
  · have hi := Nat.le_of_not_lt hi
    rw [List.getElem?_append_right hi] at ha
    rw [List.getElem?_append_right (by rw [← h.1]; exact hi), ← h.1] at hb
    cases hd : i - ms.length with
    | zero => rw [hd] at ha hb; cases ha; cases hb; exact hm
    | succ k => rw [hd] at ha; simp at ha
noncomputable abbrev msgM (mm : Str → Option Value) (lm : Addr) (pv : Option Value) : Str → Option Value := fun y => if y = Str.ofString "parts" then pv else if y = Str.ofString "messages" then some (.ref lm) else mm y
inductive TMsg (g : Heap) (L : Addr) (s0 : Shared) (mm : Str → Option Value) (lm D it : Addr) (ws : List Value) (ns : List Int) (i : Nat) (s : Shared) : Prop
  | mk (h : _) (tk : _) (pv : _) (oi : _) (nm : _) (ms : _) (xo : _) (x0 : s = { s0 with heap := h, toks := tk }) (x1 : Fr g L h (msgM mm lm pv)) (x2 : News g L h ((it, oi) :: (D, listOf ws.toArray 0) :: (lm, listOf (msgRefs ms).toArray nm) :: (L + 1, xo) :: ms.flatMap MsgV.led)) (x3 : IsLi oi D i) (x4 : MsgsOf ms (ns.take i)) (x5 : (∃ v, xo.data = .cell v)) (x6 : (∀ m ∈ ms, @LT.lt Nat _ it m.tu ∧ @LT.lt Nat _ it m.pl)) (x7 : i ≤ ns.length) : TMsg g L s0 mm lm D it ws ns i s
theorem ints_at : ∀ {vs : List Value} {ns : List Int}, IntsAre vs ns → ∀ i : Nat, (hi : i < ns.length) → ∃ t, vs[i]? = some (.int (ns[i]) t)
  | _, _, .nil, i, hi => absurd hi (Nat.not_lt_zero _)
  | _, _, .cons n t r, 0, _ => ⟨t, rfl⟩
  | _, _, .cons n t r, i + 1, hi => by
    obtain ⟨u, e⟩ := ints_at r i (by simpa using hi)
    exact ⟨u, by simpa using e⟩
theorem msgM_start (f : Str → Option Value) (lm : Addr) : ∀ y, (if y = Str.ofString "messages" then some (Value.ref lm) else f y) = msgM f lm (f (Str.ofString "parts")) y := by
  intro y
  unfold msgM
  by_cases h : y = Str.ofString "parts"
  · rw [h, if_pos rfl, if_neg (by decide +kernel)]
  · rw [if_neg h]
theorem msg_above {ms : List MsgV} {b : Nat} (h : ∀ m ∈ ms, @LT.lt Nat _ b m.tu ∧ @LT.lt Nat _ b m.pl) : ∀ p ∈ ms.flatMap MsgV.led, @LT.lt Nat _ b p.1 := by
  intro p hp
  obtain ⟨m, hm, hp⟩ := List.mem_flatMap.mp hp
  simp only [MsgV.led, List.mem_cons, List.not_mem_nil, or_false] at hp
  rcases hp with rfl | rfl
  · exact (h m hm).1
  · exact (h m hm).2
end Mine
end
section
open PySem PySem.W PyProof.Rows PySem.Calls PySem.Spec
set_option maxRecDepth 100000
set_option maxHeartbeats 1000000
namespace Mine
theorem comp_load {prog : Program} {w : World} {A : Around} {E : Value → Shared → Prop} {s : Shared} {g : Heap} {L C : Addr} {mC : Str → Option Value} {oC : Obj} {news : List (Addr × Obj)} {scope : Scope} {cl : List (Str × Addr)} {env : Env} {y : Str} {pos : Pos} {v : Value} {Q : Value → Shared → Prop}
    (N : News g L s.heap news) (hm : (C, oC) ∈ news) (hC : LCg.NsObj oC mC) (hv : mC y = some v) (hk : (compEnvC scope cl C env).scope.kind = .function) (hy : (compEnvC scope cl C env).kindOf y = some .local) (hd : (y == ("__debug__" : Str)) = false) (h : Q v s) :
    wpAny (model prog w) A (eval (.Name y pos) (compEnvC scope cl C env)) Q E s :=
  wpAny_Name (wpAny_loadName_local hk hy (hC.ns (N _ hm).1) hv h) hd
noncomputable def partF (x : Int) (k : Nat) : Str := figS ((((x.fdiv 3).fdiv (5 ^ k)).fmod 5).toNat)
theorem partsOf_eq (x : Int) : partsOf x = (List.range (1 + (x.fmod 3).toNat)).map (partF x) := rfl
/-- the invariant of _law_messages' comprehension -/
inductive TMC (g : Heap) (L : Addr) (s0 : Shared) (m : Str → Option Value) (rest : List (Addr × Obj)) (itr acc C : Addr) (x : Int) (nb : Nat) (k : Nat) (s : Shared) : Prop
  | mk (h : _) (tk : _) (oC : _) (mC : _) (l : _) (nl : _) (x0 : s = { s0 with heap := h, toks := tk }) (x1 : Fr g L h m) (x2 : News g L h ((C, oC) :: (acc, listOf (strValues l).toArray nl) :: (itr, riObj (k : Int) ((nb : Int) - (k : Int))) :: rest)) (x3 : LCg.NsObj oC mC) (x4 : l.map (·.1) = (List.range k).map (partF x)) (x5 : k ≤ nb) : TMC g L s0 m rest itr acc C x nb k s
theorem fig_at {t0 t1 t2 t3 t4 : Tok} {i : Nat} (h : i < 5) : ∃ t, [Value.str (Str.ofString "") t0, .str (Str.ofString "a") t1, .str (Str.ofString "b") t2, .str (Str.ofString "a\"") t3, .str (Str.ofString "\\") t4][i]? = some (.str (figS i) t) := by
  match i, h with
  | 0, _ => exact ⟨t0, rfl⟩
  | 1, _ => exact ⟨t1, rfl⟩
  | 2, _ => exact ⟨t2, rfl⟩
  | 3, _ => exact ⟨t3, rfl⟩
  | 4, _ => exact ⟨t4, rfl⟩
theorem tail_at4 {t0 t1 t2 t3 : Tok} {i : Nat} (h : i < 4) : ∃ t, [Value.str (Str.ofString "") t0, .str (Str.ofString ": c.a") t1, .str (Str.ofString "\n.b:a") t2, .str (Str.ofString ":\n\"") t3][i]? = some (.str (tailS i) t) := by
  match i, h with
  | 0, _ => exact ⟨t0, rfl⟩
  | 1, _ => exact ⟨t1, rfl⟩
  | 2, _ => exact ⟨t2, rfl⟩
  | 3, _ => exact ⟨t3, rfl⟩
theorem refs_push (ms : List MsgV) (m : MsgV) : (msgRefs ms).toArray.push (.ref m.tu) = (msgRefs (ms ++ [m])).toArray := by simp [msgRefs]
theorem led_push (ms : List MsgV) (m : MsgV) : (ms ++ [m]).flatMap MsgV.led = ms.flatMap MsgV.led ++ m.led := by simp
theorem msg_led {g h : Heap} {L tup l98 acc it D lm c : Addr} {o98 oa oi od ol oc : Obj} {tl : Str} {tt tb0 : Tok} {b : Int} {rest : List (Addr × Obj)}
    (N : News g L h ((tup, { cls := Value.type "tuple", data := Data.seq #[Value.ref acc, Value.str tl tt, Value.int b tb0] }) :: (l98, o98) :: (acc, oa) :: (it, oi) :: (D, od) :: (lm, ol) :: (c, oc) :: rest)) :
    ∃ tb, News g L h ((lm, ol) :: (tup, { cls := Value.type "tuple", data := Data.seq #[Value.ref acc, Value.str tl tt, Value.int b tb] }) :: (acc, oa) :: (it, oi) :: (D, od) :: (c, oc) :: rest) := by
  refine ⟨tb0, fun p hp => N p ?_⟩
  simp only [List.mem_cons] at hp ⊢
  rcases hp with h | h | h | h | h | h | h
  · exact .inr (.inr (.inr (.inr (.inr (.inl h)))))
  · exact .inl h
  · exact .inr (.inr (.inl h))
  · exact .inr (.inr (.inr (.inl h)))
  · exact .inr (.inr (.inr (.inr (.inl h))))
  · exact .inr (.inr (.inr (.inr (.inr (.inr (.inl h))))))
  · exact .inr (.inr (.inr (.inr (.inr (.inr (.inr h))))))
end Mine
end
section
open PySem PySem.W PyProof.Rows PySem.Calls PySem.Spec
set_option maxRecDepth 100000
set_option maxHeartbeats 1000000
namespace Mine
section
open PySem.Builtin PySem.Builtin.Str StrLaws
/-- a text of its signs' numbers -/
noncomputable abbrev tS (l : List Nat) : Str := ⟨l.toArray⟩
theorem tS_list (l : List Nat) : (tS l).cps.toList = l := by simp
theorem tS_len (l : List Nat) : (tS l).length = l.length := by simp [Str.length]
theorem tS_of (x : Str) : tS x.cps.toList = x := Str.ext' (by simp)
theorem at_one {x : Str} {c hi i : Nat} (hhi : hi ≤ x.length) : At x ⟨#[c]⟩ hi i ↔ i < hi ∧ x.cps.toList[i]? = some c := by
  have h := subAt_one x c i
  have l1 : (⟨#[c]⟩ : Str).length = 1 := rfl
  unfold At
  rw [l1] at h ⊢
  constructor
  · rintro ⟨a, b⟩; exact ⟨a, h.mp ⟨Nat.le_trans a hhi, b⟩⟩
  · rintro ⟨a, b⟩; exact ⟨a, (h.mpr b).2⟩
theorem mem_r0 {i hi : Nat} (h : i < hi) : 0 ≤ i ∧ i < 0 + (hi + 1 - 0) := by omega
theorem minmax {e n : Nat} (h : e ≤ n) : min (max (0 : Int) (e : Int)).toNat n = e := by omega
theorem occ1_spec (x : Str) (c hi : Nat) (hhi : hi ≤ x.length) : (occurrences x ⟨#[c]⟩ 0 hi 1 = [] ∧ ∀ i, i < hi → x.cps.toList[i]? ≠ some c) ∨ ∃ i r, occurrences x ⟨#[c]⟩ 0 hi 1 = i :: r ∧ i < hi ∧ x.cps.toList[i]? = some c ∧ ∀ k, k < i → x.cps.toList[k]? ≠ some c := by
  rw [occ_eq]
  rcases occ_first x ⟨#[c]⟩ hi 1 (Nat.le_refl _) (List.range' 0 (hi + 1 - 0)) 0 (fun _ _ => Nat.zero_le _) with ⟨h0, hn⟩ | ⟨pre, a, post, e, h0, ha, hn⟩
  · refine .inl ⟨by rw [h0], fun i hi' he => hn i (by rw [List.mem_range'_1]; exact mem_r0 hi') ((at_one hhi).mpr ⟨hi', he⟩)⟩
  · have ha' := (at_one hhi).mp ha
    refine .inr ⟨a, ((forIn (List.range' 0 (hi + 1 - 0)) ((#[] : Array Nat), 0) (occBody x ⟨#[c]⟩ hi 1)).run.fst.toList).tail, ?_, ha'.1, ha'.2, fun k hk he => hn k (range'_split e k hk) ((at_one hhi).mpr ⟨Nat.lt_trans hk ha'.1, he⟩)⟩
    generalize (forIn (List.range' 0 (hi + 1 - 0)) ((#[] : Array Nat), 0) (occBody x ⟨#[c]⟩ hi 1)).run.fst = arr at h0
    have h1 : arr.toList[0]? = some a := by simpa using h0
    cases hL : arr.toList with
    | nil => rw [hL] at h1; cases h1
    | cons b t => rw [hL] at h1; simp at h1; rw [h1]; rfl
theorem last1_spec (x : Str) (c hi : Nat) (hhi : hi ≤ x.length) : (lastOccurrence x ⟨#[c]⟩ 0 hi = none ∧ ∀ i, i < hi → x.cps.toList[i]? ≠ some c) ∨ ∃ i, lastOccurrence x ⟨#[c]⟩ 0 hi = some i ∧ i < hi ∧ x.cps.toList[i]? = some c ∧ ∀ k, i < k → k < hi → x.cps.toList[k]? ≠ some c := by
  rw [last_eq]
  have key := last_run x ⟨#[c]⟩ hi (List.range' 0 (hi + 1 - 0)) [] none (fun _ h => nomatch h) (fun _ h => nomatch h) (by simpa using List.pairwise_lt_range' (s := 0) (n := hi + 1 - 0))
  have mem : ∀ i, i < hi → i ∈ [] ++ List.range' 0 (hi + 1 - 0) := fun i h => by rw [List.nil_append, List.mem_range'_1]; exact mem_r0 h
  cases hr : (forIn (List.range' 0 (hi + 1 - 0)) none (lastBody x ⟨#[c]⟩ hi)).run with
  | none => rw [hr] at key; exact .inl ⟨rfl, fun i h e => key i (mem i h) ((at_one hhi).mpr ⟨h, e⟩)⟩
  | some a => 
    rw [hr] at key
    have ha := (at_one hhi).mp key.1
    exact .inr ⟨a, rfl, ha.1, ha.2, fun k hk h e => key.2 k (mem k h) hk ((at_one hhi).mpr ⟨h, e⟩)⟩
theorem slice_nat (x : Str) {a b : Nat} (hab : a ≤ b) (hb : b ≤ x.length) : Txt.slice x (some (a : Int)) (some (b : Int)) = tS ((x.cps.toList.drop a).take (b - a)) := sliceText_nat x hab hb
theorem slice_to (x : Str) {b : Nat} (hb : b ≤ x.length) : Txt.slice x none (some (b : Int)) = tS (x.cps.toList.take b) := by
  have h := sliceText_to (x := x) (j := (b : Int)) ⟨Int.natCast_nonneg _, by simp [Str.length] at hb ⊢; exact hb⟩
  simp only [Int.sub_zero, Int.toNat_natCast, List.drop_zero] at h
  exact h
theorem slice_from (x : Str) {a : Nat} (ha : a ≤ x.length) : Txt.slice x (some (a : Int)) none = tS (x.cps.toList.drop a) := by
  have h := sliceText_from (x := x) (i := (a : Int)) ⟨Int.natCast_nonneg _, by simp [Str.length] at ha ⊢; exact ha⟩
  have hx : x.cps.toList.length = x.length := by simp [Str.length]
  rw [show Txt.slice x (some (a : Int)) none = sliceText x (some (a : Int)) none from rfl, h]
  simp only [Int.toNat_natCast]
  rw [List.take_of_length_le (by rw [List.length_drop]; exact Nat.le_of_eq (Int.toNat_sub _ _).symm)]
theorem slice_m1 (x : Str) (hx : 1 ≤ x.length) : Txt.slice x none (some (-1)) = tS (x.cps.toList.take (x.length - 1)) := by
  have e : Txt.slice x none (some (-1)) = Txt.slice x none (some ((x.length - 1 : Nat) : Int)) := by
    unfold Txt.slice
    have : strSliceIndices none (some (-1)) 1 x.length = strSliceIndices none (some ((x.length - 1 : Nat) : Int)) 1 x.length := by
      have h1 : ((-1 : Int) < 0) := by decide
      have h2 : ¬ (((x.length - 1 : Nat) : Int) < 0) := Int.not_lt.mpr (Int.natCast_nonneg _)
      have h3 : max (0 : Int) (min (-1 + (x.length : Int)) (x.length : Int)) = max 0 (min ((x.length - 1 : Nat) : Int) (x.length : Int)) := by rw [show ((x.length - 1 : Nat) : Int) = -1 + (x.length : Int) by omega]
      simp only [strSliceIndices, h1, h2, if_true, if_false]
      rw [h3]; simp
    rw [this]
  rw [e, slice_to x (Nat.sub_le _ _)]
theorem repl_map (x : Str) (c d : Nat) : (Txt.replace x ⟨#[c]⟩ ⟨#[d]⟩).cps.toList = x.cps.toList.map (fun k => if k = c then d else k) := by
  rw [replace_one]
  have key : ∀ parts : List Str, (∀ p ∈ parts, c ∉ p.cps.toList) → (Str.join ⟨#[d]⟩ parts).cps.toList = (Str.join ⟨#[c]⟩ parts).cps.toList.map (fun k => if k = c then d else k) := by
    have free : ∀ l : List Nat, c ∉ l → l.map (fun k => if k = c then d else k) = l := by
      intro l h
      induction l with
      | nil => rfl
      | cons a l ih =>
        rw [List.map_cons, ih (fun m => h (List.mem_cons_of_mem _ m)), if_neg (fun e => h (by rw [e]; exact List.mem_cons_self ..))]
    intro parts
    induction parts with
    | nil => intro _; rfl
    | cons p r ih =>
      intro h
      cases r with
      | nil => exact (free _ (h p (List.mem_singleton.mpr rfl))).symm
      | cons q r =>
        show (p ++ ⟨#[d]⟩ ++ Str.join ⟨#[d]⟩ (q :: r)).cps.toList = (p ++ ⟨#[c]⟩ ++ Str.join ⟨#[c]⟩ (q :: r)).cps.toList.map _
        simp only [Str.cps_append, Array.toList_append, List.map_append]
        rw [ih (fun a ha => h a (List.mem_cons_of_mem _ ha)), free _ (h p (List.mem_cons_self ..))]
        simp
  rw [key _ (split_free x c), join_split]
theorem split_head (x : Str) (c : Nat) : ((Txt.split x ⟨#[c]⟩).headD Str.empty).cps.toList = x.cps.toList.takeWhile (fun k => !(k == c)) := by
  obtain ⟨a, r, h⟩ := split_cons x ⟨#[c]⟩
  have hj := join_split x ⟨#[c]⟩
  have hf := split_free x c a (by rw [h]; exact List.mem_cons_self ..)
  rw [h] at hj ⊢
  show a.cps.toList = _
  have hall : ∀ k ∈ a.cps.toList, (!(k == c)) = true := by
    intro k hk
    have : k ≠ c := fun e => hf (e ▸ hk)
    simp [this]
  cases r with
  | nil =>
    have : a = x := hj
    rw [← this]
    have := List.takeWhile_append_of_pos (l₂ := []) hall
    simpa using this.symm
  | cons q r =>
    have : a ++ ⟨#[c]⟩ ++ Str.join ⟨#[c]⟩ (q :: r) = x := hj
    rw [← this]
    simp only [Str.cps_append, Array.toList_append]
    rw [List.append_assoc, List.takeWhile_append_of_pos hall]
    simp
/-- a tail begins with a line's end or a colon, or is empty -/
noncomputable def TailOk (t : List Nat) : Prop := t = [] ∨ ∃ r, t = 10 :: r ∨ t = 58 :: r
noncomputable def Plain2 (n : List Nat) : Prop := 10 ∉ n ∧ 58 ∉ n
theorem ofS (s : String) (l : List Nat) (h : Str.ofString s = tS l := by decide +kernel) : Str.ofString s = tS l := h
theorem get_left {n t : List Nat} {i : Nat} {c : Nat} (hn : c ∉ n) (h : (tS (n ++ t)).cps.toList[i]? = some c) : n.length ≤ i := by
  rcases Nat.lt_or_ge i n.length with hi | hi
  · exfalso
    rw [tS_list, List.getElem?_append_left hi] at h
    exact hn (List.mem_of_getElem? h)
  · exact hi
theorem tail_at {n t : List Nat} (ht : TailOk t) (h : n.length < (n ++ t).length) : (tS (n ++ t)).cps.toList[n.length]? = some 10 ∨ (tS (n ++ t)).cps.toList[n.length]? = some 58 := by
  rw [tS_list, List.getElem?_append_right (Nat.le_refl _), Nat.sub_self]
  rcases ht with rfl | ⟨r, rfl | rfl⟩
  · simp at h
  · exact .inl rfl
  · exact .inr rfl
theorem stripE2_eq {n t : List Nat} (hn : Plain2 n) (ht : TailOk t) : stripE2 (tS (n ++ t)) = (n.length : Int) := by
  have hxl : (tS (n ++ t)).length = (n ++ t).length := tS_len _
  have hE1 : ∃ e : Nat, stripE1 (tS (n ++ t)) = (e : Int) ∧ n.length ≤ e ∧ e ≤ (n ++ t).length ∧ ∀ i, i < e → (tS (n ++ t)).cps.toList[i]? ≠ some 10 := by
    unfold stripE1
    rw [ofS "\n" [10]]
    unfold Txt.find
    rcases occ1_spec (tS (n ++ t)) 10 (tS (n ++ t)).length (Nat.le_refl _) with ⟨h0, hx⟩ | ⟨i, r, h0, hi, hx, hm⟩
    · refine ⟨(n ++ t).length, ?_, by simp, Nat.le_refl _, fun i hi => hx i (by rw [hxl]; exact hi)⟩
      rw [h0, hxl]; rfl
    · refine ⟨i, ?_, get_left hn.1 hx, by rw [hxl] at hi; exact Nat.le_of_lt hi, hm⟩
      rw [h0]
      simp
  obtain ⟨e, he, h1, h2, h3⟩ := hE1
  unfold stripE2
  rw [he, ofS ":" [58]]
  unfold find4
  have hfi : fromIndex (tS (n ++ t)).length 0 = 0 := by simp [fromIndex]
  have hfj : min (fromIndex (tS (n ++ t)).length (e : Int)) (tS (n ++ t)).length = e := by
    rw [hxl]; unfold fromIndex; rw [if_neg (Int.not_lt.mpr (Int.natCast_nonneg _))]; exact minmax h2
  rw [hfi, hfj]
  have stop : ∀ (P : Prop), n.length < e → ((tS (n ++ t)).cps.toList[n.length]? = some 58 → P) → P := by
    intro P hlt hP
    rcases tail_at ht (Nat.lt_of_lt_of_le hlt h2) with h | h
    · exact absurd h (h3 _ hlt)
    · exact hP h
  rcases occ1_spec (tS (n ++ t)) 58 e (by rw [hxl]; exact h2) with ⟨h0, hx⟩ | ⟨i, r, h0, hi, hx, hm⟩
  · rw [h0]
    have : e = n.length := by
      rcases Nat.lt_or_ge n.length e with hlt | hge
      · exact stop _ hlt fun h => absurd h (hx _ hlt)
      · exact Nat.le_antisymm hge h1
    simp [this]
  · rw [h0]
    have hge := get_left hn.2 hx
    have : i = n.length := by
      rcases Nat.lt_or_ge n.length i with hlt | hge'
      · exact stop _ (Nat.lt_trans hlt hi) fun h => absurd h (hm _ hlt)
      · exact Nat.le_antisymm hge' hge
    simp [this]
theorem strip_dot {pre q t : List Nat} (hn : Plain2 (pre ++ 46 :: q)) (hq : 46 ∉ q) (ht : TailOk t) : stripS (tS (pre ++ 46 :: q ++ t)) = tS q := by
  have hxl : (tS (pre ++ 46 :: q ++ t)).length = (pre ++ 46 :: q ++ t).length := tS_len _
  unfold stripS
  rw [stripE2_eq hn ht, ofS "." [46]]
  unfold rfind4
  have hfi : fromIndex (tS (pre ++ 46 :: q ++ t)).length 0 = 0 := by simp [fromIndex]
  have hfj : min (fromIndex (tS (pre ++ 46 :: q ++ t)).length ((pre ++ 46 :: q).length : Int)) (tS (pre ++ 46 :: q ++ t)).length = (pre ++ 46 :: q).length := by
    rw [hxl]; unfold fromIndex; rw [if_neg (Int.not_lt.mpr (Int.natCast_nonneg _))]; exact minmax (by simp)
  rw [hfi, hfj]
  have hdot : (tS (pre ++ 46 :: q ++ t)).cps.toList[pre.length]? = some 46 := by rw [tS_list]; simp
  have hi : ∃ i, lastOccurrence (tS (pre ++ 46 :: q ++ t)) ⟨#[46]⟩ 0 (pre ++ 46 :: q).length = some i ∧ i = pre.length := by
    rcases last1_spec (tS (pre ++ 46 :: q ++ t)) 46 (pre ++ 46 :: q).length (by rw [hxl]; simp) with ⟨h0, hx⟩ | ⟨i, h0, hi, hx, hm⟩
    · exact absurd hdot (hx _ (by simp))
    · refine ⟨i, h0, ?_⟩
      rcases Nat.lt_trichotomy i pre.length with h | h | h
      · exact absurd hdot (hm _ h (by simp))
      · exact h
      · exfalso
        rw [tS_list, List.append_assoc, List.getElem?_append_right (Nat.le_of_lt h)] at hx
        have hk : ∃ k, i - pre.length = k + 1 := ⟨i - pre.length - 1, (Nat.sub_add_cancel (Nat.sub_pos_of_lt h)).symm⟩
        obtain ⟨k, hk⟩ := hk
        rw [hk, List.cons_append, List.getElem?_cons_succ] at hx
        rw [List.length_append, List.length_cons] at hi
        rw [List.getElem?_append_left (by
          have e : i = pre.length + (k + 1) := by rw [← hk]; exact (Nat.add_sub_cancel' (Nat.le_of_lt h)).symm
          rw [e] at hi; exact Nat.lt_of_succ_lt_succ (Nat.lt_of_add_lt_add_left hi))] at hx
        exact hq (List.mem_of_getElem? hx)
  obtain ⟨i, h0, rfl⟩ := hi
  rw [h0]
  dsimp only
  rw [if_pos (Int.natCast_nonneg _), show ((pre.length : Int) + 1) = ((pre.length + 1 : Nat) : Int) by simp, slice_nat _ (by simp) (by rw [hxl]; simp)]
  have : (pre ++ 46 :: q ++ t) = (pre ++ [46]) ++ (q ++ t) := by simp
  rw [tS_list, this, List.drop_left' (by simp)]
  rw [List.take_left' (by simp; exact (Nat.add_sub_add_left pre.length (q.length + 1) 1).symm)]
theorem strip_free {q t : List Nat} (hn : Plain2 q) (hq : 46 ∉ q) (ht : TailOk t) : stripS (tS (q ++ t)) = tS q := by
  have hxl : (tS (q ++ t)).length = (q ++ t).length := tS_len _
  unfold stripS
  rw [stripE2_eq hn ht, ofS "." [46]]
  unfold rfind4
  have hfi : fromIndex (tS (q ++ t)).length 0 = 0 := by simp [fromIndex]
  have hfj : min (fromIndex (tS (q ++ t)).length (q.length : Int)) (tS (q ++ t)).length = q.length := by
    rw [hxl]; unfold fromIndex; rw [if_neg (Int.not_lt.mpr (Int.natCast_nonneg _))]; exact minmax (by simp)
  rw [hfi, hfj]
  have h0 : lastOccurrence (tS (q ++ t)) ⟨#[46]⟩ 0 q.length = none := by
    rcases last1_spec (tS (q ++ t)) 46 q.length (by rw [hxl]; simp) with ⟨h0, hx⟩ | ⟨i, h0, hi, hx, hm⟩
    · exact h0
    · exfalso
      rw [tS_list, List.getElem?_append_left hi] at hx
      exact hq (List.mem_of_getElem? hx)
  rw [h0]
  dsimp only
  rw [if_neg (by decide), show (0 : Int) = ((0 : Nat) : Int) from rfl, slice_nat _ (Nat.zero_le _) (by rw [hxl]; simp)]
  rw [tS_list, List.drop_zero, Nat.sub_zero, List.take_left]
theorem cut_eq {n t : List Nat} (hn : Plain2 n) (ht : TailOk t) : turnCut (tS (n ++ t)) = (n.length : Int) := by
  unfold turnCut
  have e : ((Txt.split (Txt.replace (tS (n ++ t)) (Str.ofString "\n") (Str.ofString ":")) (Str.ofString ":")).headD Str.empty).cps.toList = n := by
    rw [ofS ":" [58], ofS "\n" [10], split_head, repl_map, tS_list, List.map_append]
    have e1 : n.map (fun k => if k = 10 then 58 else k) = n := by
      have : ∀ l : List Nat, 10 ∉ l → l.map (fun k => if k = 10 then 58 else k) = l := by
        intro l h
        induction l with
        | nil => rfl
        | cons a l ih => rw [List.map_cons, ih (fun m => h (List.mem_cons_of_mem _ m)), if_neg (fun e => h (by rw [e]; exact List.mem_cons_self ..))]
      exact this n hn.1
    rw [e1, List.takeWhile_append_of_pos (by
      intro k hk
      have : k ≠ 58 := fun e => hn.2 (e ▸ hk)
      simp [this])]
    rcases ht with rfl | ⟨r, rfl | rfl⟩ <;> simp
  have : ∀ x : Str, x.length = x.cps.toList.length := fun x => by simp [Str.length]
  rw [this, e]
theorem turn_dot {pre q t : List Nat} (hn : Plain2 (pre ++ 46 :: q)) (hq : 46 ∉ q) (ht : TailOk t) : turnS (tS (pre ++ 46 :: q ++ t)) = tS (pre ++ 58 :: q ++ t) := by
  have hxl : (tS (pre ++ 46 :: q ++ t)).length = (pre ++ 46 :: q ++ t).length := tS_len _
  have hf : turnFront (tS (pre ++ 46 :: q ++ t)) = tS (pre ++ [46]) := by
    unfold turnFront
    rw [strip_dot hn hq ht, cut_eq hn ht, tS_len, show (((pre ++ 46 :: q).length : Int) - (q.length : Int)) = ((pre.length + 1 : Nat) : Int) by simp; omega, slice_to _ (by rw [hxl]; simp), tS_list]
    have : (pre ++ 46 :: q ++ t) = (pre ++ [46]) ++ (q ++ t) := by simp
    rw [this, List.take_left' (by simp)]
  unfold turnS
  rw [hf]
  have hne : (tS (pre ++ [46]) == Str.ofString "") = false := by
    rw [ofS "" []]
    cases h : (tS (pre ++ [46]) == tS []) with
    | false => rfl
    | true =>
      have := congrArg (fun s : Str => s.length) (eq_of_beq h)
      simp [Str.length] at this
  rw [hne, if_neg Bool.false_ne_true, slice_m1 _ (by rw [tS_len]; simp), tS_len, slice_from _ (by rw [hxl]; simp), tS_list, tS_list, ofS ":" [58]]
  have e1 : (pre ++ 46 :: q ++ t).drop (pre ++ [46]).length = q ++ t := by
    have : (pre ++ 46 :: q ++ t) = (pre ++ [46]) ++ (q ++ t) := by simp
    rw [this, List.drop_left]
  rw [e1]
  refine Str.ext' ?_
  simp [Str.cps_append]
theorem turn_free {q t : List Nat} (hn : Plain2 q) (hq : 46 ∉ q) (ht : TailOk t) : turnS (tS (q ++ t)) = tS (58 :: (q ++ t)) := by
  have hxl : (tS (q ++ t)).length = (q ++ t).length := tS_len _
  have hf : turnFront (tS (q ++ t)) = tS [] := by
    unfold turnFront
    rw [strip_free hn hq ht, cut_eq hn ht, tS_len, Int.sub_self, show (0 : Int) = ((0 : Nat) : Int) from rfl, slice_to _ (Nat.zero_le _), List.take_zero]
  unfold turnS
  rw [hf, ofS "" [], ofS ":" [58], if_pos (by rfl)]
  refine Str.ext' ?_
  simp [Str.cps_append]
end
end Mine
end
section
open PySem PySem.W PyProof.Rows PySem.Calls PySem.Spec
set_option maxRecDepth 100000
set_option maxHeartbeats 1000000
namespace Mine
noncomputable def IsSi (o : Obj) (x : Str) (i : Nat) : Prop := ∃ ty t, (ty = "str_ascii_iterator" ∨ ty = "str_iterator") ∧ o.cls = .type ty ∧ o.data = .fields #[.str x t, .int i 0]
section
variable {prog : Program} {w : World} {A : Around} {E : Value → Shared → Prop} {s : Shared} {g : Heap} {L : Addr} {m : Str → Option Value} {rest : List (Addr × Obj)}
theorem si_start {x : Str} {t : Tok} {Q : Value → Shared → Prop} (F : Fr g L s.heap m) (N : News g L s.heap rest)
    (h : ∀ h' it oi, IsSi oi x 0 → Fr g L h' m → News g L h' ((it, oi) :: rest) → (∀ b o, s.heap.get? b = some o → h'.get? b = some o ∧ b < it) → Q (.ref it) { s with heap := h' }) : wpAny (model prog w) A (pyIter (.str x t)) Q E s := by
  cases ha : x.cps.all (· < 128)
  · exact wpAny_pyIter_wide ha (h _ _ _ ⟨_, t, .inr rfl, rfl, rfl⟩ (F.push _) (N.push F _) (fun b o e => ⟨Heap.get?_push_of_some _ e, Heap.lt_size e⟩))
  · exact wpAny_pyIter_ascii ha (h _ _ _ ⟨_, t, .inl rfl, rfl, rfl⟩ (F.push _) (N.push F _) (fun b o e => ⟨Heap.get?_push_of_some _ e, Heap.lt_size e⟩))
theorem si_self {it : Addr} {oi : Obj} {x : Str} {i : Nat} (hi : IsSi oi x i) (hit : s.heap.get? it = some oi) : wpAny (model prog w) A (pyIter (.ref it)) (fun it' s₃ => it' = .ref it ∧ s₃ = s) E s := by
  obtain ⟨ty, t, hty, hc, hd⟩ := hi
  rcases hty with rfl | rfl
  · exact wpAny_pyIter_striter_ascii (x := x) (t := t) (i := i) ⟨oi, hit, hc, hd⟩ ⟨rfl, rfl⟩
  · exact wpAny_pyIter_striter_wide (x := x) (t := t) (i := i) ⟨oi, hit, hc, hd⟩ ⟨rfl, rfl⟩
theorem si_item {it : Addr} {oi : Obj} {x : Str} {i c : Nat} {Q : Option Value → Shared → Prop} (F : Fr g L s.heap m) (N : News g L s.heap ((it, oi) :: rest)) (off : ∀ p ∈ rest, p.1 ≠ it) (hi : IsSi oi x i) (hv : x.cps.toList[i]? = some c)
    (h : ∀ h' oi', IsSi oi' x (i + 1) → Fr g L h' m → News g L h' ((it, oi') :: rest) → (∀ b o, s.heap.get? b = some o → b ≠ it → h'.get? b = some o) → Q (some (.str (chS c) s.toks)) { s with heap := h', toks := s.toks + 1 }) : wpAny (model prog w) A (pyNext (.ref it)) Q E s := by
  obtain ⟨ty, t, hty, hc, hd⟩ := hi
  have hv' : x.cps[i]? = some c := by rw [← hv]; simp
  rcases hty with rfl | rfl
  · refine wpAny_pyNext_ascii_item (x := x) (t := t) (i := i) ⟨oi, (N _ (.head _)).1, hc, hd⟩ hv' fun h' hit hs => ?_
    obtain ⟨o', ho', hc', hd'⟩ := hit
    obtain ⟨F', N'⟩ := led_step F N off hs ho'
    exact h h' o' ⟨_, t, .inl rfl, hc', hd'⟩ F' N' (fun b o e hb => (hs.2 b hb).trans e)
  · refine wpAny_pyNext_wide_item (x := x) (t := t) (i := i) ⟨oi, (N _ (.head _)).1, hc, hd⟩ hv' fun h' hit hs => ?_
    obtain ⟨o', ho', hc', hd'⟩ := hit
    obtain ⟨F', N'⟩ := led_step F N off hs ho'
    exact h h' o' ⟨_, t, .inr rfl, hc', hd'⟩ F' N' (fun b o e hb => (hs.2 b hb).trans e)
theorem si_end {it : Addr} {oi : Obj} {x : Str} {i : Nat} {Q : Option Value → Shared → Prop} (hh : A.handled = none) (F : Fr g L s.heap m) (N : News g L s.heap ((it, oi) :: rest)) (off : ∀ p ∈ rest, p.1 ≠ it) (hi : IsSi oi x i) (hv : x.cps.toList[i]? = none)
    (h : ∀ h', Fr g L h' m → News g L h' rest → (∀ b o, s.heap.get? b = some o → b ≠ it → h'.get? b = some o) → Q none { s with heap := h' }) : wpAny (model prog w) A (pyNext (.ref it)) Q E s := by
  obtain ⟨ty, t, hty, hc, hd⟩ := hi
  have hv' : x.cps[i]? = none := by rw [← hv]; simp
  rcases hty with rfl | rfl
  · refine wpAny_pyNext_ascii_end (x := x) (t := t) (i := i) hh ⟨oi, (N _ (.head _)).1, hc, hd⟩ hv' fun h' hs => ?_
    obtain ⟨F', N'⟩ := led_drop F N off hs
    exact h h' F' N' (fun b o e hb => hs b o hb e)
  · refine wpAny_pyNext_wide_end (x := x) (t := t) (i := i) hh ⟨oi, (N _ (.head _)).1, hc, hd⟩ hv' fun h' hs => ?_
    obtain ⟨F', N'⟩ := led_drop F N off hs
    exact h h' F' N' (fun b o e hb => hs b o hb e)
theorem tup_go {env : Env} {elts : List PySem.Expr} {k : Nat} {px : Pos} {it l tu : Addr} {oi : Obj} {i : Nat} {Q : Unit → Shared → Prop} (hit : s.heap.get? it = some oi) (hi : IsLi oi l i) (h : wpAny (model prog w) A (assign (.Tuple elts k px) env (.ref tu)) Q E s) :
    wpAny (model prog w) A (letOwnedTupleGo (.Tuple elts k px) (.ref it) (.ref tu)) (fun _ s₁' => wpAny (model prog w) A (assign (.Tuple elts k px) env (.ref tu)) Q E s₁') E s := by
  unfold letOwnedTupleGo
  dsimp only
  refine wpAny_bind (wpAny_load hit ?_)
  rw [hi.1, hi.2]
  dsimp only
  rw [if_neg (by rw [show (["enumerate", "zip", "dict_itemiterator", "dict_reverseitemiterator", "odict_iterator", "itertools.zip_longest", "itertools.pairwise"].contains "list_iterator") = false by decide]; simp)]
  exact wpAny_pure h
theorem r_join {x : Str} {t : Tok} {D : Addr} {n : Nat} {l : List (Str × Tok)} {Q : Value → Shared → Prop} (hl : s.heap.get? D = some (listOf (strValues l).toArray n)) (hx : x.length ≤ 64) (hb : (l.map (fun y => y.1.length)).sum ≤ 10000000) (hn : l.length ≤ 100000)
    (h : ∀ t' k, Q (.str (Str.join x (l.map (·.1))) t') { s with toks := k }) : wpAny (model prog w) A (call (.builtin "str.join") [.str x t, .ref D]) Q E s := by
  refine SC.join (l := l) (texts := l.map (·.1)) ⟨_, hl, rfl, n, rfl⟩ rfl ?_ fun t' k => ?_
  · unfold JoinOk
    rw [StrLaws.joinTotal, Bool.not_eq_true']
    unfold Builtin.Str.tooLong
    rw [sizeLine_eq]
    refine decide_eq_false ?_
    have h1 : (l.map (·.1)).length * x.length ≤ l.length * 64 := by rw [List.length_map]; exact Nat.mul_le_mul_left _ hx
    have h2 : ((l.map (·.1)).map (·.length)).sum = (l.map (fun y => y.1.length)).sum := by rw [List.map_map]; rfl
    rw [h2]
    omega
  · rw [show Txt.join x (l.map (·.1)) = Str.join x (l.map (·.1)) from StrLaws.glued_eq_join _ _]
    exact h t' k
theorem r_addT {x y : Str} {t u : Tok} {Q : Value → Shared → Prop} (hsz : x.length + y.length ≤ sizeLine) (h : ∀ t' k, s.toks ≤ k → Q (.str (x ++ y) t') { s with toks := k }) : wpAny (model prog w) A (binaryOp .Add (.str x t) (.str y u)) Q E s :=
  wpAny_toks (Nat.le_refl _) (wpAny_mono (SBL.add (hsz := hsz) (Q := fun v s' => ∃ t' k, v = .str (x ++ y) t' ∧ s' = { s with toks := k }) (fun t0 k0 _ => ⟨t0, k0, rfl, rfl⟩)) (fun v s0 hv hk => by obtain ⟨t', k, rfl, rfl⟩ := hv; exact h t' k hk) (fun _ _ e _ => e))
theorem r_replT {x y z : Str} {t u v : Tok} {Q : Value → Shared → Prop} (hu : @LT.lt Nat _ 0 u) (hv : v ≠ 0) (huv : u ≠ v) (hyz : (y == z) = false) (hx : x.length ≤ 1048576) (hz : z.length ≤ 14)
    (h : ∀ t' k, s.toks ≤ k → Q (.str (Txt.replace x y z) t') { s with toks := k }) : wpAny (model prog w) A (call (.builtin "str.replace") [.str x t, .str y u, .str z v]) Q E s :=
  wpAny_toks (Nat.le_refl _) (PySem.SC.replaceW (Nat.ne_of_gt hu) hv huv hyz hx hz (fun t' k hk => h t' k hk))
end
end Mine
end
section
open PySem PySem.W PyProof.Rows PySem.Calls PySem.Spec
set_option maxRecDepth 100000
set_option maxHeartbeats 1000000
namespace Mine
section
open PySem.Builtin PySem.Builtin.Str StrLaws
theorem repl_flat (x z : Str) (c : Nat) : (Txt.replace x ⟨#[c]⟩ z).cps.toList = x.cps.toList.flatMap (fun k => if k = c then z.cps.toList else [k]) := by
  rw [replace_one]
  have free : ∀ l : List Nat, c ∉ l → l.flatMap (fun k => if k = c then z.cps.toList else [k]) = l := by
    intro l h
    induction l with
    | nil => rfl
    | cons a l ih =>
      rw [List.flatMap_cons, ih (fun m => h (List.mem_cons_of_mem _ m)), if_neg (fun e => h (by rw [e]; exact List.mem_cons_self ..))]
      rfl
  have key : ∀ parts : List Str, (∀ p ∈ parts, c ∉ p.cps.toList) → (Str.join z parts).cps.toList = (Str.join ⟨#[c]⟩ parts).cps.toList.flatMap (fun k => if k = c then z.cps.toList else [k]) := by
    intro parts
    induction parts with
    | nil => intro _; rfl
    | cons p r ih =>
      intro h
      cases r with
      | nil => exact (free _ (h p (List.mem_singleton.mpr rfl))).symm
      | cons q r =>
        show (p ++ z ++ Str.join z (q :: r)).cps.toList = (p ++ ⟨#[c]⟩ ++ Str.join ⟨#[c]⟩ (q :: r)).cps.toList.flatMap _
        simp only [Str.cps_append, Array.toList_append, List.flatMap_append]
        rw [ih (fun a ha => h a (List.mem_cons_of_mem _ ha)), free _ (h p (List.mem_cons_self ..))]
        simp
  rw [key _ (split_free x c), join_split]
theorem escQ_flat : ∀ l : List Nat, escQ l = (l.flatMap (fun k => if k = 92 then [92, 92] else [k])).flatMap (fun k => if k = 34 then [92, 34] else [k])
  | [] => rfl
  | c :: r => by
    rw [List.flatMap_cons, List.flatMap_append, ← escQ_flat r]
    show (if c = 92 ∨ c = 34 then 92 :: c :: escQ r else c :: escQ r) = _
    by_cases h1 : c = 92
    · subst h1; simp
    · by_cases h2 : c = 34
      · subst h2; simp
      · simp [h1, h2]
theorem repl_escQ (x : Str) : (Txt.replace (Txt.replace x (Str.ofString "\\") (Str.ofString "\\\\")) (Str.ofString "\"") (Str.ofString "\\\"")).cps.toList = escQ x.cps.toList := by
  rw [ofS "\\" [92], ofS "\"" [34], repl_flat, repl_flat, ofS "\\\\" [92, 92], ofS "\\\"" [92, 34], escQ_flat]
theorem escQ_len2 : ∀ l : List Nat, (escQ l).length ≤ 2 * l.length
  | [] => Nat.le_refl _
  | c :: r => by
    have := escQ_len2 r
    unfold escQ
    split <;> simp only [List.length_cons] <;> omega
theorem escB_len2 : ∀ l : List Nat, (escB l).length = 2 * l.length
  | [] => rfl
  | c :: r => by
    have := escB_len2 r
    unfold escB
    simp only [List.length_cons]; omega
theorem encE_len (e : List Nat × Bool) : (encE e).length ≤ 2 * e.1.length + 2 := by
  have h1 := escQ_len2 e.1
  have h2 := escB_len2 e.1
  unfold encE encB encQ
  split <;> simp only [List.length_append, List.length_cons, List.length_nil] <;> omega
end
noncomputable def MsgV.word (m : MsgV) : Str := Str.join (Str.ofString ".") (m.ps.map (·.1)) ++ m.tl
noncomputable def MsgV.enc (m : MsgV) : List Nat := encE (m.word.cps.toList, m.b == 1)
theorem encs_len {ms : List MsgV} {B : Nat} (h : ∀ m ∈ ms, m.word.length ≤ B) : (ms.flatMap MsgV.enc).length ≤ ms.length * (2 * B + 2) := by
  induction ms with
  | nil => simp
  | cons m ms ih =>
    have h1 := ih (fun a ha => h a (List.mem_cons_of_mem _ ha))
    have h2 := encE_len (m.word.cps.toList, m.b == 1)
    have h3 := h m (List.mem_cons_self ..)
    have h4 : m.word.cps.toList.length = m.word.length := by simp [Str.length]
    simp only [h4] at h2
    rw [List.flatMap_cons, List.length_append, List.length_cons, Nat.succ_mul]
    have : (MsgV.enc m).length ≤ 2 * m.word.length + 2 := h2
    omega
theorem join_esc (l : List (Str × Tok)) (w : List Nat) (h : l.map (·.1) = w.map (fun c => Str.ofString "\\" ++ chS c)) : (Str.join (Str.ofString "") (l.map (·.1))).cps.toList = escB w := by
  rw [h, ofS "" [], ofS "\\" [92]]
  have key : ∀ w : List Nat, (Str.join (tS []) (w.map (fun c => tS [92] ++ chS c))).cps.toList = escB w := by
    intro w
    induction w with
    | nil => rfl
    | cons c w ih =>
      cases w with
      | nil => simp [Str.join, escB, chS, Str.cps_append]
      | cons d w =>
        show ((tS [92] ++ chS c) ++ tS [] ++ Str.join (tS []) ((d :: w).map (fun c => tS [92] ++ chS c))).cps.toList = _
        simp only [Str.cps_append, Array.toList_append]
        rw [ih]
        simp [escB, chS]
  exact key w
theorem quo_step {T R : Str} {A w : List Nat} (hT : T.cps.toList = A) (hR : R.cps.toList = escQ w) : (T ++ Str.ofString "\"" ++ R ++ Str.ofString "\"").cps.toList = A ++ encQ w := by
  rw [ofS "\"" [34]]
  simp only [Str.cps_append, Array.toList_append, hT, hR, encQ]
  simp
theorem esc_step {T J : Str} {A w : List Nat} (hT : T.cps.toList = A) (hJ : J.cps.toList = escB w) : (T ++ J ++ Str.ofString "\n").cps.toList = A ++ encB w := by
  rw [ofS "\n" [10]]
  simp only [Str.cps_append, Array.toList_append, hT, hJ, encB]
  simp
theorem enc_quo {m : MsgV} (h : m.b ≠ 1 ∨ m.word = Str.ofString "") : MsgV.enc m = encQ m.word.cps.toList := by
  unfold MsgV.enc encE
  rw [if_neg]
  rintro ⟨h1, h2⟩
  rcases h with h | h
  · exact h (by simpa using h1)
  · refine h2 ?_
    rw [h, ofS "" []]
theorem enc_bare {m : MsgV} (h : m.b = 1) (h2 : m.word ≠ Str.ofString "") : MsgV.enc m = encB m.word.cps.toList := by
  unfold MsgV.enc encE
  rw [if_pos]
  refine ⟨by simp [h], fun e => h2 ?_⟩
  rw [ofS "" []]
  exact Str.ext' (Array.toList_inj.mp e)
theorem enc_snoc (ms : List MsgV) (x : MsgV) : (ms ++ [x]).flatMap MsgV.enc = ms.flatMap MsgV.enc ++ MsgV.enc x := by simp
theorem le_of_map : ∀ (l : List Nat), l.length ≤ 100 → (l.map ((·.length) ∘ fun c => Str.ofString "\\" ++ chS c)).sum ≤ 1000 := by
  have key : ∀ (l : List Nat), (l.map ((·.length) ∘ fun c => Str.ofString "\\" ++ chS c)).sum = 2 * l.length := by
    intro l
    induction l with
    | nil => rfl
    | cons c l ih =>
      rw [List.map_cons, List.sum_cons, ih, List.length_cons]
      have : ((fun x => x.length) ∘ fun c => Str.ofString "\\" ++ chS c) c = 2 := by
        show (Str.ofString "\\" ++ chS c).length = 2
        rw [Str.length_append, show (Str.ofString "\\").length = 1 by decide +kernel]; rfl
      rw [this]; omega
  intro l h
  rw [key]; omega
/-- the invariant of _law_written's loop -/
inductive TWr (g : Heap) (L : Addr) (s0 : Shared) (lm it : Addr) (ms : List MsgV) (i : Nat) (s : Shared) : Prop
  | mk (h : Heap) (tk : Nat) (mm : Str → Option Value) (tt : Tok) (oi : Obj) (T : Str) (x0 : s = { s0 with heap := h, toks := tk }) (x1 : Fr g L h (fun y => if y = Str.ofString "text" then some (.str T tt) else mm y)) (x2 : News g L h [(it, oi)]) (x3 : IsLi oi lm i) (x4 : T.cps.toList = (ms.take i).flatMap MsgV.enc) (x5 : i ≤ ms.length) : TWr g L s0 lm it ms i s
theorem fr_pick {g h : Heap} {L : Addr} {f : Str → Option Value} {x : Str} {v : Value} (F : Fr g L h f) (e : f x = some v) : Fr g L h (fun y => if y = x then some v else f y) := fr_congr F (by
  intro y
  by_cases q : y = x
  · rw [if_pos q, q, e]
  · rw [if_neg q])
/-- the invariant of its comprehension -/
inductive TWc (g : Heap) (L : Addr) (s0 : Shared) (m : Str → Option Value) (rest : List (Addr × Obj)) (its acc C : Addr) (x : Str) (k : Nat) (s : Shared) : Prop
  | mk (h : _) (tk : _) (oC : _) (mC : _) (oi : _) (l : _) (nl : _) (x0 : s = { s0 with heap := h, toks := tk }) (x1 : Fr g L h m) (x2 : News g L h ((C, oC) :: (acc, listOf (strValues l).toArray nl) :: (its, oi) :: rest)) (x3 : LCg.NsObj oC mC) (x4 : IsSi oi x k) (x5 : l.map (·.1) = (x.cps.toList.take k).map (fun c => Str.ofString "\\" ++ chS c)) (x6 : k ≤ x.cps.toList.length) : TWc g L s0 m rest its acc C x k s
end Mine
end
section
open PySem PySem.W PyProof.Rows PySem.Calls PySem.Spec
set_option maxRecDepth 100000
set_option maxHeartbeats 1000000
namespace Mine
section
variable {prog : Program} {w : World} {A : Around} {E : Value → Shared → Prop} {s : Shared} {g : Heap} {L : Addr} {m : Str → Option Value} {rest : List (Addr × Obj)}
theorem r_setitem {D : Addr} {vs : List Value} {n k : Nat} {t : Tok} {v : Value} {Q : Unit → Shared → Prop} (F : Fr g L s.heap m) (N : News g L s.heap ((D, listOf vs.toArray n) :: rest)) (off : ∀ p ∈ rest, p.1 ≠ D) (hk : k < vs.length) (hk2 : k ≤ 1000000)
    (h : ∀ h', Fr g L h' m → News g L h' ((D, listOf (vs.set k v).toArray n) :: rest) → Q () { s with heap := h' }) : wpAny (model prog w) A (setItem (.ref D) (.int (k : Int) t) v) Q E s := by
  have z := N _ (.head _)
  refine ki_setAt z.1 (Int.natCast_nonneg _) (len_fit hk2) (by simp; exact hk) (h _ (F.change (Heap.SameBut.update ..) z.2.1 z.2.2) (ki_turn (pre := []) (post := rest) _ N (fun p hp => nomatch hp) off ?_ ?_))
  · show vs.toArray.setIfInBounds (k : Int).toNat v = (vs.set k v).toArray
    apply Array.toList_inj.mp
    simp
  · simp
theorem rep_one (k : Nat) (v : Value) : List.foldl (fun x1 x2 => x1 ++ x2) #[] (List.replicate k #[v]) = (List.replicate k v).toArray := by
  have key : ∀ (k : Nat) (a : Array Value), List.foldl (fun x1 x2 => x1 ++ x2) a (List.replicate k #[v]) = a ++ (List.replicate k v).toArray := by
    intro k
    induction k with
    | zero => intro a; simp
    | succ k ih => intro a; rw [List.replicate_succ, List.foldl_cons, ih, List.replicate_succ]; apply Array.toList_inj.mp; simp
  rw [key]; simp
theorem r_mulList {l : Addr} {v : Value} {n : Nat} {x : Int} {u : Tok} {Q : Value → Shared → Prop} (F : Fr g L s.heap m) (N : News g L s.heap rest) (hl : s.heap.get? l = some (listOf [v].toArray n)) (hlo : -1000 ≤ x) (hhi : x ≤ 100000)
    (h : ∀ h' D, Fr g L h' m → News g L h' ((D, listOf (List.replicate x.toNat v).toArray 0) :: rest) → (∀ p ∈ rest, p.1 < D) → Q (.ref D) { s with heap := h' }) :
    wpAny (model prog w) A (binaryOp .Mult (.ref l) (.int x u)) Q E s := by
  refine mul_list F N hl (Int.le_trans (by decide) hlo) (Int.lt_of_le_of_lt hhi (by decide)) (by simp; exact Int.le_trans hhi (by decide)) fun h' F' N' => ?_
  rw [if_neg (by simp), rep_one] at N'
  exact h h' _ F' N' (fun p hp => Heap.lt_size (N p hp).1)
theorem r_addLists {l b : Addr} {as bs : List Value} {n1 n2 : Nat} {Q : Value → Shared → Prop} (F : Fr g L s.heap m) (N : News g L s.heap rest) (hl : s.heap.get? l = some (listOf as.toArray n1)) (hb : s.heap.get? b = some (listOf bs.toArray n2)) (hsz : as.length + bs.length ≤ 100000)
    (h : ∀ h' D, Fr g L h' m → News g L h' ((D, listOf (as ++ bs).toArray 0) :: rest) → (∀ p ∈ rest, p.1 < D) → Q (.ref D) { s with heap := h' }) :
    wpAny (model prog w) A (binaryOp .Add (.ref l) (.ref b)) Q E s :=
  add_arrays F N ⟨_, hl, rfl, n1, rfl⟩ ⟨_, hb, rfl, n2, rfl⟩ (fun h' F' N' => h h' _ F' (by simpa using N') (fun p hp => Heap.lt_size (N p hp).1)) (by rw [sizeLine_eq]; simp; omega)
theorem comp_test1 {cenv : Env} {c : PySem.Expr} {Q : Bool → Shared → Prop} (h : wpAny (model prog w) A (isTrue c cenv (eval c cenv)) Q E s) : wpAny (model prog w) A (compTests [c] cenv) Q E s := by
  unfold compTests
  simp only [List.forIn_cons, List.forIn_nil, if_true, bind_assoc, pure_bind]
  refine wpAny_bind (wpAny_mono h (fun b s' hb => ?_) fun _ _ e => e)
  exact wpAny_pure hb
end
/-- a name in three parts as it lies in the heap -/
structure NameV where
  (nd : Addr) (nn : Nat) (a0 a1 a2 : Str) (u0 u1 u2 : Tok)
noncomputable def NameV.led (v : NameV) : List (Addr × Obj) := [(v.nd, listOf [Value.str v.a0 v.u0, .str v.a1 v.u1, .str v.a2 v.u2].toArray v.nn)]
noncomputable def NameV.trip (v : NameV) : Str × Str × Str := (v.a0, v.a1, v.a2)
noncomputable def nmRefs (vs : List NameV) : List Value := vs.map fun v => .ref v.nd
noncomputable def pad3 : List Str → Str × Str × Str
  | [a] => (Str.ofString "", Str.ofString "", a)
  | [a, b] => (Str.ofString "", a, b)
  | a :: b :: c :: _ => (a, b, c)
  | [] => (Str.ofString "", Str.ofString "", Str.ofString "")
noncomputable def MsgV.pad (m : MsgV) : Str × Str × Str := pad3 (m.ps.map (·.1))
theorem pad_made {ps : List (Str × Tok)} {t : Tok} (h1 : 1 ≤ ps.length) (h3 : ps.length ≤ 3) : ∃ a0 a1 a2 u0 u1 u2, List.replicate (3 - (ps.length : Int)).toNat (Value.str (Str.ofString "") t) ++ strValues ps = [.str a0 u0, .str a1 u1, .str a2 u2] ∧ (a0, a1, a2) = pad3 (ps.map (·.1)) := by
  match ps, h1, h3 with
  | [a], _, _ => exact ⟨_, _, _, _, _, _, rfl, rfl⟩
  | [a, b], _, _ => exact ⟨_, _, _, _, _, _, rfl, rfl⟩
  | [a, b, c], _, _ => exact ⟨_, _, _, _, _, _, rfl, rfl⟩
theorem nm_push (vs : List NameV) (v : NameV) : (nmRefs vs).toArray.push (.ref v.nd) = (nmRefs (vs ++ [v])).toArray := by simp [nmRefs]
theorem nled_push (vs : List NameV) (v : NameV) : (vs ++ [v]).flatMap NameV.led = vs.flatMap NameV.led ++ v.led := by simp
theorem nm_above {vs : List NameV} {b : Nat} (h : ∀ v ∈ vs, @LT.lt Nat _ b v.nd) : ∀ p ∈ vs.flatMap NameV.led, @LT.lt Nat _ b p.1 := by
  intro p hp
  obtain ⟨v, hv, hp⟩ := List.mem_flatMap.mp hp
  rw [List.mem_singleton.mp hp]
  exact h v hv
/-- the invariant of _law_due's first comprehension -/
inductive TNm (g : Heap) (L : Addr) (s0 : Shared) (m : Str → Option Value) (rest : List (Addr × Obj)) (lm it acc C : Addr) (ms : List MsgV) (k : Nat) (s : Shared) : Prop
  | mk (h : Heap) (tk : Nat) (oC : Obj) (mC : Str → Option Value) (oi : Obj) (nml : Nat) (vs : List NameV) (x0 : s = { s0 with heap := h, toks := tk }) (x1 : Fr g L h m) (x2 : News g L h ((C, oC) :: (acc, listOf (nmRefs vs).toArray nml) :: (it, oi) :: (rest ++ vs.flatMap NameV.led))) (x3 : LCg.NsObj oC mC) (x4 : IsLi oi lm k) (x5 : vs.map NameV.trip = (ms.take k).map MsgV.pad) (x6 : (∀ v ∈ vs, @LT.lt Nat _ C v.nd)) (x7 : k ≤ ms.length) : TNm g L s0 m rest lm it acc C ms k s
end Mine
end
section
open PySem PySem.W PyProof.Rows PySem.Calls PySem.Spec
set_option maxRecDepth 100000
set_option maxHeartbeats 1000000
namespace Mine
noncomputable def aheadNV (v1 v2 : Str × Str × Str) (i j : Nat) (l0 l1 l2 : Int) : Bool := aheadV v1.1 v1.2.1 v1.2.2 v2.1 v2.2.1 v2.2.2 i j l0 l1 l2
noncomputable abbrev noPad : Str × Str × Str := (Str.ofString "", Str.ofString "", Str.ofString "")
noncomputable def aheadIx (ps : List (Str × Str × Str)) (l0 l1 l2 : Int) (i j : Nat) : Bool := aheadNV (ps.getD i noPad) (ps.getD j noPad) i j l0 l1 l2
noncomputable def aheadSel (ps : List (Str × Str × Str)) (l0 l1 l2 : Int) (one other : Nat) : Bool := other != one && aheadIx ps l0 l1 l2 other one
noncomputable def placeIx (ps : List (Str × Str × Str)) (l0 l1 l2 : Int) (one : Nat) : Nat := ((List.range ps.length).filter (aheadSel ps l0 l1 l2 one)).length
noncomputable def MsgV.due (m : MsgV) : Str := Txt.mul (Str.ofString ":") (4 - (m.ps.length : Int)) ++ Str.join (Str.ofString ":") (m.ps.map (·.1)) ++ m.tl
noncomputable def dueFold (ps : List (Str × Str × Str)) (l0 l1 l2 : Int) (dues : List Str) (k : Nat) : List Str :=
  (List.range k).foldl (fun d one => d.set (placeIx ps l0 l1 l2 one) (dues.getD one (Str.ofString ""))) (List.replicate dues.length (Str.ofString ""))
theorem dueFold_succ (ps : List (Str × Str × Str)) (l0 l1 l2 : Int) (dues : List Str) (k : Nat) : dueFold ps l0 l1 l2 dues (k + 1) = (dueFold ps l0 l1 l2 dues k).set (placeIx ps l0 l1 l2 k) (dues.getD k (Str.ofString "")) := by
  unfold dueFold
  rw [List.range_succ, List.foldl_append]; rfl
theorem dueFold_len (ps : List (Str × Str × Str)) (l0 l1 l2 : Int) (dues : List Str) (k : Nat) : (dueFold ps l0 l1 l2 dues k).length = dues.length := by
  induction k with
  | zero => simp [dueFold]
  | succ k ih => rw [dueFold_succ, List.length_set, ih]
/-- the invariant of _law_due's loop -/
inductive TDu (g : Heap) (L : Addr) (s0 : Shared) (lm du itr : Addr) (rest : List (Addr × Obj)) (ps : List (Str × Str × Str)) (l0 l1 l2 : Int) (dues : List Str) (k : Nat) (s : Shared) : Prop
  | mk (h : Heap) (tk : Nat) (mm : Str → Option Value) (oO : Obj) (vO : Option Value) (dl : List (Str × Tok)) (ndl : Nat) (x0 : s = { s0 with heap := h, toks := tk }) (x1 : Fr g L h (fun y => if y = Str.ofString "due" then some (.ref du) else if y = Str.ofString "messages" then some (.ref lm) else mm y)) (x2 : News g L h ((itr, riObj (k : Int) ((dues.length : Int) - (k : Int))) :: (du, listOf (strValues dl).toArray ndl) :: (L + 1 + 1 + 1, oO) :: rest)) (x3 : oO.data = .cell vO) (x4 : dl.map (·.1) = dueFold ps l0 l1 l2 dues k) (x5 : k ≤ dues.length) : TDu g L s0 lm du itr rest ps l0 l1 l2 dues k s
/-- the invariant of its second comprehension -/
inductive TPl (g : Heap) (L : Addr) (s0 : Shared) (m : Str → Option Value) (rest : List (Addr × Obj)) (itr acc C : Addr) (ps : List (Str × Str × Str)) (l0 l1 l2 : Int) (one : Nat) (k : Nat) (s : Shared) : Prop
  | mk (h : Heap) (tk : Nat) (oC : Obj) (mC : Str → Option Value) (l : List (Int × Tok)) (nl : Nat) (x0 : s = { s0 with heap := h, toks := tk }) (x1 : Fr g L h m) (x2 : News g L h ((C, oC) :: (acc, listOf (tvV l).toArray nl) :: (itr, riObj (k : Int) ((ps.length : Int) - (k : Int))) :: rest)) (x3 : LCg.NsObj oC mC) (x4 : l.length = ((List.range k).filter (aheadSel ps l0 l1 l2 one)).length) (x5 : k ≤ ps.length) : TPl g L s0 m rest itr acc C ps l0 l1 l2 one k s
theorem tv_push (l : List (Int × Tok)) (x : Int) (t : Tok) : (tvV l).toArray.push (.int x t) = (tvV (l ++ [(x, t)])).toArray := by simp [tvV]
theorem sel_len (P : Nat → Bool) (k : Nat) : ((List.range (k + 1)).filter P).length = ((List.range k).filter P).length + (if P k then 1 else 0) := by
  rw [List.range_succ, List.filter_append, List.length_append]
  cases h : P k <;> simp [List.filter, h]
theorem sel_le (P : Nat → Bool) (k : Nat) : ((List.range k).filter P).length ≤ k := by
  have := List.length_filter_le P (List.range k)
  simpa using this
theorem news_back {g h h' : Heap} {L lt : Addr} {led : List (Addr × Obj)} {o : Obj} (N : News g L h led) (hm : (lt, o) ∈ led) (N' : News g L h' [(lt, o)]) (K : ∀ b o, h.get? b = some o → b ∉ [lt] → h'.get? b = some o) : News g L h' led := by
  intro p hp
  refine ⟨?_, (N p hp).2⟩
  by_cases e : p.1 = lt
  · have h1 := (N p hp).1
    have h2 := (N _ hm).1
    rw [e] at h1 ⊢
    rw [h1] at h2
    cases h2
    exact (N' _ (.head _)).1
  · exact K _ _ (N p hp).1 (by simpa using e)
theorem nm_at {vs : List NameV} {q : Nat} (h : q < vs.length) : (nmRefs vs)[q]? = some (.ref (vs[q]).nd) := by simp [nmRefs, h]
theorem nm_mem {vs : List NameV} {v : NameV} (h : v ∈ vs) : (v.nd, listOf [Value.str v.a0 v.u0, .str v.a1 v.u1, .str v.a2 v.u2].toArray v.nn) ∈ vs.flatMap NameV.led := List.mem_flatMap.mpr ⟨v, h, .head _⟩
theorem nm_pad {vs : List NameV} {ps : List (Str × Str × Str)} (h : vs.map NameV.trip = ps) {q : Nat} (hq : q < vs.length) : ps.getD q noPad = (vs[q]).trip := by
  rw [← h]; simp [hq]
theorem ahead_eq {vs : List NameV} {ps : List (Str × Str × Str)} (h : vs.map NameV.trip = ps) {q k : Nat} (hq : q < vs.length) (hk : k < vs.length) (l0 l1 l2 : Int) :
    aheadV (vs[q]).a0 (vs[q]).a1 (vs[q]).a2 (vs[k]).a0 (vs[k]).a1 (vs[k]).a2 q k l0 l1 l2 = aheadIx ps l0 l1 l2 q k := by
  unfold aheadIx
  rw [nm_pad h hq, nm_pad h hk]; rfl
theorem sel_lt (ps : List (Str × Str × Str)) (l0 l1 l2 : Int) {k n : Nat} (h : k < n) : ((List.range n).filter (aheadSel ps l0 l1 l2 k)).length < n := by
  have := List.length_filter_lt_length_iff_exists (l := List.range n) (p := aheadSel ps l0 l1 l2 k)
  rw [List.length_range] at this
  exact this.mpr ⟨k, List.mem_range.mpr h, by simp [aheadSel]⟩
theorem strV_set (l : List (Str × Tok)) (i : Nat) (y : Str) (u : Tok) : (strValues l).set i (.str y u) = strValues (l.set i (y, u)) := by simp [strValues, List.map_set]
end Mine
end
section
open PySem PySem.W PyProof.Rows PySem.Calls PySem.Spec
open Mine
local macro_rules | `(tactic| walk_at "exec For") => `(tactic| (k_here; refine Stop.go ?_))
local macro_rules | `(tactic| walk_at "eval ListComp") => `(tactic| (k_here; refine Stop.go ?_))
local macro_rules | `(tactic| walk_at "exec Assign cons ListComp") => `(tactic| (k_here; refine Stop.go ?_))
local macro_rules | `(tactic| walk_at "pyIter ref") => `(tactic| (k_here; refine Stop.go ?_))
local macro_rules | `(tactic| walk_at "eval Name") => `(tactic| (k_here; (with_reducible show wpAny _ _ (eval _ (compEnvC _ _ _ _)) _ _ _); k_dflt (apply comp_load; k_asm; k_mem; assumption; (first | exact if_pos rfl | exact (if_neg (by decide +kernel)).trans (if_pos rfl) | exact (if_neg (by decide +kernel)).trans ((if_neg (by decide +kernel)).trans (if_pos rfl))); with_unfolding_all rfl; with_unfolding_all rfl; decide +kernel)))
section
open PySem PySem.W PyProof.Rows PySem.Calls PySem.Spec
set_option maxRecDepth 100000
set_option maxHeartbeats 8000000
namespace Mine
local macro_rules | `(tactic| walk_at "exec For Name Name cons nil") => `(tactic| (k_here; refine Stop.go ?_))
local macro_rules | `(tactic| walk_at "exec For Name Call cons nil") => `(tactic| (k_here; refine Stop.go ?_))
local macro_rules | `(tactic| walk_at "eval Lambda") => `(tactic| (k_here; refine Stop.go ?_))
section
variable {w : World} {p : Program} {loose : List Str} {mean : ExcName → Option Value} {mg mb : Str → Option Value}
  {dp un : Nat} {gd : Option (List Code)} {cn : Str} {cs : Scope} {a : Addr} {ccd : Value} {cl : List (Str × Addr)} {outer : List Env} {A₀ : Around} {base h₀ : Heap} {L : Addr} {m : Str → Option Value} {s : Shared} {R : Result → Shared → Prop}
  (B : Below A₀ base outer h₀) (F : Fr h₀ L s.heap m) (X : (hd.heap_39 w.params).In h₀) (T : Top p loose mean mg mb h₀) (hk : cs.kind = .function)
include B F X T hk
theorem told_ca {z : Lex} (Z : LexOk z) {ln : Int} {tl tn : Tok} {n n1 n2 n3 : Nat} {pb sg : List (Str × Tok)} {lt : Addr} {tv : List (Int × Tok)} {words : Nat → List Str} (ht : s.heap.get? lt = some (listOf (tvV tv).toArray n3)) (hlt : lt ∉ (125 :: lexAdr z)) (C2 : CodeHd base 127 125) (hS : SrcOk pb sg (words 0)) (hpb : pb.length ≤ 10000) (hsg : sg.length ≤ 10000) (hz : @LT.lt Nat _ 125 z.cell) (hwn : ∀ j, j ≤ tv.length → (words j).length = n) (hwl : ∀ j, j ≤ tv.length → ∀ w ∈ words j, w.length ≤ 10000) (hws : ∀ j (hj : j < tv.length), words (j + 1) = passS (tv[j].1 == 1) (words j)) (hnn : n ≤ 10000) (hdp : dp + 20 < recursionLimit) (hu : un + 100 < cLine) (N : News h₀ L s.heap ((125, tabObj #[]) :: lexLed w.params z ln tl (strValues pb) n1 (strValues sg) n2))
  (hret : ∀ tup acc l nl t0 h' tk ps9, @LT.lt Nat _ acc tup → l.map (·.1) = words tv.length → Fr h₀ L h' m → News h₀ L h' [(tup, { cls := .type "tuple", data := .seq #[.ref acc, .str (Str.ofString "") t0] }), (acc, listOf (strValues l).toArray nl), (125, tabObj ps9)] → (∀ b o, s.heap.get? b = some o → b ∉ 125 :: lexAdr z → h'.get? b = some o) → R (.ok (.ret (.ref tup))) { s with heap := h', toks := tk }) :
  codeAny (model PG w) (ktrTop dp un gd cn cs L a ccd cl outer) (.call (.ref 128) ⟨[.ref z.x, .int (n : Int) tn, .ref lt], []⟩) R s := by
  have hfill : PySem.Challenge.rw_pg0181_01 = PySem.Challenge.rw_pg0181_01 := rfl
  have hfill2 : hd.heap_39 = hd.heap_39 := rfl
  revert hfill hfill2
  k_fill
  intro _ _
  k_dflt ktr_enter
  rename_i g L1 h1 tk1 FG F1 B1 X1 T1 GS lt1 oc dc N1
  refine let_QE ?_
  intro E9 Q9
  refine let_A ?_
  intro A9
  obtain ⟨a1, a2, a3, a4, a5, a6, a7, a8, ⟨vs1, tq, d11, d12⟩, d2⟩ := id Z
  have htg := GS _ _ ht hlt
  k_steps
  unfold Stop
  k_dflt (refine for_start ?_)
  k_steps
  unfold Stop
  rename Fr _ _ _ _ => F2
  rename News _ _ _ _ => N2
  refine li_start F2 N2 (F2.keep _ _ htg) ?_
  intro h3 ito F3 N3 K3
  have hio : @LT.lt Nat _ (L1 + 1) ito := (K3 _ _ (N2 _ (.head _)).1).2
  clear N2
  obtain ⟨mm, F3m, hm1, hm2⟩ : ∃ mm : Str → Option Value, Fr g L1 h3 mm ∧ mm (Str.ofString "many") = some (.int (n : Int) tn) ∧ mm (Str.ofString "turns") = some (.ref lt) := ⟨_, F3, rfl, rfl⟩
  clear F3 F2
  obtain ⟨dcv, hdcv⟩ : ∃ o : Value, o = .ref z.x ∧ oc.data = .cell (some o) := ⟨_, rfl, dc⟩
  obtain ⟨rfl, dc2⟩ := hdcv
  clear dc
  let t : TP := ⟨g, L1, s, mm, z, w.params, n, tn, lt, oc, tv, words⟩
  have H : LtL t := lt1
  refine let_FR ?_
  intro Q8
  refine for_ind (TOut t ito) (fun j => tv.length + 1 - j) (by k_dflt passes_own) ?step 0 ⟨_, _, _, _, _, _, _, #[], [], ln, tl, pb, n1, sg, n2, rfl, fr_congr F3m (toldM_start (t := t) rfl hm1 hm2), news_sub N3 ?hsub, liNew_is lt, TabOk.nil, fun _ h => (nomatch h), hS, hpb, hsg, Nat.zero_le _⟩
  case hsub =>
    intro p hp
    simp only [LB, List.append_nil, List.mem_cons] at hp ⊢
    rcases hp with h | h | h | h
    · exact .inl h
    · exact .inr (.inr (.inl h))
    · exact .inr (.inl h)
    · exact .inr (.inr (.inr h))
  intro j s' hI
  obtain ⟨h6, tk6, lv6, rv6, pv6, wv6, oi6, ps6, cs6, ln6, tl6, pb6, n16, sg6, n26, rfl, F6, N6, hi6, hok6, hcs6, hS6, hpb6, hsg6, hj6⟩ := hI
  have off6 := off_LB (t := t) (ps := ps6) (ln := ln6) (tl := tl6) (pb := pb6) (sg := sg6) (n1 := n16) (n2 := n26) (cs := cs6) H hio (fun p hp => (hcs6 p hp).2)
  by_cases hjl : j < tv.length
  · refine li_item (n := n3) (v := .int (tv[j]).1 (tv[j]).2) F6 N6 off6 hi6 (F6.keep _ _ htg) (by simp [tvV, hjl]) ?_
    intro h7 oi7 hi7 F7 N7 K7
    clear F6 N6 F3m N3
    dsimp only [IndTurn]
    refine name_go ?_
    k_steps
    unfold Stop
    rename_i _ _ rowA _ lrow h8 F8 N8
    have lrow2 := kst_ltOf lrow.2.2.2
    k_dflt (refine for_start ?_)
    k_steps
    unfold Stop
    rename IsRange _ _ _ _ _ _ _ _ => hrg
    rename Fr _ _ _ _ => F9
    rename News _ _ _ _ => N9
    refine ri_start F9 N9 hrg (by show (0:Int) ≤ (n : Int); omega) (by show (n : Int) ≤ 10000; omega) ?_
    intro h10 itr F10 N10 K10
    have hir : @LT.lt Nat _ rowA itr := (K10 _ _ (N9 _ (.head _)).1).2
    have hirc : ∀ p ∈ cs6, @LT.lt Nat _ p.1 itr := fun p hp => (K10 _ _ (N9 _ (.tail _ (.tail _ (.tail _ (.tail _ (List.mem_append_right _ hp)))))).1).2
    clear F9 N9 K10
    refine let_FR ?_
    intro Q8
    refine for_ind (TRow t (tv[j]) ito itr rowA oi7 j) (fun k => n + 1 - k) (by k_dflt passes_own) ?step2 0 ⟨_, _, _, _, ps6, cs6, ln6, tl6, pb6, n16, sg6, n26, [], 0, rfl, toldM_next (t := t) F10 ?e1, N10, hok6, ?e2, by simpa using hS6, rfl, hpb6, hsg6, Nat.zero_le _⟩
    case e1 =>
      intro y d1 d2 d3 d4
      simp only [toldM, if_neg d1, if_neg d2, if_neg d3, if_neg d4]
    case e2 =>
      intro p hp
      have q1 := hcs6 p hp
      have q2 : @LT.lt Nat _ p.1 rowA := lrow2 p (List.mem_append_right _ hp)
      have q3 := hirc p hp
      exact ⟨q1.1, q1.2, Nat.ne_of_lt q2, Nat.ne_of_lt q3⟩
    clear F10 N10
    obtain ⟨q1, q2, q3, -⟩ := lrow
    intro k s' hI2
    obtain ⟨hA, tkA, pvA, wvA, psA, csA, lnA, tlA, pbA, n1A, sgA, n2A, rwA, nrA, rfl, FA, NA, okA, hcA, hSA, hrwA, hpbA, hsgA, hkA⟩ := hI2
    have offA : ∀ p ∈ (rowA, listOf (strValues rwA).toArray nrA) :: (ito, oi7) :: LB t psA lnA tlA pbA n1A sgA n2A csA, p.1 ≠ itr := by
      intro p hp
      rcases List.mem_cons.mp hp with rfl | hp
      · exact Nat.ne_of_lt hir
      · rcases List.mem_cons.mp hp with rfl | hp
        · exact Nat.ne_of_lt (Nat.lt_trans q1 hir)
        · exact off_LB (t := t) H (Nat.lt_trans hio (Nat.lt_trans q1 hir)) (fun p hp => (hcA p hp).2.2.2) p hp
    by_cases hkn : k < n
    · refine ri_item FA NA offA (by show (0:Int) < (n : Int) - (k : Int); omega) ?_
      intro hB FB NB KB
      clear FA NA KB
      have dc3 : t.oc.data = .cell (some (.ref t.z.x)) := dc2
      dsimp only [IndTurn]
      refine name_go ?_
      k_steps
      rename Fr _ _ _ _ => FC
      rename News _ _ _ _ => NC
      have hwk : ((words j).drop k) = (words j)[k]'(by rw [hwn j hj6]; exact hkn) :: (words j).drop (k + 1) := List.drop_eq_getElem_cons _
      k_dflt (refine' wpAny_call (gt_src ?kB FC ?kX ?kT rfl Z hSA hpbA hsgA ?kd ?ku (news_sub NC ?sub) ?_))
      case kB => k_asm
      case kX => k_asm
      case kT => k_asm
      case kd => ktr_room
      case ku => ktr_units
      case sub => exact fun p hp => List.mem_cons_of_mem _ (List.mem_cons_of_mem _ (List.mem_cons_of_mem _ (List.mem_cons_of_mem _ (List.mem_cons_of_mem _ (List.mem_append_left _ hp)))))
      intro tw hD tkD lnD tlD n1D n2D pbD sgD hSD hpbD hsgD FD ND' KD
      have ND := swapLex (t := t) (pre := [(itr, _), (rowA, _), (ito, _)]) Z hz H NC ND' KD ?hpre (fun p hp => Nat.lt_trans (Nat.lt_succ_self _) (hcA p hp).1)
      case hpre =>
        intro p hp
        simp only [List.mem_cons, List.not_mem_nil, or_false] at hp
        have q4 : @LT.lt Nat _ t.L ito := Nat.lt_trans (Nat.lt_succ_self _) hio
        have q5 : @LT.lt Nat _ t.L rowA := Nat.lt_trans q4 q1
        rcases hp with rfl | rfl | rfl
        · exact Nat.lt_trans q5 hir
        · exact q5
        · exact q4
      clear NC ND' KD FC
      replace ND : News t.g t.L hD ((itr, _) :: (rowA, _) :: (ito, _) :: LB t psA lnD tlD pbD n1D sgD n2D csA) := ND
      rw [hwk] at hSD ⊢
      dsimp only [List.tail_cons, List.headD_cons] at hSD ⊢
      generalize hword : (words j)[k]'(by rw [hwn j hj6]; exact hkn) = word at hwk ⊢
      have C3 : CodeHd g 127 125 := C2.keeps B1.stays
      have hwm : word ∈ words j := by rw [← hword]; exact List.getElem_mem _
      have hwx : word.length ≤ 100000 := Nat.le_trans (hwl j hj6 _ hwm) (by decide)
      have hlenA : (rwA.map (·.1)).length = k := by rw [hrwA, rowOf_length, List.length_take, hwn j hj6]; omega
      have hlenA2 : rwA.length = k := by rw [← hlenA, List.length_map]
      have hsmA : ∀ v ∈ rwA, v.1.length ≤ 1000000 := fun v hv => by
        have q : v.1 ∈ rwA.map (·.1) := List.mem_map_of_mem hv
        rw [hrwA, rowOf_mem] at q
        exact Nat.le_trans (hwl j hj6 _ (List.mem_of_mem_take q)) (by decide)
      have hsk : SortedK (rwA.map (·.1)) := by rw [hrwA]; exact rowOf_sorted _ _
      have htk : (words j).take (k + 1) = (words j).take k ++ [word] := by rw [List.take_add_one, List.getElem?_eq_getElem (by rw [hwn j hj6]; exact hkn), hword]; rfl
      have hirA : @LT.lt Nat _ (L1 + 1) itr := Nat.lt_trans hio (Nat.lt_trans q1 hir)
      have hrowA : @LT.lt Nat _ (L1 + 1) rowA := Nat.lt_trans hio q1
      k_steps
      · unfold Stop
        have hleft := (by assumption : tv[j].1 = 1)
        rename Fr _ _ _ _ => FE
        rename News _ _ _ _ => NE
        k_dflt (refine r_lambda (b := true) (ps := psA) (cs := csA) (rest := (itr, riObj (↑k + 1) (↑t.n - ↑k - 1)) :: (rowA, listOf (strValues rwA).toArray nrA) :: (ito, oi7) :: (L1 + 1, oc) :: (lexLed t.P t.z lnD tlD (strValues pbD) n1D (strValues sgD) n2D ++ csA)) FE (news_sub NE ?l1) T1 C3 ?l2 okA ?l3 rfl rfl rfl ?_)
        case l1 =>
          intro p hp
          simp only [LB, List.mem_cons] at hp ⊢
          rcases hp with h | h | h | h | h | h
          · exact .inr (.inr (.inr (.inl h)))
          · exact .inl h
          · exact .inr (.inl h)
          · exact .inr (.inr (.inl h))
          · exact .inr (.inr (.inr (.inr (.inl h))))
          · exact .inr (.inr (.inr (.inr (.inr h))))
        case l2 => 
          intro p hp
          have r1 : @LT.lt Nat _ 125 p.1 := by
            rcases List.mem_cons.mp hp with rfl | hp
            · exact Nat.lt_trans q2 hir
            rcases List.mem_cons.mp hp with rfl | hp
            · exact q2
            rcases List.mem_cons.mp hp with rfl | hp
            · exact Nat.lt_trans (Nat.lt_succ_of_lt lt1.1) hio
            rcases List.mem_cons.mp hp with rfl | hp
            · exact Nat.lt_succ_of_lt lt1.1
            rcases List.mem_append.mp hp with hp | hp
            · exact lex_above Z hz p hp
            · have r2 : @LT.lt Nat _ (L1 + 1) p.1 := (hcA p hp).1
              exact Nat.lt_trans (Nat.lt_succ_of_lt lt1.1) r2
          exact Nat.ne_of_gt r1
        case l3 => exact fun p hp => List.mem_cons_of_mem _ (List.mem_cons_of_mem _ (List.mem_cons_of_mem _ (List.mem_cons_of_mem _ (List.mem_append_right _ hp))))
        intro fF cF ocF vsF tF ctvF psF csF hF tkF lfF okF hmF dF1 dF2 hcF FF NF NcF
        have hcdF : hF.CodeRec (.ref cF) keyQ := ⟨cF, ocF, vsF, tF, rfl, (NcF _ hmF).1, dF1, dF2⟩
        have NcR : ∀ p ∈ csF, hF.get? p.1 = some p.2 ∧ p.1 ≠ t.L ∧ t.g.get? p.1 = none := NcF
        clear FE NE NcF
        k_steps
        have FG := FF
        have NG := NF
        clear FF NF
        have hkoF := (NG _ (.head _)).1
        k_dflt (refine' wpAny_call (insl_ca (b := true) (kf := fF) (c' := cF) (l := rowA) (x := word) (tx := tw) (ws := rwA) (n := nrA) ?kB FG ?kX ?kT rfl (insK_down hsk) hkoF hcdF hwx hsmA (by omega) ?kd ?ku (news_sub NG ?sub) ?_))
        case kB => k_asm
        case kX => k_asm
        case kT => k_asm
        case kd => ktr_room
        case ku => ktr_units
        case sub =>
          intro p hp
          rw [List.mem_singleton.mp hp]
          exact List.mem_cons_of_mem _ (List.mem_cons_of_mem _ (List.mem_cons_of_mem _ (.head _)))
        intro vH hH tkH nH FH NH' KH
        have hcF' : ∀ p ∈ csF, @LT.lt Nat _ (L1 + 1) p.1 ∧ p.1 ≠ ito ∧ p.1 ≠ rowA ∧ p.1 ≠ itr := by
          intro p hp
          rcases hcF p hp with h | h
          · exact hcA p h
          · have r1 : @LT.lt Nat _ itr p.1 := h _ (.head _)
            have r2 : @LT.lt Nat _ rowA p.1 := Nat.lt_trans hir r1
            have r3 : @LT.lt Nat _ ito p.1 := Nat.lt_trans q1 r2
            exact ⟨Nat.lt_trans hio r3, Nat.ne_of_gt r3, Nat.ne_of_gt r2, Nat.ne_of_gt r1⟩
        have NJ := news_swap (adr := [rowA]) (rest := (itr, riObj (↑k + 1) (↑t.n - ↑k - 1)) :: (ito, oi7) :: LB t psF lnD tlD pbD n1D sgD n2D csF) (led := _ ++ csF) (fun p hp => (List.mem_append.mp hp).elim (NG p) (NcR p)) NH' (fun b o e hb => KH b o e (fun q => hb (List.mem_singleton.mpr q))) ?side
        case side =>
          intro p hp
          refine ⟨?_, ?_⟩
          · simp only [LB, List.mem_cons, List.mem_append, List.not_mem_nil, or_false] at hp ⊢
            rcases hp with h | h | h | h | h | h
            · exact .inl (.inr (.inr (.inl h)))
            · exact .inl (.inr (.inr (.inr (.inr (.inl h)))))
            · exact .inl (.inr (.inl h))
            · exact .inl (.inr (.inr (.inr (.inr (.inr (.inl h))))))
            · exact .inl (.inr (.inr (.inr (.inr (.inr (.inr (.inl h)))))))
            · exact .inr h
          · rw [List.mem_singleton]
            rcases List.mem_cons.mp hp with rfl | hp
            · exact Nat.ne_of_gt hir
            rcases List.mem_cons.mp hp with rfl | hp
            · exact Nat.ne_of_lt q1
            · exact off_LB (t := t) H hrowA (fun p hp => (hcF' p hp).2.2.1) p hp
        clear NG NH' KH NcR FG
        k_steps
        have hrx : (insT true (word, tw) rwA).map (·.1) = rowOf (tv[j].1 == 1) ((words j).take (k + 1)) := by
          rw [insT_map, htk, rowOf_snoc, hrwA, show (tv[j].1 == 1) = true by simpa using hleft]
        refine ⟨k + 1, Nat.sub_lt_sub_left (Nat.lt_succ_of_lt hkn) (Nat.lt_succ_self k), _, _, _, _, psF, csF, lnD, tlD, pbD, n1D, sgD, n2D, insT true (word, tw) rwA, nH, rfl, toldM_next (t := t) FH ?e1, ?e2, okF, hcF', hSD, hrx, hpbD, hsgD, hkn⟩
        case e1 =>
          intro y d1 d2 d3 d4
          simp only [toldM, if_neg d1, if_neg d2, if_neg d3, if_neg d4]
        case e2 =>
          rw [← riObj_succ]
          intro p hp
          refine NJ p ?_
          simp only [LB, List.mem_cons, List.mem_append, List.not_mem_nil, or_false, List.cons_append, List.nil_append] at hp ⊢
          rcases hp with h | h | h
          · exact .inr (.inl h)
          · exact .inl h
          · exact .inr (.inr h)
      · unfold Stop
        have hleft := (by assumption : tv[j].1 ≠ 1)
        rename Fr _ _ _ _ => FE
        rename News _ _ _ _ => NE
        k_dflt (refine r_lambda (b := false) (ps := psA) (cs := csA) (rest := (itr, riObj (↑k + 1) (↑t.n - ↑k - 1)) :: (rowA, listOf (strValues rwA).toArray nrA) :: (ito, oi7) :: (L1 + 1, oc) :: (lexLed t.P t.z lnD tlD (strValues pbD) n1D (strValues sgD) n2D ++ csA)) FE (news_sub NE ?l1) T1 C3 ?l2 okA ?l3 rfl rfl rfl ?_)
        case l1 =>
          intro p hp
          simp only [LB, List.mem_cons] at hp ⊢
          rcases hp with h | h | h | h | h | h
          · exact .inr (.inr (.inr (.inl h)))
          · exact .inl h
          · exact .inr (.inl h)
          · exact .inr (.inr (.inl h))
          · exact .inr (.inr (.inr (.inr (.inl h))))
          · exact .inr (.inr (.inr (.inr (.inr h))))
        case l2 => 
          intro p hp
          have r1 : @LT.lt Nat _ 125 p.1 := by
            rcases List.mem_cons.mp hp with rfl | hp
            · exact Nat.lt_trans q2 hir
            rcases List.mem_cons.mp hp with rfl | hp
            · exact q2
            rcases List.mem_cons.mp hp with rfl | hp
            · exact Nat.lt_trans (Nat.lt_succ_of_lt lt1.1) hio
            rcases List.mem_cons.mp hp with rfl | hp
            · exact Nat.lt_succ_of_lt lt1.1
            rcases List.mem_append.mp hp with hp | hp
            · exact lex_above Z hz p hp
            · have r2 : @LT.lt Nat _ (L1 + 1) p.1 := (hcA p hp).1
              exact Nat.lt_trans (Nat.lt_succ_of_lt lt1.1) r2
          exact Nat.ne_of_gt r1
        case l3 => exact fun p hp => List.mem_cons_of_mem _ (List.mem_cons_of_mem _ (List.mem_cons_of_mem _ (List.mem_cons_of_mem _ (List.mem_append_right _ hp))))
        intro fF cF ocF vsF tF ctvF psF csF hF tkF lfF okF hmF dF1 dF2 hcF FF NF NcF
        have hcdF : hF.CodeRec (.ref cF) keyQ := ⟨cF, ocF, vsF, tF, rfl, (NcF _ hmF).1, dF1, dF2⟩
        have NcR : ∀ p ∈ csF, hF.get? p.1 = some p.2 ∧ p.1 ≠ t.L ∧ t.g.get? p.1 = none := NcF
        clear FE NE NcF
        k_steps
        have FG := FF
        have NG := NF
        clear FF NF
        have hkoF := (NG _ (.head _)).1
        k_dflt (refine' wpAny_call (insr_ca (b := false) (kf := fF) (c' := cF) (l := rowA) (x := word) (tx := tw) (ws := rwA) (n := nrA) ?kB FG ?kX ?kT rfl (insK_down hsk) hkoF hcdF hwx hsmA (by omega) ?kd ?ku (news_sub NG ?sub) ?_))
        case kB => k_asm
        case kX => k_asm
        case kT => k_asm
        case kd => ktr_room
        case ku => ktr_units
        case sub =>
          intro p hp
          rw [List.mem_singleton.mp hp]
          exact List.mem_cons_of_mem _ (List.mem_cons_of_mem _ (List.mem_cons_of_mem _ (.head _)))
        intro vH hH tkH nH FH NH' KH
        have hcF' : ∀ p ∈ csF, @LT.lt Nat _ (L1 + 1) p.1 ∧ p.1 ≠ ito ∧ p.1 ≠ rowA ∧ p.1 ≠ itr := by
          intro p hp
          rcases hcF p hp with h | h
          · exact hcA p h
          · have r1 : @LT.lt Nat _ itr p.1 := h _ (.head _)
            have r2 : @LT.lt Nat _ rowA p.1 := Nat.lt_trans hir r1
            have r3 : @LT.lt Nat _ ito p.1 := Nat.lt_trans q1 r2
            exact ⟨Nat.lt_trans hio r3, Nat.ne_of_gt r3, Nat.ne_of_gt r2, Nat.ne_of_gt r1⟩
        have NJ := news_swap (adr := [rowA]) (rest := (itr, riObj (↑k + 1) (↑t.n - ↑k - 1)) :: (ito, oi7) :: LB t psF lnD tlD pbD n1D sgD n2D csF) (led := _ ++ csF) (fun p hp => (List.mem_append.mp hp).elim (NG p) (NcR p)) NH' (fun b o e hb => KH b o e (fun q => hb (List.mem_singleton.mpr q))) ?side
        case side =>
          intro p hp
          refine ⟨?_, ?_⟩
          · simp only [LB, List.mem_cons, List.mem_append, List.not_mem_nil, or_false] at hp ⊢
            rcases hp with h | h | h | h | h | h
            · exact .inl (.inr (.inr (.inl h)))
            · exact .inl (.inr (.inr (.inr (.inr (.inl h)))))
            · exact .inl (.inr (.inl h))
            · exact .inl (.inr (.inr (.inr (.inr (.inr (.inl h))))))
            · exact .inl (.inr (.inr (.inr (.inr (.inr (.inr (.inl h)))))))
            · exact .inr h
          · rw [List.mem_singleton]
            rcases List.mem_cons.mp hp with rfl | hp
            · exact Nat.ne_of_gt hir
            rcases List.mem_cons.mp hp with rfl | hp
            · exact Nat.ne_of_lt q1
            · exact off_LB (t := t) H hrowA (fun p hp => (hcF' p hp).2.2.1) p hp
        clear NG NH' KH NcR FG
        k_steps
        have hrx : (insT false (word, tw) rwA).map (·.1) = rowOf (tv[j].1 == 1) ((words j).take (k + 1)) := by
          rw [insT_map, htk, rowOf_snoc, hrwA, show (tv[j].1 == 1) = false by simpa using hleft]
        refine ⟨k + 1, Nat.sub_lt_sub_left (Nat.lt_succ_of_lt hkn) (Nat.lt_succ_self k), _, _, _, _, psF, csF, lnD, tlD, pbD, n1D, sgD, n2D, insT false (word, tw) rwA, nH, rfl, toldM_next (t := t) FH ?e1, ?e2, okF, hcF', hSD, hrx, hpbD, hsgD, hkn⟩
        case e1 =>
          intro y d1 d2 d3 d4
          simp only [toldM, if_neg d1, if_neg d2, if_neg d3, if_neg d4]
        case e2 =>
          rw [← riObj_succ]
          intro p hp
          refine NJ p ?_
          simp only [LB, List.mem_cons, List.mem_append, List.not_mem_nil, or_false, List.cons_append, List.nil_append] at hp ⊢
          rcases hp with h | h | h
          · exact .inr (.inl h)
          · exact .inl h
          · exact .inr (.inr h)
    · have hkn2 : k = n := Nat.le_antisymm hkA (Nat.le_of_not_lt hkn)
      have hSA' : SrcOk pbA sgA [] := by
        have h := hSA
        rw [show t.words = words from rfl, List.drop_eq_nil_of_le (by rw [hwn j hj6]; exact Nat.le_of_eq hkn2.symm)] at h
        exact h
      obtain ⟨rfl, rfl⟩ := hSA'.nil_of
      have hrwN : rwA.map (·.1) = rowOf (tv[j].1 == 1) (words j) := by
        rw [hrwA, show t.words = words from rfl, List.take_of_length_le (by rw [hwn j hj6]; exact Nat.le_of_eq hkn2.symm)]
      have hrl : rwA.length ≤ 10000 := by
        have q : rwA.length = (words j).length := by rw [← rowOf_length (tv[j].1 == 1) (words j), ← hrwN, List.length_map]
        rw [hwn j hj6] at q
        exact q ▸ hnn
      refine ri_end rfl FA NA offA (by show (n : Int) - (k : Int) ≤ 0; first | exact i1e hkn2 | omega) ?_
      intro hB FB NB KB
      clear FA NA KB
      dsimp only [IndTurn]
      dsimp only [Q8]
      k_steps
      unfold Stop
      k_dflt (refine for_start ?_)
      k_steps
      unfold Stop
      rename Fr _ _ _ _ => FC
      rename News _ _ _ _ => NC
      refine li_start FC NC (NC _ (.head _)).1 ?_
      intro hD itw FD ND KD
      have hiw : @LT.lt Nat _ rowA itw := (KD _ _ (NC _ (.head _)).1).2
      have hiwc : ∀ p ∈ csA, @LT.lt Nat _ p.1 itw := fun p hp => (KD _ _ (NC _ (.tail _ (.tail _ (.tail _ (.tail _ (List.mem_append_right _ hp)))))).1).2
      clear FC NC KD
      refine let_FR ?_
      intro Q8
      refine for_ind (TPush t ito itw rowA oi7 rwA nrA) (fun i => rwA.length + 1 - i) (by k_dflt passes_own) ?step3 0 ⟨_, _, _, _, _, _, _, psA, csA, lnA, tlA, [], n1A, n2A, rfl, toldM_next (t := t) FD ?e1, ND, liNew_is rowA, okA, fun p hp => ⟨(hcA p hp).1, (hcA p hp).2.1, (hcA p hp).2.2.1, Nat.ne_of_lt (hiwc p hp)⟩, rfl, rfl, Nat.zero_le _⟩
      case e1 =>
        intro y d1 d2 d3 d4
        simp only [toldM, if_neg d1, if_neg d2, if_neg d3, if_neg d4]
      clear FD ND
      intro i s' hI3
      obtain ⟨hE, tkE, lvE, rvE, pvE, wvE, owE, psE, csE, lnE, tlE, pbE, n1E, n2E, rfl, FE, NE, hiE, okE, hcE, hpE, hplE, hiE2⟩ := hI3
      have offE : ∀ p ∈ (rowA, listOf (strValues rwA).toArray nrA) :: (ito, oi7) :: LB t psE lnE tlE pbE n1E [] n2E csE, p.1 ≠ itw := by
        intro p hp
        rcases List.mem_cons.mp hp with rfl | hp
        · exact Nat.ne_of_lt hiw
        · rcases List.mem_cons.mp hp with rfl | hp
          · exact Nat.ne_of_lt (Nat.lt_trans q1 hiw)
          · exact off_LB (t := t) H (Nat.lt_trans hio (Nat.lt_trans q1 hiw)) (fun p hp => (hcE p hp).2.2.2) p hp
      by_cases hirw : i < rwA.length
      · refine li_item (v := .str rwA[i].1 rwA[i].2) FE NE offE hiE (NE _ (.tail _ (.head _))).1 (by simp [strValues, hirw]) ?_
        intro hG owG hiG FG NG KG
        clear FE NE KG
        have dc3 : t.oc.data = .cell (some (.ref t.z.x)) := dc2
        dsimp only [IndTurn]
        refine name_go ?_
        k_steps
        rename Fr _ _ _ _ => FH
        rename News _ _ _ _ => NH
        have hwm : rwA[i].1 ∈ words j := by
          have q : rwA[i].1 ∈ rwA.map (·.1) := List.mem_map_of_mem (List.getElem_mem _)
          rw [hrwN, rowOf_mem] at q
          exact q
        k_dflt (refine' wpAny_call (turned_ca ?kB FH ?kX ?kT rfl (Nat.le_trans (hwl j hj6 _ hwm) (by decide)) ?kd ?ku News.nil ?_))
        case kB => k_asm
        case kX => k_asm
        case kT => k_asm
        case kd => ktr_room
        case ku => ktr_units
        intro tu hI tkI FI KI
        have NI : News t.g t.L hI _ := fun p hp => ⟨KI _ _ (NH p hp).1, (NH p hp).2⟩
        clear NH FH KI
        k_steps
        rename Fr _ _ _ _ => FJ
        rename News _ _ _ _ => NJ
        k_dflt (refine' wpAny_call (push_ca ?kB FJ ?kX ?kT rfl Z (l := pbE) (y := turnS rwA[i].1) (u := tu) (sgv := []) ?hl ?kd ?ku (news_sub NJ ?sub) ?_))
        case kB => k_asm
        case kX => k_asm
        case kT => k_asm
        case kd => ktr_room
        case ku => ktr_units
        case hl => omega
        case sub => exact fun p hp => List.mem_cons_of_mem _ (List.mem_cons_of_mem _ (List.mem_cons_of_mem _ (List.mem_cons_of_mem _ (List.mem_cons_of_mem _ (List.mem_append_left _ hp)))))
        intro vK hK tkK n1K FK NK' KK
        have NK := swapLex (t := t) (pre := [(itw, _), (rowA, _), (ito, _)]) (pb' := pbE ++ [(turnS rwA[i].1, tu)]) (sg' := []) Z hz H NJ NK' KK ?hpre (fun p hp => Nat.lt_trans (Nat.lt_succ_self _) (hcE p hp).1)
        case hpre =>
          intro p hp
          simp only [List.mem_cons, List.not_mem_nil, or_false] at hp
          have q4 : @LT.lt Nat _ t.L ito := Nat.lt_trans (Nat.lt_succ_self _) hio
          have q5 : @LT.lt Nat _ t.L rowA := Nat.lt_trans q4 q1
          rcases hp with rfl | rfl | rfl
          · exact Nat.lt_trans q5 hiw
          · exact q5
          · exact q4
        clear NJ NK' KK FJ
        k_steps
        refine ⟨i + 1, Nat.sub_lt_sub_left (Nat.lt_succ_of_lt hirw) (Nat.lt_succ_self i), _, _, _, _, _, _, _, psE, csE, lnE, tlE, pbE ++ [(turnS rwA[i].1, tu)], n1K, n2E, rfl, toldM_next (t := t) FK ?e1, NK, hiG, okE, hcE, ?e3, ?e4, hirw⟩
        case e1 =>
          intro y d1 d2 d3 d4
          simp only [toldM, if_neg d1, if_neg d2, if_neg d3, if_neg d4]
        case e3 =>
          have e : rwA.take (i + 1) = rwA.take i ++ [rwA[i]] := by rw [List.take_add_one, List.getElem?_eq_getElem hirw]; rfl
          rw [e, List.map_append, List.map_append, hpE]; rfl
        case e4 => rw [List.length_append, hplE]; rfl
      · have hie : i = rwA.length := Nat.le_antisymm hiE2 (Nat.le_of_not_lt hirw)
        refine li_end rfl FE NE offE hiE (NE _ (.tail _ (.head _))).1 (by simp [strValues, hie]) ?_
        intro hG FG NG KG
        clear FE NE KG
        dsimp only [IndTurn]
        dsimp only [Q8]
        k_steps
        rename Fr _ _ _ _ => FH
        rename News _ _ _ _ => NH
        refine ⟨j + 1, Nat.sub_lt_sub_left (Nat.lt_succ_of_lt hjl) (Nat.lt_succ_self j), _, _, _, _, _, _, oi7, psE, csE, lnE, tlE, pbE, n1E, [], n2E, rfl, toldM_next (t := t) FH ?f1, news_sub NH (fun p hp => List.mem_cons_of_mem _ hp), hi7, okE, fun p hp => ⟨(hcE p hp).1, (hcE p hp).2.1⟩, .inl ⟨rfl, ?f2⟩, ?f3, Nat.zero_le _, hjl⟩
        case f1 =>
          intro y d1 d2 d3 d4
          simp only [toldM, if_neg d1, if_neg d2, if_neg d3, if_neg d4]
        case f2 =>
          rw [hpE, hie, List.take_length, show t.words = words from rfl, hws j hjl, passS, ← hrwN, List.map_map]; rfl
        case f3 => 
          have q : rwA.length = (words j).length := by rw [← rowOf_length (tv[j].1 == 1) (words j), ← hrwN, List.length_map]
          rw [hwn j hj6] at q
          exact lqG hplE hiE2 (Nat.le_trans (Nat.le_of_eq q) hnn) (Nat.le_refl _)
  · have hje : j = tv.length := Nat.le_antisymm hj6 (Nat.le_of_not_lt hjl)
    refine li_end rfl F6 N6 off6 hi6 (F6.keep _ _ htg) (by simp [tvV, hje]) ?_
    intro h7 F7 N7 K7
    clear F6 N6 K7 F3m N3
    dsimp only [IndTurn]
    dsimp only [Q8]
    k_steps
    unfold Stop
    rename Fr _ _ _ _ => F8
    rename News _ _ _ _ => N8
    k_dflt (refine comp_assign (cl := [(Str.ofString "lexer", L1 + 1)]) (by with_unfolding_all rfl) (by with_unfolding_all rfl) (by decide) (by with_unfolding_all rfl) (by decide) ?_ (by with_unfolding_all (intro _; rfl)))
    k_steps
    unfold Stop
    rename IsRange _ _ _ _ _ _ _ _ => hrg
    rename Fr _ _ _ _ => F9
    rename News _ _ _ _ => N9
    refine ri_start F9 N9 hrg (by show (0:Int) ≤ (n : Int); omega) (by show (n : Int) ≤ 10000; omega) ?_
    intro h10 itr F10 N10 K10
    have hir : @LT.lt Nat _ (L1 + 1) itr := (K10 _ _ (N9 _ (.tail _ (.head _))).1).2
    have hirc : ∀ p ∈ cs6, @LT.lt Nat _ p.1 itr := fun p hp => (K10 _ _ (N9 _ (.tail _ (.tail _ (List.mem_append_right _ hp)))).1).2
    clear F9 N9 K10
    intro C hC tkC hlC haC hnsC hkC
    dsimp only at hlC haC hnsC hkC ⊢
    have hia : @LT.lt Nat _ itr h10.objs.size := Heap.lt_size (N10 _ (.head _)).1
    have hal : h10.get? h10.objs.size = none := Heap.get?_none_of_le (Nat.le_refl _)
    generalize h10.objs.size = acc at *
    obtain ⟨oC, eC, hOC⟩ := LCg.ns_obj hnsC
    have hLa : @LT.lt Nat _ L1 acc := Nat.lt_trans (Nat.lt_of_succ_lt hir) hia
    have F11 : Fr t.g L1 hC _ := F10.keeps hkC
    have above : ∀ b : Nat, @LT.lt Nat _ itr b → t.g.get? b = none := fun b hb => Heap.get?_none_of_le (Nat.le_trans F11.above (Nat.le_of_lt (Nat.lt_trans (Nat.lt_of_succ_lt hir) hb)))
    have N11 : News t.g L1 hC ((C, oC) :: (acc, listOf [].toArray 0) :: (itr, riObj 0 (t.n : Int)) :: LB t ps6 ln6 tl6 pb6 n16 sg6 n26 cs6) := by
      intro p hp
      rcases List.mem_cons.mp hp with rfl | hp
      · exact ⟨eC, Nat.ne_of_gt (Nat.lt_trans hLa hlC), above _ (Nat.lt_trans hia hlC)⟩
      rcases List.mem_cons.mp hp with rfl | hp
      · exact ⟨haC, Nat.ne_of_gt hLa, above _ hia⟩
      · exact ⟨hkC _ _ (N10 _ hp).1, (N10 _ hp).2⟩
    clear N10 F10 hnsC haC hkC eC
    refine ⟨?itself, ?loop⟩
    case itself => exact wpAny_pyIter_rangeiter (N11 _ (.tail _ (.tail _ (.head _)))).1 ⟨rfl, rfl⟩
    case loop =>
      refine let_CR ?_
      intro D8
      k_dflt (refine comp_ind (TComp t itr acc C) (fun k => n + 1 - k) ?step4 0 ⟨_, _, _, _, _, _, oC, _, ps6, cs6, ln6, tl6, pb6, n16, sg6, n26, [], 0, rfl, toldM_next (t := t) F11 ?e1, N11, hOC, fun p hp => ⟨(hcs6 p hp).1, hirc p hp⟩, ?e2, rfl, hpb6, hsg6, Nat.zero_le _⟩)
      case e1 =>
        intro y d1 d2 d3 d4
        simp only [toldM, if_neg d1, if_neg d2, if_neg d3, if_neg d4]
      case e2 => rw [hje] at hS6; exact hS6
      intro k s' hI4
      clear N11 F11
      obtain ⟨hE, tkE, lvE, rvE, pvE, wvE, oCE, mCE, psE, csE, lnE, tlE, pbE, n1E, sgE, n2E, lE, nlE, rfl, FE, NE, hOE, hcE, hSE, hlE, hpE, hsE, hkE⟩ := hI4
      have offE : ∀ p ∈ (C, oCE) :: (acc, listOf (strValues lE).toArray nlE) :: LB t psE lnE tlE pbE n1E sgE n2E csE, p.1 ≠ itr := by
        intro p hp
        rcases List.mem_cons.mp hp with rfl | hp
        · exact Nat.ne_of_gt (Nat.lt_trans hia hlC)
        rcases List.mem_cons.mp hp with rfl | hp
        · exact Nat.ne_of_gt hia
        · exact off_LB (t := t) H hir (fun p hp => Nat.ne_of_lt (hcE p hp).2) p hp
      replace NE : News t.g t.L hE ((itr, riObj (k : Int) ((t.n : Int) - (k : Int))) :: (C, oCE) :: (acc, listOf (strValues lE).toArray nlE) :: LB t psE lnE tlE pbE n1E sgE n2E csE) := news_sub NE (fun p hp => by
        simp only [LB, List.mem_cons] at hp ⊢
        rcases hp with h | h | h | h
        · exact .inr (.inr (.inl h))
        · exact .inl h
        · exact .inr (.inl h)
        · exact .inr (.inr (.inr h)))
      by_cases hkn : k < n
      · refine ri_item FE NE offE (by show (0:Int) < (n : Int) - (k : Int); omega) ?_
        intro hB FB NB KB
        clear FE NE KB
        dsimp only [CompTurn]
        refine name_go ?_
        refine comp_store (mC := mCE) (oC := oCE) (rest := (acc, listOf (strValues lE).toArray nlE) :: (itr, riObj ((k : Int) + 1) ((t.n : Int) - (k : Int) - 1)) :: LB t psE lnE tlE pbE n1E sgE n2E csE) FB (news_sub NB (fun p hp => by
          simp only [LB, List.mem_cons] at hp ⊢
          rcases hp with h | h | h | h
          · exact .inr (.inl h)
          · exact .inr (.inr (.inl h))
          · exact .inl h
          · exact .inr (.inr (.inr h)))) ?offC hOE (by with_unfolding_all rfl) ?_ (by with_unfolding_all rfl)
        case offC =>
          intro p hp
          rcases List.mem_cons.mp hp with rfl | hp
          · exact Nat.ne_of_lt hlC
          rcases List.mem_cons.mp hp with rfl | hp
          · exact Nat.ne_of_lt (Nat.lt_trans hia hlC)
          · exact off_LB (t := t) H (Nat.lt_trans hir (Nat.lt_trans hia hlC)) (fun p hp => Nat.ne_of_lt (Nat.lt_trans (hcE p hp).2 (Nat.lt_trans hia hlC))) p hp
        intro hD oCD hOD FD ND
        clear FB NB
        have dc3 : t.oc.data = .cell (some (.ref t.z.x)) := dc2
        show wpAny _ _ (pure true) _ _ _
        refine wpAny_pure ?_
        rw [if_pos rfl]
        k_steps
        have hwk : ((words tv.length).drop k) = (words tv.length)[k]'(by rw [hwn _ (Nat.le_refl _)]; exact hkn) :: (words tv.length).drop (k + 1) := List.drop_eq_getElem_cons _
        k_dflt (refine' wpAny_call (gt_src ?kB FD ?kX ?kT rfl Z hSE hpE hsE ?kd ?ku (news_sub ND ?sub) ?_))
        case kB => k_asm
        case kX => k_asm
        case kT => k_asm
        case kd => ktr_room
        case ku => ktr_units
        case sub => exact fun p hp => List.mem_cons_of_mem _ (List.mem_cons_of_mem _ (List.mem_cons_of_mem _ (List.mem_cons_of_mem _ (List.mem_cons_of_mem _ (List.mem_append_left _ hp)))))
        intro tw hG tkG lnG tlG n1G n2G pbG sgG hSG hpG hsG FG ND' KG
        have NG := swapLex (t := t) (pre := [(C, _), (acc, _), (itr, _)]) Z hz H ND ND' KG ?hpre (fun p hp => Nat.lt_trans (Nat.lt_succ_self _) (hcE p hp).1)
        case hpre =>
          intro p hp
          simp only [List.mem_cons, List.not_mem_nil, or_false] at hp
          have q4 : @LT.lt Nat _ t.L itr := Nat.lt_trans (Nat.lt_succ_self _) hir
          rcases hp with rfl | rfl | rfl
          · exact Nat.lt_trans q4 (Nat.lt_trans hia hlC)
          · exact Nat.lt_trans q4 hia
          · exact q4
        clear ND ND' KG FD
        replace NG : News t.g t.L hG ((C, _) :: (acc, _) :: (itr, _) :: LB t psE lnG tlG pbG n1G sgG n2G csE) := NG
        rw [show t.words = words from rfl, show t.tv = tv from rfl, hwk] at hSG
        rw [show t.words = words from rfl, show t.tv = tv from rfl, hwk]
        dsimp only [List.tail_cons, List.headD_cons] at hSG ⊢
        generalize hword : (words tv.length)[k]'(by rw [hwn _ (Nat.le_refl _)]; exact hkn) = word at hwk ⊢
        dsimp only [qk, ek]
        have hlen : lE.length = k := by rw [← List.length_map (f := (·.1)), hlE, List.length_take, show t.words = words from rfl, show t.tv = tv from rfl, hwn _ (Nat.le_refl _)]; omega
        have offA : ∀ p ∈ (C, oCD) :: (itr, riObj ((k : Int) + 1) ((t.n : Int) - (k : Int) - 1)) :: LB t psE lnG tlG pbG n1G sgG n2G csE, p.1 ≠ acc := by
          intro p hp
          rcases List.mem_cons.mp hp with rfl | hp
          · exact Nat.ne_of_gt hlC
          rcases List.mem_cons.mp hp with rfl | hp
          · exact Nat.ne_of_lt hia
          · exact off_LB (t := t) H (Nat.lt_trans hir hia) (fun p hp => Nat.ne_of_lt (Nat.lt_trans (hcE p hp).2 hia)) p hp
        refine append_K (its := (strValues lE).toArray) (n := nlE) FG (news_sub NG ?permA) (Upd.head offA) ?_ ?size
        case permA =>
          intro p hp
          simp only [LB, List.mem_cons] at hp ⊢
          rcases hp with h | h | h
          · exact .inr (.inl h)
          · exact .inl h
          · exact .inr (.inr h)
        case size => rw [List.size_toArray]; refine size_fit ?_; simp only [strValues, List.length_map]; omega
        intro hH FH NH
        rw [strV_push] at NH
        refine ⟨k + 1, Nat.sub_lt_sub_left (Nat.lt_succ_of_lt hkn) (Nat.lt_succ_self k), _, _, _, _, _, _, oCD, _, psE, csE, lnG, tlG, pbG, n1G, sgG, n2G, lE ++ [(word, tw)], nlE + 1, rfl, toldM_next (t := t) FH ?e1, ?e2, hOD, hcE, hSG, ?e3, hpG, hsG, hkn⟩
        case e1 =>
          intro y d1 d2 d3 d4
          simp only [toldM, if_neg d1, if_neg d2, if_neg d3, if_neg d4]
        case e2 =>
          rw [← riObj_succ]
          intro p hp
          refine NH p ?_
          simp only [LB, List.mem_cons] at hp ⊢
          rcases hp with h | h | h
          · exact .inr (.inl h)
          · exact .inl h
          · exact .inr (.inr h)
        case e3 => rw [List.map_append, hlE, List.take_add_one, show t.words = words from rfl, show t.tv = tv from rfl, List.getElem?_eq_getElem (by rw [hwn _ (Nat.le_refl _)]; exact hkn), hword]; rfl
      · refine ri_end rfl FE NE offE (by show (n : Int) - (k : Int) ≤ 0; first | exact i1e hkn2 | omega) ?_
        intro hB FB NB KB
        clear FE NE KB
        dsimp only [CompTurn]
        dsimp only [D8]
        have hL₀ : t.g.get? L1 = none := Heap.get?_none_of_le FB.above
        refine wpAny_storeName_local (m := _) (by with_unfolding_all rfl) FB.ns (fun h₂ hn₂ hs₂ => ?_) (by with_unfolding_all rfl)
        have F₂ : Fr t.g L1 h₂ (fun y => if y = Str.ofString "told" then some (.ref acc) else toldM t lvE rvE pvE wvE y) := ⟨hn₂, fun b o e => hs₂.extBut b o (fun q => by rw [q] at e; exact absurd (hL₀.symm.trans e) (fun x => nomatch x)) (FB.keep b o e), FB.above⟩
        have N₂ : News t.g t.L h₂ _ := fun p hp => ⟨hs₂.extBut _ _ (NB p hp).2.1 (NB p hp).1, (NB p hp).2⟩
        clear NB FB
        refine ⟨_, hOE.ns (N₂ _ (.head _)).1, fun h₃ hs₃ => ?_⟩
        have offC : ∀ p ∈ (acc, listOf (strValues lE).toArray nlE) :: LB t psE lnE tlE pbE n1E sgE n2E csE, p.1 ≠ C := by
          intro p hp
          rcases List.mem_cons.mp hp with rfl | hp
          · exact Nat.ne_of_lt hlC
          · exact off_LB (t := t) H (Nat.lt_trans hir (Nat.lt_trans hia hlC)) (fun p hp => Nat.ne_of_lt (Nat.lt_trans (hcE p hp).2 (Nat.lt_trans hia hlC))) p hp
        obtain ⟨F₃, N₃⟩ := led_drop F₂ N₂ offC hs₃.extBut
        clear F₂ N₂
        have dc3 : t.oc.data = .cell (some (.ref t.z.x)) := dc2
        k_steps
        rename Fr _ _ _ _ => F4
        rename News _ _ _ _ => N4
        obtain rfl : k = n := Nat.le_antisymm hkE (Nat.le_of_not_lt hkn)
        have hSE' : SrcOk pbE sgE [] := by
          have h := hSE
          rw [show t.words = words from rfl, show t.tv = tv from rfl, List.drop_eq_nil_of_le (by rw [hwn _ (Nat.le_refl _)]; exact Nat.le_refl _)] at h
          exact h
        have hlF : lE.map (·.1) = words tv.length := by
          rw [hlE, show t.words = words from rfl, show t.tv = tv from rfl, List.take_of_length_le (by rw [hwn _ (Nat.le_refl _)]; exact Nat.le_refl _)]
        k_dflt (refine' wpAny_call (gt_src ?kB F4 ?kX ?kT rfl Z hSE' hpE hsE ?kd ?ku (news_sub N4 ?sub) ?_))
        case kB => k_asm
        case kX => k_asm
        case kT => k_asm
        case kd => ktr_room
        case ku => ktr_units
        case sub => exact fun p hp => List.mem_cons_of_mem _ (List.mem_cons_of_mem _ (List.mem_cons_of_mem _ (List.mem_append_left _ hp)))
        intro tw hG tkG lnG tlG n1G n2G pbG sgG hSG hpG hsG FG ND' KG
        have NG := swapLex (t := t) (pre := [(acc, _)]) Z hz H N4 ND' KG ?hpre (fun p hp => Nat.lt_trans (Nat.lt_succ_self _) (hcE p hp).1)
        case hpre =>
          intro p hp
          rw [List.mem_singleton.mp hp]
          exact hLa
        clear N4 ND' KG F4
        replace NG : News t.g t.L hG ((acc, _) :: LB t psE lnG tlG pbG n1G sgG n2G csE) := NG
        rw [show ([] : List Str).headD (Str.ofString "") = Str.ofString "" from rfl]
        k_steps
        rename Fr _ _ _ _ => F5
        rename News _ _ _ _ => N5
        rename _ ∧ _ ∧ _ ∧ AllLt _ _ => l5
        exact leaveM_ F5 (fun kF kk kN => hret _ _ _ _ _ _ _ psE l5.1 hlF kF (kN _ (news_sub N5 (fun p hp => by
          simp only [List.mem_cons, List.not_mem_nil, or_false] at hp ⊢
          rcases hp with h | h | h
          · exact .inl h
          · exact .inr (.inl h)
          · exact .inr (.inr (.inl h))))) kk)
end
end Mine
end
section
open PySem PySem.W PyProof.Rows PySem.Calls PySem.Spec
set_option maxRecDepth 100000
set_option maxHeartbeats 8000000
namespace Mine
local macro_rules | `(tactic| walk_at "exec For Name BinOp cons nil") => `(tactic| (k_here; refine Stop.go ?_))
local macro_rules | `(tactic| walk_at "subscriptTail") => `(tactic| (k_here; (with_reducible show wpAny _ _ (subscriptTail _ _ (Value.ref _) (Value.int _ _)) _ _ _); refine Stop.go ?_))
section
variable {w : World} {p : Program} {loose : List Str} {mean : ExcName → Option Value} {mg mb : Str → Option Value}
  {dp un : Nat} {gd : Option (List Code)} {cn : Str} {cs : Scope} {a : Addr} {ccd : Value} {cl : List (Str × Addr)} {outer : List Env} {A₀ : Around} {base h₀ : Heap} {L : Addr} {m : Str → Option Value} {s : Shared} {R : Result → Shared → Prop}
  (B : Below A₀ base outer h₀) (F : Fr h₀ L s.heap m) (X : (hd.heap_39 w.params).In h₀) (T : Top p loose mean mg mb h₀) (hk : cs.kind = .function)
include B F X T hk
theorem messages_ca {l : Addr} {vs : List Value} {ns : List Int} (hl : base.IsList l vs.toArray) (hi : IntsAre vs ns) (hlen : ns.length ≤ 63) (hdp : dp + 4 < recursionLimit) (hu : un + 20 < cLine) (N : News h₀ L s.heap [])
  (hret : ∀ lm nl ms h' tk, MsgsOf ms ([409, 6, 2284] ++ ns.take 4) → (∀ p ∈ (lm, listOf (msgRefs ms).toArray nl) :: ms.flatMap MsgV.led, s.heap.get? p.1 = none) → (∀ m ∈ ms, @LT.lt Nat _ lm m.tu ∧ @LT.lt Nat _ lm m.pl) → Fr h₀ L h' m → News h₀ L h' ((lm, listOf (msgRefs ms).toArray nl) :: ms.flatMap MsgV.led) → (∀ b o, s.heap.get? b = some o → h'.get? b = some o) → R (.ok (.ret (.ref lm))) { s with heap := h', toks := tk }) :
  codeAny (model PG w) (ktrTop dp un gd cn cs L a ccd cl outer) (.call (.ref 104) ⟨[.ref l], []⟩) R s := by
  have hfill : PySem.Challenge.rw_pg0181_01 = PySem.Challenge.rw_pg0181_01 := rfl
  have hfill2 : hd.heap_39 = hd.heap_39 := rfl
  revert hfill hfill2
  k_fill
  intro _ _
  k_dflt ktr_enter
  rename_i g L1 h1 tk1 FG F1 B1 X1 T1 GS lt1 oc dc N1
  refine let_QE ?_
  intro E9 Q9
  refine let_A ?_
  intro A9
  k_steps
  unfold Stop
  k_dflt (refine for_start ?_)
  k_steps
  unfold Stop
  rename Fr _ _ _ _ => F2
  rename News _ _ _ _ => N2
  rename IntsAre _ (_ ++ _) => hI
  rename _ ∧ _ ∧ _ ∧ _ < _ => l2
  rename_i lm h4 q1 h5 l9 h6 q2 Dp wsp h7 hIp hCp hLp q3 D ws h8
  refine li_start F2 N2 (N2 _ (.head _)).1 ?_
  intro h3 it F3 N3 K3
  have hDit : @LT.lt Nat _ D it := (K3 _ _ (N2 _ (.head _)).1).2
  clear F2 N2 K3
  obtain ⟨mm, pv, F4⟩ : ∃ mm pv, Fr g L1 h3 (msgM mm lm pv) := ⟨_, _, fr_congr F3 (msgM_start _ _)⟩
  have N4 : News g L1 h3 ((it, liNew D) :: (D, listOf ws.toArray 0) :: (lm, listOf (msgRefs []).toArray 0) :: (L1 + 1, oc) :: [].flatMap MsgV.led) := news_sub N3 ?sub
  case sub =>
    intro p hp
    simp only [List.flatMap_nil, List.mem_cons, List.not_mem_nil, or_false] at hp ⊢
    rcases hp with h | h | h | h
    · exact .inl h
    · exact .inr (.inl h)
    · exact .inr (.inr (.inr (.inr (.inl h))))
    · exact .inr (.inr (.inr (.inr (.inr h))))
  clear N3 F3
  have hlm : @LT.lt Nat _ (L1 + 1) lm := q1
  have hDlm : @LT.lt Nat _ lm D := l2.2.2.1
  clear l2 q1 q2 q3
  generalize hxs : [409, 6, 2284] ++ List.take 4 ns = xs at hI
  refine let_FR ?_
  intro Q8
  refine for_ind (TMsg g L1 s mm lm D it ws xs) (fun i => xs.length + 1 - i) (by k_dflt passes_own) ?step 0 ⟨h3, _, pv, _, 0, [], oc, rfl, F4, N4, liNew_is D, MsgsOf.nil, ⟨_, dc⟩, (fun m h => nomatch h), Nat.zero_le _⟩
  intro i s' hT
  obtain ⟨h9, tk9, pv9, oi9, nm9, ms9, xo9, rfl, F9, N9, hi9, hms9, ⟨v9, dc9⟩, hab9, hil9⟩ := hT
  clear F4 N4 dc
  by_cases hil : i < xs.length
  · obtain ⟨tx, hwx⟩ := ints_at hI i hil
    refine li_item F9 N9 ?off hi9 (N9 _ (.tail _ (.head _))).1 hwx ?_
    case off =>
      intro p hp
      have q := msg_above hab9
      rcases List.mem_cons.mp hp with rfl | hp
      · exact Nat.ne_of_lt hDit
      rcases List.mem_cons.mp hp with rfl | hp
      · exact Nat.ne_of_lt (Nat.lt_trans hDlm hDit)
      rcases List.mem_cons.mp hp with rfl | hp
      · exact Nat.ne_of_lt (Nat.lt_trans hlm (Nat.lt_trans hDlm hDit))
      · exact Nat.ne_of_gt (q p hp)
    intro h10 oi10 hi10 F10 N10 K10
    clear F9 N9 K10
    generalize hx : xs[i] = x
    dsimp only [IndTurn]
    refine name_go ?_
    k_dflt (refine stCN (own := [(it, oi10), (D, listOf ws.toArray 0), (lm, listOf (msgRefs ms9).toArray nm9)]) (rest := ms9.flatMap MsgV.led) (c := L1 + 1) (o := xo9) F10 N10 rfl dc9 ?o1 ?o2 ?_ rfl rfl)
    case o1 =>
      intro p hp
      simp only [List.mem_cons, List.not_mem_nil, or_false] at hp
      rcases hp with rfl | rfl | rfl
      · exact Nat.ne_of_gt (Nat.lt_trans hlm (Nat.lt_trans hDlm hDit))
      · exact Nat.ne_of_gt (Nat.lt_trans hlm hDlm)
      · exact Nat.ne_of_gt hlm
    case o2 => exact fun p hp => Nat.ne_of_gt (Nat.lt_trans (Nat.lt_trans hlm (Nat.lt_trans hDlm hDit)) (msg_above hab9 p hp))
    intro h11 xo11 F11 N11 dc11
    clear F10 N10
    replace N11 : News g L1 h11 ((it, oi10) :: (D, listOf ws.toArray 0) :: (lm, listOf (msgRefs ms9).toArray nm9) :: (L1 + 1, xo11) :: ms9.flatMap MsgV.led) := N11
    k_steps
    unfold Stop
    k_dflt (refine comp_assign (cl := [(Str.ofString "x", L1 + 1)]) (by with_unfolding_all rfl) (by with_unfolding_all rfl) (by decide) (by with_unfolding_all rfl) (by decide) ?_ (by with_unfolding_all (intro _; rfl)))
    k_steps
    unfold Stop
    rename IsRange _ _ _ _ _ _ _ _ => hrg
    rename Fr _ _ _ _ => F12
    rename News _ _ _ _ => N12
    have hm0 : 0 ≤ x.fmod 3 := Int.fmod_nonneg_of_pos x (by decide)
    have hm3 : x.fmod 3 < 3 := Int.fmod_lt_of_pos x (by decide)
    obtain ⟨nb, hnb⟩ : ∃ nb : Nat, nb = 1 + (x.fmod 3).toNat := ⟨_, rfl⟩
    rw [show (1 + x.fmod 3 : Int) = (nb : Int) by omega] at hrg
    have hnb3 : nb ≤ 3 := by omega
    refine ri_start F12 N12 hrg (by omega) (by omega) ?_
    intro h13 itr F13 N13 K13
    have hir : @LT.lt Nat _ it itr := (K13 _ _ (N12 _ (.head _)).1).2
    have hirm : ∀ p ∈ ms9.flatMap MsgV.led, @LT.lt Nat _ p.1 itr := fun p hp => (K13 _ _ (N12 _ (.tail _ (.tail _ (.tail _ (.tail _ hp))))).1).2
    clear F12 N12 K13 hrg
    intro C hC tkC hlC haC hnsC hkC
    dsimp only at hlC haC hnsC hkC ⊢
    have hia : @LT.lt Nat _ itr h13.objs.size := Heap.lt_size (N13 _ (.head _)).1
    have hal : h13.get? h13.objs.size = none := Heap.get?_none_of_le (Nat.le_refl _)
    generalize h13.objs.size = acc at *
    obtain ⟨oC, eC, hOC⟩ := LCg.ns_obj hnsC
    have F14 : Fr g L1 hC _ := F13.keeps hkC
    have hLit : @LT.lt Nat _ (L1 + 1) it := Nat.lt_trans hlm (Nat.lt_trans hDlm hDit)
    have hLr : @LT.lt Nat _ L1 itr := Nat.lt_trans (Nat.lt_of_succ_lt hLit) hir
    have above : ∀ b : Nat, @LT.lt Nat _ itr b → g.get? b = none := fun b hb => Heap.get?_none_of_le (Nat.le_trans F14.above (Nat.le_of_lt (Nat.lt_trans hLr hb)))
    obtain ⟨rest, hrest⟩ : ∃ rest, rest = (it, oi10) :: (D, listOf ws.toArray 0) :: (lm, listOf (msgRefs ms9).toArray nm9) :: (L1 + 1, xo11) :: ms9.flatMap MsgV.led := ⟨_, rfl⟩
    rw [← hrest] at N13
    have hrl : ∀ p ∈ rest, @LT.lt Nat _ p.1 itr := by
      intro p hp
      rw [hrest] at hp
      rcases List.mem_cons.mp hp with rfl | hp
      · exact hir
      rcases List.mem_cons.mp hp with rfl | hp
      · exact Nat.lt_trans hDit hir
      rcases List.mem_cons.mp hp with rfl | hp
      · exact Nat.lt_trans hDlm (Nat.lt_trans hDit hir)
      rcases List.mem_cons.mp hp with rfl | hp
      · exact Nat.lt_trans hLit hir
      · exact hirm p hp
    have N14 : News g L1 hC ((C, oC) :: (acc, listOf [].toArray 0) :: (itr, riObj 0 (nb : Int)) :: rest) := by
      intro p hp
      rcases List.mem_cons.mp hp with rfl | hp
      · exact ⟨eC, Nat.ne_of_gt (Nat.lt_trans hLr (Nat.lt_trans hia hlC)), above _ (Nat.lt_trans hia hlC)⟩
      rcases List.mem_cons.mp hp with rfl | hp
      · exact ⟨haC, Nat.ne_of_gt (Nat.lt_trans hLr hia), above _ hia⟩
      · exact ⟨hkC _ _ (N13 _ hp).1, (N13 _ hp).2⟩
    clear N13 F13 hnsC haC hkC eC
    refine ⟨?itself, ?loop⟩
    case itself => exact wpAny_pyIter_rangeiter (N14 _ (.tail _ (.tail _ (.head _)))).1 ⟨rfl, rfl⟩
    case loop =>
      refine let_CR ?_
      intro D8
      k_dflt (refine comp_ind (TMC g L1 s (msgM mm lm pv9) rest itr acc C x nb) (fun k => nb + 1 - k) ?step4 0 ⟨_, _, oC, _, [], 0, rfl, F14, N14, hOC, rfl, Nat.zero_le _⟩)
      intro k s' hI4
      clear N14 F14
      obtain ⟨hE, tkE, oCE, mCE, lE, nlE, rfl, FE, NE, hOE, hlE, hkE⟩ := hI4
      have offE : ∀ p ∈ (C, oCE) :: (acc, listOf (strValues lE).toArray nlE) :: rest, p.1 ≠ itr := by
        intro p hp
        rcases List.mem_cons.mp hp with rfl | hp
        · exact Nat.ne_of_gt (Nat.lt_trans hia hlC)
        rcases List.mem_cons.mp hp with rfl | hp
        · exact Nat.ne_of_gt hia
        · exact Nat.ne_of_lt (hrl p hp)
      replace NE : News g L1 hE ((itr, riObj (k : Int) ((nb : Int) - (k : Int))) :: (C, oCE) :: (acc, listOf (strValues lE).toArray nlE) :: rest) := news_sub NE (fun p hp => by
        simp only [List.mem_cons] at hp ⊢
        rcases hp with h | h | h | h
        · exact .inr (.inr (.inl h))
        · exact .inl h
        · exact .inr (.inl h)
        · exact .inr (.inr (.inr h)))
      by_cases hkn : k < nb
      · refine ri_item FE NE offE (by show (0:Int) < (nb : Int) - (k : Int); omega) ?_
        intro hB FB NB KB
        clear FE NE KB
        dsimp only [CompTurn]
        refine name_go ?_
        refine comp_store (mC := mCE) (oC := oCE) (rest := (acc, listOf (strValues lE).toArray nlE) :: (itr, riObj ((k : Int) + 1) ((nb : Int) - (k : Int) - 1)) :: rest) FB (news_sub NB (fun p hp => by
          simp only [List.mem_cons] at hp ⊢
          rcases hp with h | h | h | h
          · exact .inr (.inl h)
          · exact .inr (.inr (.inl h))
          · exact .inl h
          · exact .inr (.inr (.inr h)))) ?offC hOE (by with_unfolding_all rfl) ?_ (by with_unfolding_all rfl)
        case offC =>
          intro p hp
          rcases List.mem_cons.mp hp with rfl | hp
          · exact Nat.ne_of_lt hlC
          rcases List.mem_cons.mp hp with rfl | hp
          · exact Nat.ne_of_lt (Nat.lt_trans hia hlC)
          · exact Nat.ne_of_lt (Nat.lt_trans (hrl p hp) (Nat.lt_trans hia hlC))
        intro hD oCD hOD FD ND
        clear FB NB
        show wpAny _ _ (pure true) _ _ _
        refine wpAny_pure ?_
        rw [if_pos rfl]
        rw [hrest] at ND
        k_steps
        have hq5 : (0 : Int) < (5 : Int) ^ ((k : Int).toNat) := Int.pow_pos (by decide)
        have hq6 : (5 : Int) ^ ((k : Int).toNat) = 5 ^ k := by rw [Int.toNat_natCast]
        have hq7 : (5 : Int) ^ ((k : Int).toNat) ≤ 25 := by
          rw [Int.toNat_natCast]
          have : k = 0 ∨ k = 1 ∨ k = 2 := three (Nat.lt_of_lt_of_le hkn hnb3)
          rcases this with rfl | rfl | rfl <;> decide
        generalize (5 : Int) ^ ((k : Int).toNat) = q5 at *
        refine floordiv_int (Int.ne_of_gt hq5) ?_ (.inl (PyProof.noPylong_small (nab hq5 hq7)))
        k_steps
        unfold Stop
        rename Fr _ _ _ _ => FG
        rename News _ _ _ _ => NG
        have hf0 : 0 ≤ ((x.fdiv 3).fdiv q5).fmod 5 := Int.fmod_nonneg_of_pos _ (by decide)
        have hf5 : ((x.fdiv 3).fdiv q5).fmod 5 < 5 := Int.fmod_lt_of_pos _ (by decide)
        obtain ⟨tw, htw⟩ := fig_at (t0 := _) (t1 := _) (t2 := _) (t3 := _) (t4 := _) (i := (((x.fdiv 3).fdiv q5).fmod 5).toNat) ((Int.toNat_lt hf0).mpr hf5)
        refine r_item (n := 0) (NG _ (.head _)).1 hf0 (Int.lt_trans hf5 (by decide)) htw ?_ (by k_dflt rfl)
        have hword : figS ((((x.fdiv 3).fdiv q5).fmod 5).toNat) = partF x k := by rw [hq6]; rfl
        rw [hword]
        generalize hwd : partF x k = word at hword ⊢
        have hlen : lE.length = k := by rw [← List.length_map (f := (·.1)), hlE, List.length_map, List.length_range]
        replace NG := news_sub NG (fun p hp => List.mem_cons_of_mem _ hp)
        rw [← hrest] at NG
        have offA : ∀ p ∈ (C, oCD) :: (itr, riObj ((k : Int) + 1) ((nb : Int) - (k : Int) - 1)) :: rest, p.1 ≠ acc := by
          intro p hp
          rcases List.mem_cons.mp hp with rfl | hp
          · exact Nat.ne_of_gt hlC
          rcases List.mem_cons.mp hp with rfl | hp
          · exact Nat.ne_of_lt hia
          · exact Nat.ne_of_lt (Nat.lt_trans (hrl p hp) hia)
        refine append_K (its := (strValues lE).toArray) (n := nlE) FG (news_sub NG ?permA) (Upd.head offA) ?_ ?size
        case permA =>
          intro p hp
          simp only [List.mem_cons] at hp ⊢
          rcases hp with h | h | h
          · exact .inr (.inl h)
          · exact .inl h
          · exact .inr (.inr h)
        case size => rw [List.size_toArray]; refine size_fit ?_; simp only [strValues, List.length_map]; omega
        intro hH FH NH
        rw [strV_push] at NH
        refine ⟨k + 1, Nat.sub_lt_sub_left (Nat.lt_succ_of_lt hkn) (Nat.lt_succ_self k), _, _, oCD, _, lE ++ [(word, tw)], nlE + 1, rfl, FH, ?e2, hOD, ?e3, hkn⟩
        case e2 =>
          rw [← riObj_succ]
          intro p hp
          refine NH p ?_
          simp only [List.mem_cons] at hp ⊢
          rcases hp with h | h | h
          · exact .inr (.inl h)
          · exact .inl h
          · exact .inr (.inr h)
        case e3 => rw [List.map_append, hlE, List.range_succ, List.map_append, ← hwd]; rfl
      · have hke : k = nb := Nat.le_antisymm hkE (Nat.le_of_not_lt hkn)
        refine ri_end rfl FE NE offE (by show (nb : Int) - (k : Int) ≤ 0; omega) ?_
        intro hB FB NB KB
        clear FE NE KB
        dsimp only [CompTurn]
        dsimp only [D8]
        have hL₀ : g.get? L1 = none := Heap.get?_none_of_le FB.above
        refine wpAny_storeName_local (m := _) (by with_unfolding_all rfl) FB.ns (fun h₂ hn₂ hs₂ => ?_) (by with_unfolding_all rfl)
        have F₂ : Fr g L1 h₂ (fun y => if y = Str.ofString "parts" then some (.ref acc) else msgM mm lm pv9 y) := ⟨hn₂, fun b o e => hs₂.extBut b o (fun q => by rw [q] at e; exact absurd (hL₀.symm.trans e) (fun x => nomatch x)) (FB.keep b o e), FB.above⟩
        have N₂ : News g L1 h₂ _ := fun p hp => ⟨hs₂.extBut _ _ (NB p hp).2.1 (NB p hp).1, (NB p hp).2⟩
        clear NB FB
        refine ⟨_, hOE.ns (N₂ _ (.head _)).1, fun h₃ hs₃ => ?_⟩
        have offC : ∀ p ∈ (acc, listOf (strValues lE).toArray nlE) :: rest, p.1 ≠ C := by
          intro p hp
          rcases List.mem_cons.mp hp with rfl | hp
          · exact Nat.ne_of_lt hlC
          · exact Nat.ne_of_lt (Nat.lt_trans (hrl p hp) (Nat.lt_trans hia hlC))
        obtain ⟨F₃, N₃⟩ := led_drop F₂ N₂ offC hs₃.extBut
        clear F₂ N₂
        have F₄ : Fr g L1 h₃ (msgM mm lm (some (.ref acc))) := fr_congr F₃ (fun y => by unfold msgM; by_cases e : y = Str.ofString "parts" <;> simp [e])
        have hac : ∀ p ∈ rest, @LT.lt Nat _ p.1 acc := fun p hp => Nat.lt_trans (hrl p hp) hia
        clear F₃
        rw [hrest] at N₃ hac
        clear hrl offE hrest hirm
        k_steps
        unfold Stop
        rename News _ _ _ _ => NG
        have hf0 : 0 ≤ (x.fdiv 375).fmod 4 := Int.fmod_nonneg_of_pos _ (by decide)
        have hf4 : (x.fdiv 375).fmod 4 < 4 := Int.fmod_lt_of_pos _ (by decide)
        obtain ⟨tw, htw⟩ := tail_at4 (t0 := _) (t1 := _) (t2 := _) (t3 := _) (i := ((x.fdiv 375).fmod 4).toNat) ((Int.toNat_lt hf0).mpr hf4)
        refine r_item (n := 0) (NG _ (.head _)).1 hf0 (Int.lt_trans hf4 (by decide)) htw ?_ (by k_dflt rfl)
        have htail : tailS (((x.fdiv 375).fmod 4).toNat) = tailOf x := rfl
        rw [htail]
        k_steps
        rename Fr _ _ _ _ => FH
        rename News _ _ _ _ => NH
        rename _ ∧ _ ∧ _ ∧ _ ∧ _ ∧ _ ∧ AllLt _ _ => l5
        obtain ⟨la, lb, lc, ld, le, lf, -⟩ := l5
        have hmsl : ms9.length = i := by rw [hms9.1, List.length_take]; exact mnL hil
        rename_i l98 h98 q98 tup h16
        obtain ⟨tb, NH2⟩ := msg_led NH
        refine append_K (its := (msgRefs ms9).toArray) (n := nm9) FH NH2 (Upd.head ?offL) ?_ ?size
        case size =>
          rw [List.size_toArray]; refine size_fit ?_
          have hx7 : xs.length ≤ 7 := by rw [← hxs]; simp; omega
          simp only [msgRefs, List.length_map]; omega
        case offL =>
          intro p hp
          rcases List.mem_cons.mp hp with rfl | hp
          · exact Nat.ne_of_gt le
          rcases List.mem_cons.mp hp with rfl | hp
          · exact Nat.ne_of_gt (hac _ (.tail _ (.tail _ (.head _))))
          rcases List.mem_cons.mp hp with rfl | hp
          · exact Nat.ne_of_gt (Nat.lt_trans hDlm hDit)
          rcases List.mem_cons.mp hp with rfl | hp
          · exact Nat.ne_of_gt hDlm
          rcases List.mem_cons.mp hp with rfl | hp
          · exact Nat.ne_of_lt hlm
          · exact Nat.ne_of_gt (Nat.lt_trans (Nat.lt_trans hDlm hDit) (msg_above hab9 p hp))
        clear FH NH NH2
        intro h15 F15 N15
        obtain ⟨m9, hm9⟩ : ∃ m9 : MsgV, m9 = ⟨tup, acc, nlE, lE, tailOf x, tw, (x.fdiv 1500).fmod 2, tb⟩ := ⟨_, rfl⟩
        have hpush : (msgRefs ms9).toArray.push (.ref tup) = (msgRefs (ms9 ++ [m9])).toArray := by rw [← refs_push, hm9]
        rw [hpush] at N15
        k_steps
        refine ⟨i + 1, Nat.sub_lt_sub_left (Nat.lt_succ_of_lt hil) (Nat.lt_succ_self i), h15, _, _, oi10, nm9 + 1, ms9 ++ [m9], xo11, rfl, F15, news_sub N15 ?permB, hi10, ?hof, ⟨_, dc11⟩, ?hab, hil⟩
        case permB =>
          rw [led_push, hm9]
          intro p hp
          simp only [MsgV.led, List.mem_cons, List.mem_append, List.not_mem_nil, or_false] at hp ⊢
          rcases hp with h | h | h | h | h | h | h
          · exact .inr (.inr (.inr (.inl h)))
          · exact .inr (.inr (.inr (.inr (.inl h))))
          · exact .inl h
          · exact .inr (.inr (.inr (.inr (.inr (.inl h)))))
          · exact .inr (.inr (.inr (.inr (.inr (.inr h)))))
          · exact .inr (.inl h)
          · exact .inr (.inr (.inl h))
        case hof =>
          have e : xs.take (i + 1) = xs.take i ++ [x] := by rw [List.take_add_one, List.getElem?_eq_getElem hil, hx]; rfl
          rw [e]
          refine hms9.snoc ⟨?_, ?_, ?_⟩
          · rw [hm9]; show lE.map (·.1) = partsOf x; rw [hlE, partsOf_eq, hke, hnb]
          · rw [hm9]
          · rw [hm9]; rfl
        case hab =>
          intro m hm
          rcases List.mem_append.mp hm with hm | hm
          · exact hab9 m hm
          · rw [List.mem_singleton.mp hm, hm9]
            exact ⟨lc, hac _ (.head _)⟩
  · have hie : i = xs.length := Nat.le_antisymm hil9 (Nat.le_of_not_lt hil)
    have hwl := hI.length
    refine li_end rfl F9 N9 ?off hi9 (N9 _ (.tail _ (.head _))).1 (List.getElem?_eq_none (hwl ▸ Nat.le_of_not_lt hil)) ?_
    case off =>
      intro p hp
      have q := msg_above hab9
      rcases List.mem_cons.mp hp with rfl | hp
      · exact Nat.ne_of_lt hDit
      rcases List.mem_cons.mp hp with rfl | hp
      · exact Nat.ne_of_lt (Nat.lt_trans hDlm hDit)
      rcases List.mem_cons.mp hp with rfl | hp
      · exact Nat.ne_of_lt (Nat.lt_trans hlm (Nat.lt_trans hDlm hDit))
      · exact Nat.ne_of_gt (q p hp)
    intro h10 F10 N10 K10
    clear F9 N9 K10
    dsimp only [IndTurn]
    dsimp only [Q8]
    k_steps
    have N16 : News g L1 h10 ((lm, listOf (msgRefs ms9).toArray nm9) :: ms9.flatMap MsgV.led) := news_sub N10 (fun p hp => by
      simp only [List.mem_cons] at hp ⊢
      rcases hp with h | h
      · exact .inr (.inl h)
      · exact .inr (.inr (.inr h)))
    have hms : MsgsOf ms9 ([409, 6, 2284] ++ ns.take 4) := by rw [hxs]; rw [hie, List.take_length] at hms9; exact hms9
    have hfresh : ∀ p ∈ (lm, listOf (msgRefs ms9).toArray nm9) :: ms9.flatMap MsgV.led, s.heap.get? p.1 = none := by
      intro p hp
      cases q : s.heap.get? p.1 with
      | none => rfl
      | some o => have := GS _ _ q List.not_mem_nil; rw [(N16 p hp).2.2] at this; cases this
    have habv : ∀ m ∈ ms9, @LT.lt Nat _ lm m.tu ∧ @LT.lt Nat _ lm m.pl := fun m hm => ⟨Nat.lt_trans (Nat.lt_trans hDlm hDit) (hab9 m hm).1, Nat.lt_trans (Nat.lt_trans hDlm hDit) (hab9 m hm).2⟩
    exact leaveM_ F10 (fun kF kk kN => hret _ _ _ _ _ hms hfresh habv kF (kN _ N16) (fun b o e => kk b o e List.not_mem_nil))
end
end Mine
end
section
open PySem PySem.W PyProof.Rows PySem.Calls PySem.Spec
set_option maxRecDepth 100000
set_option maxHeartbeats 8000000
namespace Mine
local macro_rules | `(tactic| walk_at "exec For Name Name cons nil") => `(tactic| (k_here; refine Stop.go ?_))
local macro_rules | `(tactic| walk_at "exec For Tuple Name cons nil") => `(tactic| (k_here; refine Stop.go ?_))
local macro_rules | `(tactic| walk_at "pyIter str") => `(tactic| (k_here; refine Stop.go ?_))
local macro_rules | `(tactic| walk_at "assign Tuple") => `(tactic| (k_here; refine Stop.go ?_))
local macro_rules | `(tactic| walk_at "call builtin:str.join") => `(tactic| (k_here; refine Stop.go ?_))
local macro_rules | `(tactic| walk_at "call builtin:str.replace") => `(tactic| (k_here; refine Stop.go ?_))
local macro_rules | `(tactic| walk_at "binaryOp Add str str") => `(tactic| (k_here; apply r_addT; (rw [sizeLine_eq]; (try simp only [Str.length_append]); omega); intro t' k hk; (try dsimp only at hk)))
section
variable {w : World} {p : Program} {loose : List Str} {mean : ExcName → Option Value} {mg mb : Str → Option Value}
  {dp un : Nat} {gd : Option (List Code)} {cn : Str} {cs : Scope} {a : Addr} {ccd : Value} {cl : List (Str × Addr)} {outer : List Env} {A₀ : Around} {base h₀ : Heap} {L : Addr} {m : Str → Option Value} {s : Shared} {R : Result → Shared → Prop}
  (B : Below A₀ base outer h₀) (F : Fr h₀ L s.heap m) (X : (hd.heap_39 w.params).In h₀) (T : Top p loose mean mg mb h₀) (hk : cs.kind = .function)
include B F X T hk
theorem written_ca {lm : Addr} {nl : Nat} {ms : List MsgV} (hl : s.heap.get? lm = some (listOf (msgRefs ms).toArray nl)) (hm0 : ∀ m ∈ ms, ∀ p ∈ m.led, s.heap.get? p.1 = some p.2) (hlen : ms.length ≤ 10) (hw : ∀ m ∈ ms, m.word.length ≤ 100) (hw2 : ∀ m ∈ ms, (m.ps.map (fun y => y.1.length)).sum ≤ 1000 ∧ m.ps.length ≤ 100) (hdp : dp + 4 < recursionLimit) (hu : un + 20 < cLine) (N : News h₀ L s.heap [])
  (hret : ∀ T t h' tk, T.cps.toList = ms.flatMap MsgV.enc → Fr h₀ L h' m → (∀ b o, s.heap.get? b = some o → h'.get? b = some o) → R (.ok (.ret (.str T t))) { s with heap := h', toks := tk }) :
  codeAny (model PG w) (ktrTop dp un gd cn cs L a ccd cl outer) (.call (.ref 109) ⟨[.ref lm], []⟩) R s := by
  have hfill : PySem.Challenge.rw_pg0181_01 = PySem.Challenge.rw_pg0181_01 := rfl
  have hfill2 : hd.heap_39 = hd.heap_39 := rfl
  revert hfill hfill2
  k_fill
  intro _ _
  k_dflt ktr_enter
  rename_i g L1 h1 FG F1 N1 B1 X1 T1 GS lt1
  refine let_QE ?_
  intro E9 Q9
  refine let_A ?_
  intro A9
  have hlg := GS _ _ hl List.not_mem_nil
  have hmg : ∀ m ∈ ms, ∀ p ∈ m.led, g.get? p.1 = some p.2 := fun m hm p hp => GS _ _ (hm0 m hm p hp) List.not_mem_nil
  clear hl hm0
  k_steps
  unfold Stop
  k_dflt (refine for_start ?_)
  k_steps
  unfold Stop
  rename Fr _ _ _ _ => F2
  rename News _ _ _ _ => N2
  refine li_start F2 News.nil (F2.keep _ _ hlg) ?_
  intro h3 it F3 N3 K3
  have hLit : @LT.lt Nat _ L1 it := by obtain ⟨oL, _, _, e, _⟩ := F2.ns; exact (K3 _ _ e).2
  clear F2 N2 K3
  refine let_FR ?_
  intro Q8
  refine for_ind (TWr g L1 s lm it ms) (fun i => ms.length + 1 - i) (by k_dflt passes_own) ?step 0 ⟨h3, _, _, _, _, _, rfl, F3, N3, liNew_is lm, rfl, Nat.zero_le _⟩
  intro i s' hT
  obtain ⟨h9, tk9, mm9, tt9, oi9, T9, rfl, F9, N9, hi9, hT9, hil9⟩ := hT
  clear F3 N3
  by_cases hil : i < ms.length
  · have hTl : T9.length ≤ 10000 := by
      have h1 : T9.length = T9.cps.toList.length := by simp [Str.length]
      have h2 := encs_len (ms := ms.take i) (B := 100) (fun m hm => hw m (List.mem_of_mem_take hm))
      rw [List.length_take] at h2
      rw [h1, hT9]; exact encLe h2 hlen
    refine li_item (v := .ref (ms[i]).tu) F9 N9 (fun p hp => nomatch hp) hi9 (F9.keep _ _ hlg) (by simp [msgRefs, hil]) ?_
    intro h10 oi10 hi10 F10 N10 K10
    clear F9 N9 K10
    have hmm : ms[i] ∈ ms := List.getElem_mem _
    have htk : ms.take (i + 1) = ms.take i ++ [ms[i]] := by rw [List.take_add_one, List.getElem?_eq_getElem hil]; rfl
    generalize hx : ms[i] = x at hmm htk ⊢
    have hxt := hmg x hmm _ (.head _)
    have hxp := hmg x hmm _ (.tail _ (.head _))
    have hxw := hw x hmm
    dsimp only [IndTurn]
    refine tup_go (N10 _ (.head _)).1 hi10 ?_
    k_dflt (refine unpackN_ F10 N10 (items := #[.ref x.pl, .str x.tl x.tt, .int x.b x.tb]) ⟨_, F10.keep _ _ hxt, rfl, _, rfl⟩ rfl rfl rfl ?_)
    intro h11 F11 N11
    clear F10 N10
    k_steps
    unfold Stop
    rename Fr _ _ _ _ => F12
    refine r_join (l := x.ps) (F12.keep _ _ hxp) (by decide +kernel) (by have := (hw2 x hmm).1; omega) (by have := (hw2 x hmm).2; omega) ?_
    intro t13 tk13
    obtain ⟨J, hJ⟩ : ∃ J, J = Str.join (Str.ofString ".") (x.ps.map (·.1)) := ⟨_, rfl⟩
    have hJw : x.word = J ++ x.tl := by rw [hJ]; rfl
    have hJl : J.length + x.tl.length ≤ 100 := by rw [← Str.length_append, ← hJw]; exact hxw
    rw [← hJ]
    have hq1 : (Str.ofString "\"").length = 1 := by decide +kernel
    have hq2 : (Str.ofString "\n").length = 1 := by decide +kernel
    have hq3 : (Str.ofString "\\").length = 1 := by decide +kernel
    k_steps
    · rename (J ++ x.tl != _) = true => hcond
      rename x.b = 1 => hcond1
      unfold Stop
      k_dflt (refine comp_start (cl := []) (by with_unfolding_all rfl) (by decide) (by with_unfolding_all rfl) (by decide) ?_ (by with_unfolding_all (intro _; rfl)))
      k_steps
      unfold Stop
      rename Fr _ _ _ _ => F12
      rename News _ _ _ _ => N12
      obtain ⟨f12, hf12, ht12⟩ : ∃ f12 : Str → Option Value, Fr g L1 _ f12 ∧ f12 (Str.ofString "text") = some (.str T9 tt9) := ⟨_, F12, rfl⟩
      clear F12
      refine si_start hf12 N12 ?_
      intro h13 its oi13 hi13 F13 N13 K13
      have hir : @LT.lt Nat _ it its := (K13 _ _ (N12 _ (.head _)).1).2
      clear hf12 N12 K13
      intro C hC tkC hlC haC hnsC hkC
      dsimp only at hlC haC hnsC hkC ⊢
      have hia : @LT.lt Nat _ its h13.objs.size := Heap.lt_size (N13 _ (.head _)).1
      have hal : h13.get? h13.objs.size = none := Heap.get?_none_of_le (Nat.le_refl _)
      generalize h13.objs.size = acc at *
      obtain ⟨oC, eC, hOC⟩ := LCg.ns_obj hnsC
      have F14 : Fr g L1 hC _ := F13.keeps hkC
      have hLits : @LT.lt Nat _ L1 its := Nat.lt_trans hLit hir
      have above : ∀ b : Nat, @LT.lt Nat _ its b → g.get? b = none := fun b hb => Heap.get?_none_of_le (Nat.le_trans F14.above (Nat.le_of_lt (Nat.lt_trans hLits hb)))
      have N14 : News g L1 hC ((C, oC) :: (acc, listOf [].toArray 0) :: (its, oi13) :: [(it, oi10)]) := by
        intro p hp
        rcases List.mem_cons.mp hp with rfl | hp
        · exact ⟨eC, Nat.ne_of_gt (Nat.lt_trans hLits (Nat.lt_trans hia hlC)), above _ (Nat.lt_trans hia hlC)⟩
        rcases List.mem_cons.mp hp with rfl | hp
        · exact ⟨haC, Nat.ne_of_gt (Nat.lt_trans hLits hia), above _ hia⟩
        · exact ⟨hkC _ _ (N13 _ hp).1, (N13 _ hp).2⟩
      clear N13 F13 hnsC haC hkC eC
      refine ⟨?itself, ?loop⟩
      case itself => exact si_self hi13 (N14 _ (.tail _ (.tail _ (.head _)))).1
      case loop =>
        refine let_CR ?_
        intro D8
        k_dflt (refine comp_ind (TWc g L1 s f12 [(it, oi10)] its acc C (J ++ x.tl)) (fun k => (J ++ x.tl).cps.toList.length + 1 - k) ?step4 0 ⟨_, _, oC, _, oi13, [], 0, rfl, F14, N14, hOC, hi13, rfl, Nat.zero_le _⟩)
        intro k s' hI4
        clear N14 F14
        obtain ⟨hE, tkE, oCE, mCE, oiE, lE, nlE, rfl, FE, NE, hOE, hiE, hlE, hkE⟩ := hI4
        have offE : ∀ p ∈ (C, oCE) :: (acc, listOf (strValues lE).toArray nlE) :: [(it, oi10)], p.1 ≠ its := by
          intro p hp
          rcases List.mem_cons.mp hp with rfl | hp
          · exact Nat.ne_of_gt (Nat.lt_trans hia hlC)
          rcases List.mem_cons.mp hp with rfl | hp
          · exact Nat.ne_of_gt hia
          · rw [List.mem_singleton.mp hp]; exact Nat.ne_of_lt hir
        replace NE : News g L1 hE ((its, oiE) :: (C, oCE) :: (acc, listOf (strValues lE).toArray nlE) :: [(it, oi10)]) := news_sub NE (fun p hp => by
          simp only [List.mem_cons] at hp ⊢
          rcases hp with h | h | h | h
          · exact .inr (.inr (.inl h))
          · exact .inl h
          · exact .inr (.inl h)
          · exact .inr (.inr (.inr h)))
        have hwl : (J ++ x.tl).cps.toList.length ≤ 100 := by
          have h2 : (J ++ x.tl).cps.toList.length = (J ++ x.tl).length := by simp only [Array.length_toList]; rfl
          rw [h2, ← hJw]; exact hxw
        have hlen : lE.length = k := by rw [← List.length_map (f := (·.1)), hlE, List.length_map, List.length_take]; exact Nat.min_eq_left hkE
        by_cases hkn : k < (J ++ x.tl).cps.toList.length
        · refine si_item FE NE offE hiE (List.getElem?_eq_getElem hkn) ?_
          intro hB oiB hiB FB NB KB
          clear FE NE KB
          dsimp only [CompTurn]
          refine name_go ?_
          refine comp_store (mC := mCE) (oC := oCE) (rest := (acc, listOf (strValues lE).toArray nlE) :: (its, oiB) :: [(it, oi10)]) FB (news_sub NB (fun p hp => by
            simp only [List.mem_cons] at hp ⊢
            rcases hp with h | h | h | h
            · exact .inr (.inl h)
            · exact .inr (.inr (.inl h))
            · exact .inl h
            · exact .inr (.inr (.inr h)))) ?offC hOE (by with_unfolding_all rfl) ?_ (by with_unfolding_all rfl)
          case offC =>
            intro p hp
            rcases List.mem_cons.mp hp with rfl | hp
            · exact Nat.ne_of_lt hlC
            rcases List.mem_cons.mp hp with rfl | hp
            · exact Nat.ne_of_lt (Nat.lt_trans hia hlC)
            · rw [List.mem_singleton.mp hp]; exact Nat.ne_of_lt (Nat.lt_trans hir (Nat.lt_trans hia hlC))
          intro hD oCD hOD FD ND
          clear FB NB
          show wpAny _ _ (pure true) _ _ _
          refine wpAny_pure ?_
          rw [if_pos rfl]
          have hch : (chS ((J ++ x.tl).cps.toList[k])).length = 1 := rfl
          k_steps
          rename_i tw tkG hkG
          have offA : ∀ p ∈ (C, oCD) :: (its, oiB) :: [(it, oi10)], p.1 ≠ acc := by
            intro p hp
            rcases List.mem_cons.mp hp with rfl | hp
            · exact Nat.ne_of_gt hlC
            rcases List.mem_cons.mp hp with rfl | hp
            · exact Nat.ne_of_lt hia
            · rw [List.mem_singleton.mp hp]; exact Nat.ne_of_lt (Nat.lt_trans hir hia)
          have ND2 : News g L1 hD ((acc, listOf (strValues lE).toArray nlE) :: (C, oCD) :: (its, oiB) :: [(it, oi10)]) := news_sub ND (fun p hp => by
            simp only [List.mem_cons] at hp ⊢
            rcases hp with h | h | h
            · exact .inr (.inl h)
            · exact .inl h
            · exact .inr (.inr h))
          refine append_K (its := (strValues lE).toArray) (n := nlE) FD ND2 (Upd.head offA) ?_ ?size
          case size => rw [List.size_toArray]; refine size_fit ?_; simp only [strValues, List.length_map]; omega
          intro hH FH NH
          rw [strV_push] at NH
          refine ⟨k + 1, Nat.sub_lt_sub_left (Nat.lt_succ_of_lt hkn) (Nat.lt_succ_self k), hH, _, oCD, _, oiB, lE ++ [(Str.ofString "\\" ++ chS ((J ++ x.tl).cps.toList[k]), tw)], nlE + 1, rfl, FH, ?e2, hOD, hiB, ?e3, hkn⟩
          case e2 =>
            intro p hp
            refine NH p ?_
            simp only [List.mem_cons] at hp ⊢
            rcases hp with h | h | h
            · exact .inr (.inl h)
            · exact .inl h
            · exact .inr (.inr h)
          case e3 => rw [List.map_append, hlE, List.take_add_one, List.getElem?_eq_getElem hkn]; simp
        · have hke : k = (J ++ x.tl).cps.toList.length := Nat.le_antisymm hkE (Nat.le_of_not_lt hkn)
          refine si_end rfl FE NE offE hiE (List.getElem?_eq_none (Nat.le_of_not_lt hkn)) ?_
          intro hB FB NB KB
          clear FE NE KB
          dsimp only [CompTurn]
          dsimp only [D8]
          refine ⟨_, hOE.ns (NB _ (.head _)).1, fun h₃ hs₃ => ?_⟩
          have offC : ∀ p ∈ (acc, listOf (strValues lE).toArray nlE) :: [(it, oi10)], p.1 ≠ C := by
            intro p hp
            rcases List.mem_cons.mp hp with rfl | hp
            · exact Nat.ne_of_lt hlC
            · rw [List.mem_singleton.mp hp]; exact Nat.ne_of_lt (Nat.lt_trans hir (Nat.lt_trans hia hlC))
          obtain ⟨F₃, N₃⟩ := led_drop FB NB offC hs₃.extBut
          clear FB NB
          replace F₃ := fr_pick F₃ ht12
          k_steps
          unfold Stop
          have hlm : lE.map (·.1) = (J ++ x.tl).cps.toList.map (fun c => Str.ofString "\\" ++ chS c) := by rw [hlE, hke, List.take_length]
          have hsum : (lE.map (fun y => y.1.length)).sum ≤ 1000 := by
            have h1 : lE.map (fun y => y.1.length) = (lE.map (·.1)).map (·.length) := by rw [List.map_map]; rfl
            rw [h1, hlm, List.map_map]
            exact le_of_map _ hwl
          refine r_join (l := lE) (N₃ _ (.head _)).1 (by decide +kernel) (by omega) (by omega) ?_
          intro t17 tk17
          obtain ⟨Jn, hJn⟩ : ∃ Jn, Jn = Str.join (Str.ofString "") (lE.map (·.1)) := ⟨_, rfl⟩
          have hJe : Jn.cps.toList = escB x.word.cps.toList := by rw [hJn, hJw]; exact join_esc lE _ hlm
          have hJnl : Jn.length ≤ 200 := by
            have h1 := escB_len2 x.word.cps.toList
            have h2 : x.word.cps.toList.length = x.word.length := by simp [Str.length]
            have h3 : Jn.length = Jn.cps.toList.length := by simp [Str.length]
            rw [h3, hJe]; exact escL (Nat.le_of_eq h1) h2 hxw
          rw [← hJn]
          k_steps
          rename Fr _ _ _ _ => F16
          rename News _ _ _ _ => N16
          refine ⟨i + 1, Nat.sub_lt_sub_left (Nat.lt_succ_of_lt hil) (Nat.lt_succ_self i), _, _, _, _, oi10, _, rfl, fr_pick F16 (if_pos rfl), news_sub N16 (fun p hp => .tail _ hp), hi10, ?_, hil⟩
          rw [htk, enc_snoc, enc_bare hcond1 (by rw [hJw]; simpa using hcond), ← hT9]
          exact esc_step rfl hJe
    · rename (J ++ x.tl != _) = false => hcond
      unfold Stop
      refine r_replT (by omega) (Nat.succ_ne_zero _) (Nat.ne_of_lt (Nat.lt_succ_self _)) (by decide +kernel) (by rw [Str.length_append]; omega) (by decide +kernel) ?_
      intro t14 k14 hk14
      dsimp only at hk14
      k_steps
      unfold Stop
      have hr1 := repl_len (J ++ x.tl) (Str.ofString "\\") (Str.ofString "\\\\")
      rw [show (Str.ofString "\\\\").length = 2 by decide +kernel, Str.length_append] at hr1
      refine r_replT (by omega) (Nat.succ_ne_zero _) (Nat.ne_of_lt (Nat.lt_succ_self _)) (by decide +kernel) (rplL hr1 hJl) (by decide +kernel) ?_
      intro t15 k15 hk15
      obtain ⟨Rp, hRp⟩ : ∃ Rp, Rp = Txt.replace (Txt.replace (J ++ x.tl) (Str.ofString "\\") (Str.ofString "\\\\")) (Str.ofString "\"") (Str.ofString "\\\"") := ⟨_, rfl⟩
      have hRe : Rp.cps.toList = escQ x.word.cps.toList := by rw [hRp, hJw]; exact repl_escQ _
      have hRl : Rp.length ≤ 200 := by
        have h1 := escQ_len2 x.word.cps.toList
        have h2 : x.word.cps.toList.length = x.word.length := by simp [Str.length]
        have h3 : Rp.length = Rp.cps.toList.length := by simp [Str.length]
        rw [h3, hRe]; exact escL h1 h2 hxw
      rw [← hRp]
      k_steps
      rename Fr _ _ _ _ => F16
      rename News _ _ _ _ => N16
      refine ⟨i + 1, Nat.sub_lt_sub_left (Nat.lt_succ_of_lt hil) (Nat.lt_succ_self i), _, _, _, _, oi10, _, rfl, fr_pick F16 (if_pos rfl), N16, hi10, ?_, hil⟩
      rw [htk, enc_snoc, enc_quo (.inr (by rw [hJw]; simpa using hcond)), ← hT9]
      exact quo_step rfl hRe
    · rename x.b ≠ 1 => hcond
      unfold Stop
      refine r_replT (by omega) (Nat.succ_ne_zero _) (Nat.ne_of_lt (Nat.lt_succ_self _)) (by decide +kernel) (by rw [Str.length_append]; omega) (by decide +kernel) ?_
      intro t14 k14 hk14
      dsimp only at hk14
      k_steps
      unfold Stop
      have hr1 := repl_len (J ++ x.tl) (Str.ofString "\\") (Str.ofString "\\\\")
      rw [show (Str.ofString "\\\\").length = 2 by decide +kernel, Str.length_append] at hr1
      refine r_replT (by omega) (Nat.succ_ne_zero _) (Nat.ne_of_lt (Nat.lt_succ_self _)) (by decide +kernel) (rplL hr1 hJl) (by decide +kernel) ?_
      intro t15 k15 hk15
      obtain ⟨Rp, hRp⟩ : ∃ Rp, Rp = Txt.replace (Txt.replace (J ++ x.tl) (Str.ofString "\\") (Str.ofString "\\\\")) (Str.ofString "\"") (Str.ofString "\\\"") := ⟨_, rfl⟩
      have hRe : Rp.cps.toList = escQ x.word.cps.toList := by rw [hRp, hJw]; exact repl_escQ _
      have hRl : Rp.length ≤ 200 := by
        have h1 := escQ_len2 x.word.cps.toList
        have h2 : x.word.cps.toList.length = x.word.length := by simp [Str.length]
        have h3 : Rp.length = Rp.cps.toList.length := by simp [Str.length]
        rw [h3, hRe]; exact escL h1 h2 hxw
      rw [← hRp]
      k_steps
      rename Fr _ _ _ _ => F16
      rename News _ _ _ _ => N16
      refine ⟨i + 1, Nat.sub_lt_sub_left (Nat.lt_succ_of_lt hil) (Nat.lt_succ_self i), _, _, _, _, oi10, _, rfl, fr_pick F16 (if_pos rfl), N16, hi10, ?_, hil⟩
      rw [htk, enc_snoc, enc_quo (.inl hcond), ← hT9]
      exact quo_step rfl hRe
  · have hie : i = ms.length := Nat.le_antisymm hil9 (Nat.le_of_not_lt hil)
    refine li_end rfl F9 N9 (fun p hp => nomatch hp) hi9 (F9.keep _ _ hlg) (by simp [msgRefs, hie]) ?_
    intro h10 F10 N10 K10
    clear F9 N9 K10
    dsimp only [IndTurn]
    dsimp only [Q8]
    k_steps
    rw [hie, List.take_length] at hT9
    exact leaveM_ F10 (fun kF kk kN => hret _ _ _ _ hT9 kF (fun b o e => kk b o e List.not_mem_nil))
end
end Mine
end
section
open PySem PySem.W PyProof.Rows PySem.Calls PySem.Spec
set_option maxRecDepth 100000
set_option maxHeartbeats 8000000
namespace Mine
local macro_rules | `(tactic| walk_at "exec For Name Call cons nil") => `(tactic| (k_here; refine Stop.go ?_))
local macro_rules | `(tactic| walk_at "assign Tuple") => `(tactic| (k_here; refine Stop.go ?_))
local macro_rules | `(tactic| walk_at "binaryOp Mult ref int") => `(tactic| (k_here; refine Stop.go ?_))
local macro_rules | `(tactic| walk_at "binaryOp Add ref ref") => `(tactic| (k_here; refine Stop.go ?_))
local macro_rules | `(tactic| walk_at "binaryOp Mult str int") => `(tactic| (k_here; refine Stop.go ?_))
local macro_rules | `(tactic| walk_at "setItem ref int") => `(tactic| (k_here; refine Stop.go ?_))
local macro_rules | `(tactic| walk_at "call builtin:len") => `(tactic| (k_here; refine Stop.go ?_))
local macro_rules | `(tactic| walk_at "Exists") => `(tactic| (k_here; refine Stop.go ?_))
local macro_rules | `(tactic| walk_at "binaryOp Add str str") => `(tactic| (k_here; apply r_addT; (rw [sizeLine_eq]; (try simp only [Str.length_append]); omega); intro t' k hk; (try dsimp only at hk)))
local macro_rules | `(tactic| walk_at "storeName") => `(tactic| (k_here; (with_reducible show wpAny _ _ (storeName (compEnvC _ _ _ _) _ _) _ _ _); refine Stop.go ?_))
local macro_rules | `(tactic| walk_at "subscriptTail") => `(tactic| (k_here; (with_reducible show wpAny _ _ (subscriptTail _ _ (Value.ref _) (Value.int _ _)) _ _ _); refine Stop.go ?_))
local macro_rules | `(tactic| walk_at "call builtin:str.join") => `(tactic| (k_here; refine Stop.go ?_))
section
variable {w : World} {p : Program} {loose : List Str} {mean : ExcName → Option Value} {mg mb : Str → Option Value}
  {dp un : Nat} {gd : Option (List Code)} {cn : Str} {cs : Scope} {a : Addr} {ccd : Value} {cl : List (Str × Addr)} {outer : List Env} {A₀ : Around} {base h₀ : Heap} {L : Addr} {m : Str → Option Value} {s : Shared} {R : Result → Shared → Prop}
  (B : Below A₀ base outer h₀) (F : Fr h₀ L s.heap m) (X : (hd.heap_39 w.params).In h₀) (T : Top p loose mean mg mb h₀) (hk : cs.kind = .function)
include B F X T hk
theorem due_ca {lm lt : Addr} {nl n3 : Nat} {ms : List MsgV} {l0 l1 l2 : Int} {t0 t1 t2 : Tok} (hl : s.heap.get? lm = some (listOf (msgRefs ms).toArray nl)) (hm0 : ∀ m ∈ ms, ∀ p ∈ m.led, s.heap.get? p.1 = some p.2) (hne : lm ≠ lt ∧ ∀ m ∈ ms, m.tu ≠ lt ∧ m.pl ≠ lt) (hlen : ms.length ≤ 10) (hps : ∀ m ∈ ms, 1 ≤ m.ps.length ∧ m.ps.length ≤ 3) (hw2 : ∀ m ∈ ms, (m.ps.map (fun y => y.1.length)).sum ≤ 1000 ∧ (Str.join (Str.ofString ":") (m.ps.map (·.1))).length + m.tl.length ≤ 1000) (hdp : dp + 8 < recursionLimit) (hu : un + 40 < cLine) (N : News h₀ L s.heap [(lt, listOf [Value.int l0 t0, .int l1 t1, .int l2 t2].toArray n3)])
  (hret : ∀ du dl ndl h' tk, dl.map (·.1) = dueFold (ms.map MsgV.pad) l0 l1 l2 (ms.map MsgV.due) ms.length → s.heap.get? du = none → Fr h₀ L h' m → News h₀ L h' [(du, listOf (strValues dl).toArray ndl), (lt, listOf [Value.int l0 t0, .int l1 t1, .int l2 t2].toArray n3)] → (∀ b o, s.heap.get? b = some o → h'.get? b = some o) → R (.ok (.ret (.ref du))) { s with heap := h', toks := tk }) :
  codeAny (model PG w) (ktrTop dp un gd cn cs L a ccd cl outer) (.call (.ref 140) ⟨[.ref lm, .ref lt], []⟩) R s := by
  have hfill : PySem.Challenge.rw_pg0181_01 = PySem.Challenge.rw_pg0181_01 := rfl
  have hfill2 : hd.heap_39 = hd.heap_39 := rfl
  revert hfill hfill2
  k_fill
  intro _ _
  k_dflt ktr_enter
  rename_i g L1 h1 tk1 FG F1 B1 X1 T1 GS lt1 oO oN oT dcO dcN dcT N1
  refine let_QE ?_
  intro E9 Q9
  refine let_A ?_
  intro A9
  have hlg := GS _ _ hl (by simpa using hne.1)
  have hmg : ∀ m ∈ ms, ∀ p ∈ m.led, g.get? p.1 = some p.2 := fun m hm p hp => GS _ _ (hm0 m hm p hp) (by
    have h := hne.2 m hm
    simp only [MsgV.led, List.mem_cons, List.not_mem_nil, or_false] at hp
    rcases hp with rfl | rfl
    · simpa using h.1
    · simpa using h.2)
  have hlg2 : g.IsList lm (msgRefs ms).toArray := ⟨_, hlg, rfl, nl, rfl⟩
  have hplg : ∀ m ∈ ms, g.IsList m.pl (strValues m.ps).toArray := fun m hm => ⟨_, hmg m hm _ (.tail _ (.head _)), rfl, m.np, rfl⟩
  clear hl hm0
  have dcT2 : oT.data = .cell (some (.ref lt)) := dcT
  have dcN2 : oN.data = .cell none := dcN
  have dcO2 : oO.data = .cell none := dcO
  clear dcT dcN dcO
  have hlt1 : @LT.lt Nat _ lt L1 := lt1
  k_steps
  unfold Stop
  k_dflt (refine wpAny_Assign_Name ?_ (by with_unfolding_all rfl))
  k_dflt (refine comp_start (cl := []) (by with_unfolding_all rfl) (by decide) (by with_unfolding_all rfl) (by decide) ?_ (by with_unfolding_all (intro _; rfl)))
  k_steps
  unfold Stop
  obtain ⟨mm, F2⟩ : ∃ mm : Str → Option Value, Fr g L1 h1 (fun y => if y = Str.ofString "messages" then some (.ref lm) else mm y) := ⟨_, fr_pick F1 rfl⟩
  obtain ⟨rest, hrest⟩ : ∃ rest, rest = [(L1 + 1 + 1 + 1, oO), (L1 + 1 + 1, oN), (L1 + 1, oT), (lt, listOf [Value.int l0 t0, .int l1 t1, .int l2 t2].toArray n3)] := ⟨_, rfl⟩
  have N2 : News g L1 h1 rest := by rw [hrest]; exact N1
  have hrL : ∀ p ∈ rest, @LT.lt Nat _ p.1 (L1 + 4) := by
    rw [hrest]
    intro p hp
    simp only [List.mem_cons, List.not_mem_nil, or_false] at hp
    rcases hp with rfl | rfl | rfl | rfl
    · exact Nat.lt_succ_self _
    · exact Nat.lt_succ_of_lt (Nat.lt_succ_self _)
    · exact Nat.lt_succ_of_lt (Nat.lt_succ_of_lt (Nat.lt_succ_self _))
    · exact Nat.lt_add_right 4 lt1
  clear F1 N1
  refine li_start F2 N2 (F2.keep _ _ hlg) ?_
  intro h3 it F3 N3 K3
  have hrit : ∀ p ∈ rest, @LT.lt Nat _ p.1 it := fun p hp => (K3 _ _ (N2 p hp).1).2
  have hLit : @LT.lt Nat _ (L1 + 3) it := hrit _ (by rw [hrest]; exact .head _)
  clear F2 N2 K3
  intro C hC tkC hlC haC hnsC hkC
  dsimp only at hlC haC hnsC hkC ⊢
  have hia : @LT.lt Nat _ it h3.objs.size := Heap.lt_size (N3 _ (.head _)).1
  have hal : h3.get? h3.objs.size = none := Heap.get?_none_of_le (Nat.le_refl _)
  generalize h3.objs.size = acc at *
  obtain ⟨oC, eC, hOC⟩ := LCg.ns_obj hnsC
  have F4 : Fr g L1 hC _ := F3.keeps hkC
  have above : ∀ b : Nat, @LT.lt Nat _ it b → g.get? b = none := fun b hb => Heap.get?_none_of_le (Nat.le_trans F4.above (Nat.le_of_lt (ltT hLit hb)))
  have N4 : News g L1 hC ((C, oC) :: (acc, listOf (nmRefs []).toArray 0) :: (it, liNew lm) :: (rest ++ [].flatMap NameV.led)) := by
    intro p hp
    rcases List.mem_cons.mp hp with rfl | hp
    · exact ⟨eC, Nat.ne_of_gt (ltT hLit (Nat.lt_trans hia hlC)), above _ (Nat.lt_trans hia hlC)⟩
    rcases List.mem_cons.mp hp with rfl | hp
    · exact ⟨haC, Nat.ne_of_gt (ltT hLit hia), above _ hia⟩
    · rw [List.flatMap_nil, List.append_nil] at hp
      exact ⟨hkC _ _ (N3 _ hp).1, (N3 _ hp).2⟩
  clear N3 F3 hnsC haC hkC eC
  refine ⟨?itself, ?loop⟩
  case itself => exact wpAny_pyIter_listiter (l := lm) (i := 0) ⟨_, (N4 _ (.tail _ (.tail _ (.head _)))).1, rfl, rfl⟩ ⟨rfl, rfl⟩
  case loop =>
    refine let_CR ?_
    intro D8
    k_dflt (refine comp_ind (TNm g L1 s (fun y => if y = Str.ofString "messages" then some (.ref lm) else mm y) rest lm it acc C ms) (fun k => ms.length + 1 - k) ?step4 0 ⟨hC, _, oC, _, _, 0, [], rfl, F4, N4, hOC, liNew_is lm, rfl, (fun v hv => nomatch hv), Nat.zero_le _⟩)
    intro k s' hI4
    clear N4 F4
    obtain ⟨hE, tkE, oCE, mCE, oiE, nmE, vsE, rfl, FE, NE, hOE, hiE, hvE, haE, hkE⟩ := hI4
    have offE : ∀ p ∈ (C, oCE) :: (acc, listOf (nmRefs vsE).toArray nmE) :: (rest ++ vsE.flatMap NameV.led), p.1 ≠ it := by
      intro p hp
      rcases List.mem_cons.mp hp with rfl | hp
      · exact Nat.ne_of_gt (Nat.lt_trans hia hlC)
      rcases List.mem_cons.mp hp with rfl | hp
      · exact Nat.ne_of_gt hia
      rcases List.mem_append.mp hp with hp | hp
      · exact Nat.ne_of_lt (hrit p hp)
      · exact Nat.ne_of_gt (Nat.lt_trans (Nat.lt_trans hia hlC) (nm_above haE p hp))
    have offC : ∀ oiB : Obj, ∀ p ∈ (acc, listOf (nmRefs vsE).toArray nmE) :: (it, oiB) :: (rest ++ vsE.flatMap NameV.led), p.1 ≠ C := by
      intro oiB p hp
      rcases List.mem_cons.mp hp with rfl | hp
      · exact Nat.ne_of_lt hlC
      rcases List.mem_cons.mp hp with rfl | hp
      · exact Nat.ne_of_lt (Nat.lt_trans hia hlC)
      rcases List.mem_append.mp hp with hp | hp
      · exact Nat.ne_of_lt (Nat.lt_trans (hrit p hp) (Nat.lt_trans hia hlC))
      · exact Nat.ne_of_gt (nm_above haE p hp)
    replace NE : News g L1 hE ((it, oiE) :: (C, oCE) :: (acc, listOf (nmRefs vsE).toArray nmE) :: (rest ++ vsE.flatMap NameV.led)) := news_sub NE (fun p hp => by
      simp only [List.mem_cons] at hp ⊢
      rcases hp with h | h | h | h
      · exact .inr (.inr (.inl h))
      · exact .inl h
      · exact .inr (.inl h)
      · exact .inr (.inr (.inr h)))
    by_cases hkm : k < ms.length
    · refine li_item (v := .ref (ms[k]).tu) FE NE offE hiE (FE.keep _ _ hlg) (by simp [msgRefs, hkm]) ?_
      intro hB oiB hiB FB NB KB
      clear FE NE KB
      have hmm : ms[k] ∈ ms := List.getElem_mem _
      have htk : ms.take (k + 1) = ms.take k ++ [ms[k]] := by rw [List.take_add_one, List.getElem?_eq_getElem hkm]; rfl
      generalize hx : ms[k] = x at hmm htk ⊢
      have hxt := hmg x hmm _ (.head _)
      have hxp := hmg x hmm _ (.tail _ (.head _))
      dsimp only [CompTurn]
      refine tup_go (NB _ (.head _)).1 hiB ?_
      k_dflt (refine unpackN_ FB NB (items := #[.ref x.pl, .str x.tl x.tt, .int x.b x.tb]) ⟨_, FB.keep _ _ hxt, rfl, _, rfl⟩ rfl rfl rfl ?_)
      intro hD FD ND
      clear FB NB
      replace ND : News g L1 hD ((C, oCE) :: (acc, listOf (nmRefs vsE).toArray nmE) :: (it, oiB) :: (rest ++ vsE.flatMap NameV.led)) := news_sub ND (fun p hp => by
        simp only [List.mem_cons] at hp ⊢
        rcases hp with h | h | h | h
        · exact .inr (.inl h)
        · exact .inr (.inr (.inl h))
        · exact .inl h
        · exact .inr (.inr (.inr h)))
      k_steps
      unfold Stop
      refine comp_store FD ND (offC oiB) hOE (by with_unfolding_all rfl) ?_ (by with_unfolding_all rfl)
      intro hD1 oCD1 hOD1 FD1 ND1
      clear FD ND
      k_steps
      unfold Stop
      refine comp_store FD1 ND1 (offC oiB) hOD1 (by with_unfolding_all rfl) ?_ (by with_unfolding_all rfl)
      intro hD2 oCD2 hOD2 FD2 ND2
      clear FD1 ND1
      k_steps
      unfold Stop
      refine comp_store FD2 ND2 (offC oiB) hOD2 (by with_unfolding_all rfl) ?_ (by with_unfolding_all rfl)
      intro hD3 oCD3 hOD3 FD3 ND3
      clear FD2 ND2
      k_steps
      show wpAny _ _ (pure true) _ _ _
      refine wpAny_pure ?_
      rw [if_pos rfl]
      have hpl := hplg x hmm
      clear hOD1 hOD2 hOE
      have hp1 := (hps x hmm).1
      have hp3 := (hps x hmm).2
      have hsl : (strValues x.ps).length = x.ps.length := by simp [strValues]
      k_steps
      unfold Stop
      rename Fr _ _ _ _ => FG5
      rename News _ _ _ _ => NG5
      refine r_len (us := strValues x.ps) (FG5.keep _ _ hxp) (lqF hsl hp3 (by decide)) ?_
      rw [hsl]
      k_steps
      unfold Stop
      refine r_mulList FG5 NG5 (NG5 _ (.head _)).1 (sbLo hp3).1 (sbLo hp3).2.1 ?_
      intro hM DM FM NM lM
      clear FG5 NG5
      k_steps
      unfold Stop
      refine r_addLists FM NM (NM _ (.head _)).1 (FM.keep _ _ hxp) (by rw [List.length_replicate, hsl]; exact (sbLo hp3).2.2) ?_
      intro hA DA FA NA lA
      have lMA : @LT.lt Nat _ DM DA := lA _ (.head _)
      have lCM : @LT.lt Nat _ C DM := lM _ (.tail _ (.head _))
      have hlen : vsE.length = k := by
        have h := congrArg List.length hvE
        rw [List.length_map, List.length_map, List.length_take] at h; exact h.trans (mnL hkm)
      obtain ⟨a0, a1, a2, u0, u1, u2, hpad, hpad2⟩ := pad_made (t := _) hp1 hp3
      rw [hpad] at NA
      obtain ⟨v9, hv9⟩ : ∃ v9 : NameV, v9 = ⟨DA, 0, a0, a1, a2, u0, u1, u2⟩ := ⟨_, rfl⟩
      have NA2 : News g L1 hA ((acc, listOf (nmRefs vsE).toArray nmE) :: (C, oCD3) :: (it, oiB) :: (rest ++ (vsE ++ [v9]).flatMap NameV.led)) := news_sub NA (fun p hp => by
        rw [nled_push, hv9] at hp
        simp only [NameV.led, List.mem_cons, List.mem_append, List.not_mem_nil, or_false] at hp ⊢
        rcases hp with h | h | h | h | h | h
        · exact .inr (.inr (.inr (.inr (.inl h))))
        · exact .inr (.inr (.inr (.inl h)))
        · exact .inr (.inr (.inr (.inr (.inr (.inl h)))))
        · exact .inr (.inr (.inr (.inr (.inr (.inr (.inl h))))))
        · exact .inr (.inr (.inr (.inr (.inr (.inr (.inr h))))))
        · exact .inl h)
      have haA : ∀ v ∈ vsE ++ [v9], @LT.lt Nat _ C v.nd := by
        intro v hv
        rcases List.mem_append.mp hv with hv | hv
        · exact haE v hv
        · rw [List.mem_singleton.mp hv, hv9]; exact Nat.lt_trans lCM lMA
      have offA : ∀ p ∈ (C, oCD3) :: (it, oiB) :: (rest ++ (vsE ++ [v9]).flatMap NameV.led), p.1 ≠ acc := by
        intro p hp
        rcases List.mem_cons.mp hp with rfl | hp
        · exact Nat.ne_of_gt hlC
        rcases List.mem_cons.mp hp with rfl | hp
        · exact Nat.ne_of_lt hia
        rcases List.mem_append.mp hp with hp | hp
        · exact Nat.ne_of_lt (Nat.lt_trans (hrit p hp) hia)
        · exact Nat.ne_of_gt (Nat.lt_trans hlC (nm_above haA p hp))
      refine append_K (its := (nmRefs vsE).toArray) (n := nmE) FA NA2 (Upd.head offA) ?_ ?size
      case size => rw [List.size_toArray]; refine size_fit ?_; simp only [nmRefs, List.length_map]; omega
      intro hH FH NH
      have hpush : (nmRefs vsE).toArray.push (.ref DA) = (nmRefs (vsE ++ [v9])).toArray := by rw [← nm_push, hv9]
      rw [hpush] at NH
      refine ⟨k + 1, Nat.sub_lt_sub_left (Nat.lt_succ_of_lt hkm) (Nat.lt_succ_self k), hH, _, oCD3, _, oiB, nmE + 1, vsE ++ [v9], rfl, FH, news_sub NH (fun p hp => by
        simp only [List.mem_cons] at hp ⊢
        rcases hp with h | h | h
        · exact .inr (.inl h)
        · exact .inl h
        · exact .inr (.inr h)), hOD3, hiB, ?_, haA, hkm⟩
      rw [htk, List.map_append, List.map_append, hvE, hv9]
      show _ ++ [(a0, a1, a2)] = _ ++ [x.pad]
      rw [hpad2]; rfl
    · have hke : k = ms.length := Nat.le_antisymm hkE (Nat.le_of_not_lt hkm)
      refine li_end rfl FE NE offE hiE (FE.keep _ _ hlg) (by simp [msgRefs, hke]) ?_
      intro hB FB NB KB
      clear FE NE KB
      dsimp only [CompTurn]
      dsimp only [D8]
      refine ⟨_, hOE.ns (NB _ (.head _)).1, fun h₃ hs₃ => ?_⟩
      obtain ⟨F₃, N₃⟩ := led_drop FB NB (fun p hp => by
        rcases List.mem_cons.mp hp with rfl | hp
        · exact offC default _ (.head _)
        · exact offC default _ (.tail _ (.tail _ hp))) hs₃.extBut
      clear FB NB
      rw [hke, List.take_length] at hvE
      have hlen : vsE.length = ms.length := by
        have h := congrArg List.length hvE
        rw [List.length_map, List.length_map] at h; exact h
      have N₄ : News g L1 h₃ ([(acc, listOf (nmRefs vsE).toArray nmE), (L1 + 1 + 1 + 1, oO)] ++ (L1 + 1 + 1, oN) :: ((L1 + 1, oT) :: (lt, listOf [Value.int l0 t0, .int l1 t1, .int l2 t2].toArray n3) :: vsE.flatMap NameV.led)) := news_sub N₃ (fun p hp => by
        rw [hrest]
        simp only [List.mem_cons, List.mem_append, List.not_mem_nil, or_false] at hp ⊢
        rcases hp with (h | h) | h | h | h | h
        · exact .inl h
        · exact .inr (.inl (.inl h))
        · exact .inr (.inl (.inr (.inl h)))
        · exact .inr (.inl (.inr (.inr (.inl h))))
        · exact .inr (.inl (.inr (.inr (.inr h))))
        · exact .inr (.inr h))
      clear N₃
      have hLacc : @LT.lt Nat _ (L1 + 3) acc := Nat.lt_trans hLit hia
      have haL : ∀ v ∈ vsE, @LT.lt Nat _ acc v.nd := fun v hv => Nat.lt_trans hlC (haE v hv)
      k_dflt (refine stCN F₃ N₄ rfl dcN2 ?o1 ?o2 ?_ rfl rfl)
      case o1 =>
        intro p hp
        simp only [List.mem_cons, List.not_mem_nil, or_false] at hp
        rcases hp with rfl | rfl
        · refine neN ?_; omega
        · refine neN ?_; omega
      case o2 =>
        intro p hp
        simp only [List.mem_cons] at hp
        rcases hp with rfl | rfl | hp
        · refine neN ?_; omega
        · refine neN ?_; omega
        · have := nm_above haL p hp
          exact neN (Nat.ne_of_gt (Nat.lt_trans (Nat.lt_of_succ_lt hLacc) this))
      intro h5 oN5 F5 N5 dcN5
      clear F₃ N₄
      k_steps
      unfold Stop
      have hml : (msgRefs ms).length = ms.length := by simp [msgRefs]
      rename Fr _ _ _ _ => F6
      rename News _ _ _ _ => N6
      refine r_len (us := msgRefs ms) (F6.keep _ _ hlg) (by omega) ?_
      rw [hml]
      k_steps
      unfold Stop
      refine r_mulList F6 N6 (N6 _ (.head _)).1 ngN (by omega) ?_
      intro h7 du F7 N7 l7
      rw [Int.toNat_natCast] at N7
      have hdu : ∀ p ∈ (acc, listOf (nmRefs vsE).toArray nmE) :: (L1 + 1 + 1 + 1, oO) :: (L1 + 1 + 1, oN5) :: (L1 + 1, oT) :: (lt, listOf [Value.int l0 t0, .int l1 t1, .int l2 t2].toArray n3) :: vsE.flatMap NameV.led, @LT.lt Nat _ p.1 du := fun p hp => l7 _ (.tail _ hp)
      clear F6 N6 l7
      replace N7 := news_sub N7 (led' := (du, listOf (List.replicate ms.length (Value.str (Str.ofString "") _)).toArray 0) :: (acc, listOf (nmRefs vsE).toArray nmE) :: (L1 + 1 + 1 + 1, oO) :: (L1 + 1 + 1, oN5) :: (L1 + 1, oT) :: (lt, listOf [Value.int l0 t0, .int l1 t1, .int l2 t2].toArray n3) :: vsE.flatMap NameV.led) (fun p hp => by
        rcases List.mem_cons.mp hp with rfl | hp
        · exact .head _
        · exact .tail _ (.tail _ hp))
      k_steps
      unfold Stop
      k_dflt (refine for_start ?_)
      k_steps
      unfold Stop
      rename Fr _ _ _ _ => F8
      rename News _ _ _ _ => N8
      refine r_len (us := msgRefs ms) (F8.keep _ _ hlg) (by omega) ?_
      rw [hml]
      k_steps
      unfold Stop
      rename IsRange _ _ _ _ _ _ _ _ => hrg
      rename Fr _ _ _ _ => F9
      rename News _ _ _ _ => N9
      refine ri_start F9 N9 hrg (by omega) (by omega) ?_
      intro h10 itr F10 N10 K10
      have hir : ∀ p ∈ (du, listOf (List.replicate ms.length (Value.str (Str.ofString "") _)).toArray 0) :: (acc, listOf (nmRefs vsE).toArray nmE) :: (L1 + 1 + 1 + 1, oO) :: (L1 + 1 + 1, oN5) :: (L1 + 1, oT) :: (lt, listOf [Value.int l0 t0, .int l1 t1, .int l2 t2].toArray n3) :: vsE.flatMap NameV.led, @LT.lt Nat _ p.1 itr := fun p hp => (K10 _ _ (N9 p hp).1).2
      clear F9 N9 K10 hrg
      obtain ⟨rest5, hrest5⟩ : ∃ rest5, rest5 = (L1 + 1 + 1, oN5) :: (L1 + 1, oT) :: (lt, listOf [Value.int l0 t0, .int l1 t1, .int l2 t2].toArray n3) :: (acc, listOf (nmRefs vsE).toArray nmE) :: vsE.flatMap NameV.led := ⟨_, rfl⟩
      have h5n : ∀ p ∈ rest5, p.1 ≠ L1 + 1 + 1 + 1 := by
        rw [hrest5]
        intro p hp
        rcases List.mem_cons.mp hp with rfl | hp
        · refine neN ?_; omega
        rcases List.mem_cons.mp hp with rfl | hp
        · refine neN ?_; omega
        rcases List.mem_cons.mp hp with rfl | hp
        · refine neN ?_; omega
        rcases List.mem_cons.mp hp with rfl | hp
        · refine neN ?_; omega
        · have := nm_above haL p hp
          exact neN (Nat.ne_of_gt (Nat.lt_trans hLacc this))
      have h5d : ∀ p ∈ rest5, @LT.lt Nat _ p.1 du := by
        rw [hrest5]
        intro p hp
        refine hdu p ?_
        simp only [List.mem_cons] at hp ⊢
        rcases hp with h | h | h | h | h
        · exact .inr (.inr (.inl h))
        · exact .inr (.inr (.inr (.inl h)))
        · exact .inr (.inr (.inr (.inr (.inl h))))
        · exact .inl h
        · exact .inr (.inr (.inr (.inr (.inr h))))
      have hLd : @LT.lt Nat _ (L1 + 1 + 1 + 1) du := hdu _ (.tail _ (.head _))
      have hdi : @LT.lt Nat _ du itr := hir _ (.head _)
      clear hir hdu
      obtain ⟨dues, hdues⟩ : ∃ dues, dues = ms.map MsgV.due := ⟨_, rfl⟩
      obtain ⟨pads, hpads⟩ : ∃ pads, pads = ms.map MsgV.pad := ⟨_, rfl⟩
      have hdl : dues.length = ms.length := by rw [hdues, List.length_map]
      have hpl9 : pads.length = ms.length := by rw [hpads, List.length_map]
      rw [← hpads] at hvE
      rw [← hdl] at N10
      have hsr : ∀ t, List.replicate dues.length (Value.str (Str.ofString "") t) = strValues (List.replicate dues.length (Str.ofString "", t)) := fun t => by simp [strValues]
      obtain ⟨t9, N10⟩ : ∃ t9, News g L1 h10 ((itr, riObj 0 (dues.length : Int)) :: (du, listOf (List.replicate dues.length (Value.str (Str.ofString "") t9)).toArray 0) :: (acc, listOf (nmRefs vsE).toArray nmE) :: (L1 + 1 + 1 + 1, oO) :: (L1 + 1 + 1, oN5) :: (L1 + 1, oT) :: (lt, listOf [Value.int l0 t0, .int l1 t1, .int l2 t2].toArray n3) :: vsE.flatMap NameV.led) := ⟨_, N10⟩
      rw [hsr] at N10
      refine let_FR ?_
      intro Q8
      refine for_ind (TDu g L1 s lm du itr rest5 pads l0 l1 l2 dues) (fun k => dues.length + 1 - k) (by k_dflt passes_own) ?step5 0 ⟨h10, _, mm, oO, _, List.replicate dues.length (Str.ofString "", t9), 0, rfl, F10, news_sub N10 ?sub5, dcO2, ?dl5, Nat.zero_le _⟩
      case dl5 => simp [dueFold]
      case sub5 =>
        intro p hp
        rw [hrest5] at hp
        simp only [List.mem_cons] at hp ⊢
        rcases hp with h | h | h | h | h | h | h | h
        · exact .inl (by rw [h]; simp)
        · exact .inr (.inl h)
        · exact .inr (.inr (.inr (.inl h)))
        · exact .inr (.inr (.inr (.inr (.inl h))))
        · exact .inr (.inr (.inr (.inr (.inr (.inl h)))))
        · exact .inr (.inr (.inr (.inr (.inr (.inr (.inl h))))))
        · exact .inr (.inr (.inl h))
        · exact .inr (.inr (.inr (.inr (.inr (.inr (.inr h))))))
      clear F10 N10
      intro k s' hI
      obtain ⟨hK, tkK, mmK, oOK, vOK, dlK, ndK, rfl, FK, NK, dcK, hdK, hkK⟩ := hI
      have offI : ∀ p ∈ (du, listOf (strValues dlK).toArray ndK) :: (L1 + 1 + 1 + 1, oOK) :: rest5, p.1 ≠ itr := by
        intro p hp
        rcases List.mem_cons.mp hp with rfl | hp
        · exact Nat.ne_of_lt hdi
        rcases List.mem_cons.mp hp with rfl | hp
        · exact Nat.ne_of_lt (Nat.lt_trans hLd hdi)
        · exact Nat.ne_of_lt (Nat.lt_trans (h5d p hp) hdi)
      by_cases hkn : k < dues.length
      · refine ri_item FK NK offI (by omega) ?_
        intro hB FB NB KB
        clear FK NK KB
        have hkm : k < ms.length := hdl ▸ hkn
        have hmm : ms[k] ∈ ms := List.getElem_mem _
        have hdk : dues.getD k (Str.ofString "") = (ms[k]).due := by rw [hdues]; simp [hkm]
        have hgk : (msgRefs ms)[k]? = some (.ref (ms[k]).tu) := by simp [msgRefs, hkm]
        generalize hx : ms[k] = x at hmm hdk hgk
        have hxt := hmg x hmm _ (.head _)
        have hxp := hmg x hmm _ (.tail _ (.head _))
        dsimp only [IndTurn]
        refine name_go ?_
        k_dflt (refine stCN (own := [(itr, riObj ((k : Int) + 1) ((dues.length : Int) - (k : Int) - 1)), (du, listOf (strValues dlK).toArray ndK)]) (rest := rest5) (c := L1 + 1 + 1 + 1) (o := oOK) FB NB rfl dcK ?p1 ?p2 ?_ rfl rfl)
        case p1 =>
          intro p hp
          simp only [List.mem_cons, List.not_mem_nil, or_false] at hp
          rcases hp with rfl | rfl
          · exact Nat.ne_of_gt (Nat.lt_trans hLd hdi)
          · exact Nat.ne_of_gt hLd
        case p2 => exact h5n
        intro h11 oO11 F11 N11 dc11
        clear FB NB
        replace N11 : News g L1 h11 ((itr, riObj ((k : Int) + 1) ((dues.length : Int) - (k : Int) - 1)) :: (du, listOf (strValues dlK).toArray ndK) :: (L1 + 1 + 1 + 1, oO11) :: rest5) := N11
        rw [hrest5] at N11
        k_steps
        unfold Stop
        rename Fr _ _ _ _ => F12
        rename News _ _ _ _ => N12
        refine r_item (F12.keep _ _ hlg) (Int.natCast_nonneg _) (i63b hkm ‹ms.length ≤ 10› (by decide)) (by rw [Int.toNat_natCast]; exact hgk) ?_ (by k_dflt rfl)
        k_steps
        unfold Stop
        k_dflt (refine unpackN_ F12 N12 (items := #[.ref x.pl, .str x.tl x.tt, .int x.b x.tb]) ⟨_, F12.keep _ _ hxt, rfl, _, rfl⟩ rfl rfl rfl ?_)
        intro h13 F13 N13
        clear F12 N12
        k_steps
        unfold Stop
        rename Fr _ _ _ _ => F14
        rename News _ _ _ _ => N14
        obtain ⟨f14, hf14⟩ : ∃ f14 : Str → Option Value, f14 = fun y => if y = Str.ofString "bare" then some (Value.int x.b x.tb) else if y = Str.ofString "tail" then some (Value.str x.tl x.tt) else if y = Str.ofString "parts" then some (Value.ref x.pl) else if y = Str.ofString "due" then some (Value.ref du) else if y = Str.ofString "messages" then some (Value.ref lm) else mmK y := ⟨_, rfl⟩
        k_dflt (refine comp_start (cl := [(Str.ofString "turns", L1 + 1), (Str.ofString "one", L1 + 1 + 1 + 1), (Str.ofString "names", L1 + 1 + 1)]) (by with_unfolding_all rfl) (by decide) (by with_unfolding_all rfl) (by decide) ?_ (by with_unfolding_all (intro _; rfl)))
        k_steps
        unfold Stop
        refine r_len (us := msgRefs ms) (F14.keep _ _ hlg) (by omega) ?_
        rw [hml]
        k_steps
        unfold Stop
        rename IsRange _ _ _ _ _ _ _ _ => hrg
        rename Fr _ _ _ _ => F15
        rename News _ _ _ _ => N15
        rw [← hf14] at F15
        refine ri_start F15 N15 hrg (by omega) (by omega) ?_
        intro h16 itq F16 N16 K16
        have hiq : @LT.lt Nat _ itr itq := (K16 _ _ (N15 _ (.head _)).1).2
        clear F15 N15 K16 hrg
        obtain ⟨rest6, hrest6⟩ : ∃ rest6, rest6 = (itr, riObj ((k : Int) + 1) ((dues.length : Int) - (k : Int) - 1)) :: (du, listOf (strValues dlK).toArray ndK) :: (L1 + 1 + 1 + 1, oO11) :: rest5 := ⟨_, rfl⟩
        have h6i : ∀ p ∈ rest6, @LT.lt Nat _ p.1 itq := by
          rw [hrest6]
          intro p hp
          rcases List.mem_cons.mp hp with rfl | hp
          · exact hiq
          rcases List.mem_cons.mp hp with rfl | hp
          · exact Nat.lt_trans hdi hiq
          rcases List.mem_cons.mp hp with rfl | hp
          · exact Nat.lt_trans hLd (Nat.lt_trans hdi hiq)
          · exact Nat.lt_trans (h5d p hp) (Nat.lt_trans hdi hiq)
        rw [← hrest5, ← hrest6, ← hpl9] at N16
        intro C2 hC2 tkC2 hlC2 haC2 hnsC2 hkC2
        dsimp only at hlC2 haC2 hnsC2 hkC2 ⊢
        have hia2 : @LT.lt Nat _ itq h16.objs.size := Heap.lt_size (N16 _ (.head _)).1
        generalize h16.objs.size = acc2 at *
        obtain ⟨oC2, eC2, hOC2⟩ := LCg.ns_obj hnsC2
        have F17 : Fr g L1 hC2 _ := F16.keeps hkC2
        have hLq : @LT.lt Nat _ L1 itq := Nat.lt_trans (Nat.lt_of_succ_lt (Nat.lt_of_succ_lt (Nat.lt_of_succ_lt hLd))) (Nat.lt_trans hdi hiq)
        have above2 : ∀ b : Nat, @LT.lt Nat _ itq b → g.get? b = none := fun b hb => Heap.get?_none_of_le (Nat.le_trans F17.above (Nat.le_of_lt (Nat.lt_trans hLq hb)))
        have N17 : News g L1 hC2 ((C2, oC2) :: (acc2, listOf (tvV []).toArray 0) :: (itq, riObj 0 (pads.length : Int)) :: rest6) := by
          intro p hp
          rcases List.mem_cons.mp hp with rfl | hp
          · exact ⟨eC2, Nat.ne_of_gt (Nat.lt_trans hLq (Nat.lt_trans hia2 hlC2)), above2 _ (Nat.lt_trans hia2 hlC2)⟩
          rcases List.mem_cons.mp hp with rfl | hp
          · exact ⟨haC2, Nat.ne_of_gt (Nat.lt_trans hLq hia2), above2 _ hia2⟩
          · exact ⟨hkC2 _ _ (N16 _ hp).1, (N16 _ hp).2⟩
        clear N16 F16 hnsC2 haC2 hkC2 eC2
        refine ⟨?itself2, ?loop2⟩
        case itself2 => exact wpAny_pyIter_rangeiter (N17 _ (.tail _ (.tail _ (.head _)))).1 ⟨rfl, rfl⟩
        case loop2 =>
          refine let_CR ?_
          intro D8
          k_dflt (refine comp_ind (TPl g L1 s f14 rest6 itq acc2 C2 pads l0 l1 l2 k) (fun q => pads.length + 1 - q) ?step6 0 ⟨hC2, _, oC2, _, [], 0, rfl, F17, N17, hOC2, rfl, Nat.zero_le _⟩)
          clear N17 F17
          intro q s' hI6
          obtain ⟨hQ, tkQ, oCQ, mCQ, lQ, nlQ, rfl, FQ, NQ, hOQ, hlQ, hqQ⟩ := hI6
          have offQ : ∀ p ∈ (C2, oCQ) :: (acc2, listOf (tvV lQ).toArray nlQ) :: rest6, p.1 ≠ itq := by
            intro p hp
            rcases List.mem_cons.mp hp with rfl | hp
            · exact Nat.ne_of_gt (Nat.lt_trans hia2 hlC2)
            rcases List.mem_cons.mp hp with rfl | hp
            · exact Nat.ne_of_gt hia2
            · exact Nat.ne_of_lt (h6i p hp)
          replace NQ : News g L1 hQ ((itq, riObj (q : Int) ((pads.length : Int) - (q : Int))) :: (C2, oCQ) :: (acc2, listOf (tvV lQ).toArray nlQ) :: rest6) := news_sub NQ (fun p hp => by
            simp only [List.mem_cons] at hp ⊢
            rcases hp with h | h | h | h
            · exact .inr (.inr (.inl h))
            · exact .inl h
            · exact .inr (.inl h)
            · exact .inr (.inr (.inr h)))
          by_cases hqn : q < pads.length
          · refine ri_item FQ NQ offQ (by omega) ?_
            intro hB FB NB KB
            clear FQ NQ KB
            dsimp only [CompTurn]
            refine name_go ?_
            refine comp_store (mC := mCQ) (oC := oCQ) (rest := (acc2, listOf (tvV lQ).toArray nlQ) :: (itq, riObj ((q : Int) + 1) ((pads.length : Int) - (q : Int) - 1)) :: rest6) FB (news_sub NB (fun p hp => by
              simp only [List.mem_cons] at hp ⊢
              rcases hp with h | h | h | h
              · exact .inr (.inl h)
              · exact .inr (.inr (.inl h))
              · exact .inl h
              · exact .inr (.inr (.inr h)))) ?offCQ hOQ (by with_unfolding_all rfl) ?_ (by with_unfolding_all rfl)
            case offCQ =>
              intro p hp
              rcases List.mem_cons.mp hp with rfl | hp
              · exact Nat.ne_of_lt hlC2
              rcases List.mem_cons.mp hp with rfl | hp
              · exact Nat.ne_of_lt (Nat.lt_trans hia2 hlC2)
              · exact Nat.ne_of_lt (Nat.lt_trans (h6i p hp) (Nat.lt_trans hia2 hlC2))
            intro hD oCD hOD FD ND
            clear FB NB
            refine comp_test1 ?_
            rw [hrest6, hrest5] at ND
            have hvl : vsE.length = pads.length := by rw [← hvE, List.length_map]
            have hqv : q < vsE.length := hvl.symm ▸ hqn
            have hkv : k < vsE.length := hlen.symm ▸ hkm
            have hq10 : q ≤ 100 := lqH (hpl9 ▸ hqn) ‹ms.length ≤ 10› (by decide)
            have hk10 : k ≤ 100 := lqH hkm ‹ms.length ≤ 10› (by decide)
            k_steps
            · rename Fr _ _ _ _ => FG
              rename News _ _ _ _ => NG
              rename (q : Int) ≠ (k : Int) => hqk
              have mlt : (lt, listOf [Value.int l0 t0, .int l1 t1, .int l2 t2].toArray n3) ∈ (C2, oCD) :: (acc2, listOf (tvV lQ).toArray nlQ) :: (itq, riObj ((q : Int) + 1) ((pads.length : Int) - (q : Int) - 1)) :: (itr, riObj ((k : Int) + 1) ((dues.length : Int) - (k : Int) - 1)) :: (du, listOf (strValues dlK).toArray ndK) :: (L1 + 1 + 1 + 1, oO11) :: (L1 + 1 + 1, oN5) :: (L1 + 1, oT) :: (lt, listOf [Value.int l0 t0, .int l1 t1, .int l2 t2].toArray n3) :: (acc, listOf (nmRefs vsE).toArray nmE) :: vsE.flatMap NameV.led := (.tail _ (.tail _ (.tail _ (.tail _ (.tail _ (.tail _ (.tail _ (.tail _ (.head _)))))))))
              have hnn := (NG _ ((.tail _ (.tail _ (.tail _ (.tail _ (.tail _ (.tail _ (.tail _ (.tail _ (.tail _ (.head _)))))))))))).1
              have hnq := (NG _ ((.tail _ (.tail _ (.tail _ (.tail _ (.tail _ (.tail _ (.tail _ (.tail _ (.tail _ (.tail _ (nm_mem (List.getElem_mem hqv)))))))))))))).1
              have hnk := (NG _ ((.tail _ (.tail _ (.tail _ (.tail _ (.tail _ (.tail _ (.tail _ (.tail _ (.tail _ (.tail _ (nm_mem (List.getElem_mem hkv)))))))))))))).1
              have hneL : acc ≠ lt ∧ (vsE[q]).nd ≠ lt ∧ (vsE[k]).nd ≠ lt := by
                have e1 := haL _ (List.getElem_mem hqv)
                have e2 := haL _ (List.getElem_mem hkv)
                have h0 : @LT.lt Nat _ lt acc := Nat.lt_trans lt1 (ltA hLacc)
                exact ⟨neN (Nat.ne_of_gt h0), neN (Nat.ne_of_gt (Nat.lt_trans h0 e1)), neN (Nat.ne_of_gt (Nat.lt_trans h0 e2))⟩
              k_dflt (refine' wpAny_call (ahead_ca ?kB FG ?kX ?kT rfl (nl := acc) (lt := lt) (pi := (vsE[q]).nd) (pj := (vsE[k]).nd) hnn (nm_at hqv) (nm_at hkv) hnq hnk hneL hq10 hk10 ?kd ?ku (news_sub NG ?sub) ?_))
              case kB => k_asm
              case kX => k_asm
              case kT => k_asm
              case kd => ktr_room
              case ku => ktr_units
              case sub => exact fun p hp => by rw [List.mem_singleton.mp hp]; exact mlt
              intro vA hA tkA hvA FA NA' KA
              have NA := news_back NG mlt NA' KA
              rw [ahead_eq hvE hqv hkv] at hvA
              clear NG NA' KA hnn hnq hnk FG
              subst hvA
              have hsel : aheadSel pads l0 l1 l2 k q = aheadIx pads l0 l1 l2 q k := by
                unfold aheadSel
                rw [show (q != k) = true by simp; exact fun e => hqk (congrArg _ e), Bool.true_and]
              refine wpAny_truthy_bool ?_
              dsimp only [qk, ek]
              replace NA : News g L1 hA ((C2, oCD) :: (acc2, listOf (tvV lQ).toArray nlQ) :: (itq, riObj ((q : Int) + 1) ((pads.length : Int) - (q : Int) - 1)) :: rest6) := by rw [hrest6, hrest5]; exact NA
              have hll : lQ.length ≤ 10000 := by rw [hlQ]; exact Nat.le_trans (sel_le (aheadSel pads l0 l1 l2 k) q) (Nat.le_trans hq10 (by decide))
              cases hb : aheadIx pads l0 l1 l2 q k with
              | true =>
                rw [if_pos rfl]
                refine isTrue_and_nil ?_
                rw [if_pos rfl]
                (with_reducible show wpAny _ _ (eval (PySem.Expr.Name _ _) (compEnvC _ _ _ _)) _ _ _)
                k_dflt (refine' comp_load ?N ?hm ?hC ?hv ?hk ?hy ?hd ?_; (case N => exact NA); (case hm => exact .head _); (case hC => exact hOD); (case hv => exact if_pos rfl); (case hk => with_unfolding_all rfl); (case hy => with_unfolding_all rfl); (case hd => decide +kernel))
                have offA : ∀ p ∈ (C2, oCD) :: (itq, riObj ((q : Int) + 1) ((pads.length : Int) - (q : Int) - 1)) :: rest6, p.1 ≠ acc2 := by
                  intro p hp
                  rcases List.mem_cons.mp hp with rfl | hp
                  · exact Nat.ne_of_gt hlC2
                  rcases List.mem_cons.mp hp with rfl | hp
                  · exact Nat.ne_of_lt hia2
                  · exact Nat.ne_of_lt (Nat.lt_trans (h6i p hp) hia2)
                have NA3 : News g L1 hA ((acc2, listOf (tvV lQ).toArray nlQ) :: (C2, oCD) :: (itq, riObj ((q : Int) + 1) ((pads.length : Int) - (q : Int) - 1)) :: rest6) := news_sub NA (fun p hp => by
                  simp only [List.mem_cons] at hp ⊢
                  rcases hp with h | h | h
                  · exact .inr (.inl h)
                  · exact .inl h
                  · exact .inr (.inr h))
                refine append_K (its := (tvV lQ).toArray) (n := nlQ) FA NA3 (Upd.head offA) ?_ ?size
                case size => rw [List.size_toArray]; refine size_fit ?_; simp only [tvV, List.length_map]; omega
                intro hH FH NH
                rw [tv_push] at NH
                refine ⟨q + 1, Nat.sub_lt_sub_left (Nat.lt_succ_of_lt hqn) (Nat.lt_succ_self q), hH, _, oCD, _, lQ ++ [((q : Int), tkQ)], nlQ + 1, rfl, FH, ?_, hOD, ?_, hqn⟩
                · rw [← riObj_succ]
                  intro p hp
                  refine NH p ?_
                  simp only [List.mem_cons] at hp ⊢
                  rcases hp with h | h | h
                  · exact .inr (.inl h)
                  · exact .inl h
                  · exact .inr (.inr h)
                · rw [List.length_append, hlQ, sel_len, hsel, hb]; rfl
              | false =>
                rw [if_neg Bool.false_ne_true]
                refine ⟨q + 1, Nat.sub_lt_sub_left (Nat.lt_succ_of_lt hqn) (Nat.lt_succ_self q), hA, _, oCD, _, lQ, nlQ, rfl, FA, ?_, hOD, ?_, hqn⟩
                · rw [← riObj_succ]; exact NA
                · rw [hlQ, sel_len, hsel, hb]; rfl
            · unfold Stop
              rename Fr _ _ _ _ => FG
              rename News _ _ _ _ => NG
              rename (q : Int) = (k : Int) => hqk
              replace NG : News g L1 hD ((C2, oCD) :: (acc2, listOf (tvV lQ).toArray nlQ) :: (itq, riObj ((q : Int) + 1) ((pads.length : Int) - (q : Int) - 1)) :: rest6) := by rw [hrest6, hrest5]; exact NG
              refine ⟨q + 1, Nat.sub_lt_sub_left (Nat.lt_succ_of_lt hqn) (Nat.lt_succ_self q), hD, _, oCD, _, lQ, nlQ, rfl, FG, ?_, hOD, ?_, hqn⟩
              · rw [← riObj_succ]; exact NG
              · have hsel : aheadSel pads l0 l1 l2 k q = false := by
                  unfold aheadSel
                  rw [show (q != k) = false by simp; exact Int.ofNat.inj hqk, Bool.false_and]
                rw [hlQ, sel_len, hsel]; rfl
          · have hqe : q = pads.length := Nat.le_antisymm hqQ (Nat.le_of_not_lt hqn)
            refine ri_end rfl FQ NQ offQ (by omega) ?_
            intro hB FB NB KB
            clear FQ NQ KB
            dsimp only [CompTurn]
            dsimp only [D8]
            refine ⟨_, hOQ.ns (NB _ (.head _)).1, fun h₃ hs₃ => ?_⟩
            have offC2 : ∀ p ∈ (acc2, listOf (tvV lQ).toArray nlQ) :: rest6, p.1 ≠ C2 := by
              intro p hp
              rcases List.mem_cons.mp hp with rfl | hp
              · exact Nat.ne_of_lt hlC2
              · exact Nat.ne_of_lt (Nat.lt_trans (h6i p hp) (Nat.lt_trans hia2 hlC2))
            obtain ⟨F₃, N₃⟩ := led_drop FB NB offC2 hs₃.extBut
            clear FB NB
            rw [hf14] at F₃
            have hpl : lQ.length = placeIx pads l0 l1 l2 k := by rw [hlQ, hqe]; rfl
            have hplt : lQ.length < dues.length := by
              have := sel_lt pads l0 l1 l2 (k := k) (n := pads.length) (hpl9.symm ▸ hkm)
              rw [hlQ, hqe, hdl, ← hpl9]; exact this
            have hl10 : dues.length ≤ 10 := hdl ▸ ‹ms.length ≤ 10›
            have htvl : (tvV lQ).length = lQ.length := by simp [tvV]
            rw [hrest6, hrest5] at N₃
            k_steps
            unfold Stop
            refine r_len (us := tvV lQ) (N₃ _ (.head _)).1 (lqE htvl hplt hl10 (by decide)) ?_
            rw [htvl]
            replace N₃ := news_sub N₃ (fun p hp => List.mem_cons_of_mem _ hp)
            have hsl : (strValues x.ps).length = x.ps.length := by simp [strValues]
            have hp1 := (hps x hmm).1
            have hp3 := (hps x hmm).2
            k_steps
            unfold Stop
            rename Fr _ _ _ _ => F20
            rename News _ _ _ _ => N20
            refine r_len (us := strValues x.ps) (F20.keep _ _ hxp) (lqF hsl hp3 (by decide)) ?_
            rw [hsl]
            k_steps
            unfold Stop
            k_dflt (refine KXi.mul (n := 1) (by decide +kernel) (by decide) (sb4 hp3).1 (sb4 hp3).2.1 ?_)
            intro t21 tk21 hM1 hM2
            obtain ⟨M9, hM9⟩ : ∃ M9, M9 = Txt.mul (Str.ofString ":") (4 - (x.ps.length : Int)) := ⟨_, rfl⟩
            rw [← hM9] at hM1 hM2 ⊢
            have hMl : M9.length ≤ 4 := sb4M hp1 (hM2 (sb4 hp3).2.2)
            clear hM1 hM2
            k_steps
            unfold Stop
            rename Fr _ _ _ _ => F22
            refine r_join (l := x.ps) (F22.keep _ _ hxp) (by decide +kernel) (Nat.le_trans (hw2 x hmm).1 (by decide)) (Nat.le_trans hp3 (by decide)) ?_
            intro t23 tk23
            obtain ⟨J9, hJ9⟩ : ∃ J9, J9 = Str.join (Str.ofString ":") (x.ps.map (·.1)) := ⟨_, rfl⟩
            have hJl := (hw2 x hmm).2
            rw [← hJ9] at hJl ⊢
            k_steps
            unfold Stop
            rename Fr _ _ _ _ => F25
            rename News _ _ _ _ => N25
            have hof : ∀ p ∈ (itr, riObj ((k : Int) + 1) ((dues.length : Int) - (k : Int) - 1)) :: (L1 + 1 + 1 + 1, oO11) :: rest5, p.1 ≠ du := by
              intro p hp
              rcases List.mem_cons.mp hp with rfl | hp
              · exact Nat.ne_of_gt hdi
              rcases List.mem_cons.mp hp with rfl | hp
              · exact Nat.ne_of_lt hLd
              · exact Nat.ne_of_lt (h5d p hp)
            have hdlK : dlK.length = dues.length := by rw [← List.length_map (f := (·.1)), hdK, dueFold_len]
            have N26 := news_sub N25 (led' := (du, listOf (strValues dlK).toArray ndK) :: (itr, riObj ((k : Int) + 1) ((dues.length : Int) - (k : Int) - 1)) :: (L1 + 1 + 1 + 1, oO11) :: rest5) (fun p hp => by
              rw [hrest5] at hp
              simp only [List.mem_cons] at hp ⊢
              rcases hp with h | h | h
              · exact .inr (.inl h)
              · exact .inl h
              · exact .inr (.inr h))
            refine r_setitem F25 N26 hof (by simp only [strValues, List.length_map]; rw [hdlK]; exact hplt) (lqH hplt hl10 (by decide)) ?_
            intro h27 F27 N27
            obtain ⟨t27, N27⟩ : ∃ t27, News g L1 h27 ((du, listOf ((strValues dlK).set lQ.length (Value.str (M9 ++ J9 ++ x.tl) t27)).toArray ndK) :: (itr, riObj ((k : Int) + 1) ((dues.length : Int) - (k : Int) - 1)) :: (L1 + 1 + 1 + 1, oO11) :: rest5) := ⟨_, N27⟩
            rw [strV_set] at N27
            k_steps
            refine ⟨k + 1, Nat.sub_lt_sub_left (Nat.lt_succ_of_lt hkn) (Nat.lt_succ_self k), h27, _, _, oO11, _, dlK.set lQ.length (M9 ++ J9 ++ x.tl, t27), ndK, rfl, fr_pick (fr_pick F27 rfl) rfl, ?_, dc11, ?_, hkn⟩
            · rw [← riObj_succ]
              exact news_sub N27 (fun p hp => by
                simp only [List.mem_cons] at hp ⊢
                rcases hp with h | h | h
                · exact .inr (.inl h)
                · exact .inl h
                · exact .inr (.inr h))
            · rw [List.map_set, hdK, hpl, dueFold_succ, hdk, hM9, hJ9]; rfl
      · have hke : k = dues.length := Nat.le_antisymm hkK (Nat.le_of_not_lt hkn)
        refine ri_end rfl FK NK offI (by omega) ?_
        intro hB FB NB KB
        clear FK NK KB
        dsimp only [IndTurn]
        dsimp only [Q8]
        k_steps
        rw [hke] at hdK
        rw [hdues, hpads, List.length_map] at hdK
        have hlt5 : (lt, listOf [Value.int l0 t0, .int l1 t1, .int l2 t2].toArray n3) ∈ rest5 := by rw [hrest5]; exact .tail _ (.tail _ (.head _))
        have N28 : News g L1 hB [(du, listOf (strValues dlK).toArray ndK), (lt, listOf [Value.int l0 t0, .int l1 t1, .int l2 t2].toArray n3)] := news_sub NB (fun p hp => by
          simp only [List.mem_cons, List.not_mem_nil, or_false] at hp ⊢
          rcases hp with rfl | rfl
          · exact .inl rfl
          · exact .inr (.inr hlt5))
        have hfr : s.heap.get? du = none := by
          cases e : s.heap.get? du with
          | none => rfl
          | some o =>
            have h1 := GS _ _ e (by
              have h2 := h5d _ hlt5
              have h3 : @Ne Nat du lt := Nat.ne_of_gt h2
              simpa using h3)
            have h2 := (N28 _ (.head _)).2.2
            rw [h1] at h2; cases h2
        have hltg := N _ (.head _)
        exact leaveM_ (by assumption) (fun kF kk kN => hret _ _ _ _ _ hdK hfr kF (kN _ N28) (fun b o e => by
          by_cases q : b = lt
          · rw [q] at e ⊢
            rw [hltg.1] at e; cases e
            exact (N28 _ (.tail _ (.head _))).1
          · exact kk b o e (by simpa using q)))
end
end Mine
end
end
section
open PySem PySem.W PyProof.Rows PySem.Calls PySem.Spec
set_option maxRecDepth 100000
set_option maxHeartbeats 1000000
namespace Mine
theorem figS_len (i : Nat) : (figS i).length ≤ 2 := by unfold figS; split <;> decide +kernel
theorem tailS_len (i : Nat) : (tailS i).length ≤ 5 := by unfold tailS; split <;> decide +kernel
theorem partsOf_len (x : Int) : 1 ≤ (partsOf x).length ∧ (partsOf x).length ≤ 3 := by
  have h1 : x.fmod 3 < 3 := Int.fmod_lt_of_pos x (by decide)
  unfold partsOf
  rw [List.length_map, List.length_range]
  omega
theorem partsOf_each (x : Int) : ∀ s ∈ partsOf x, s.length ≤ 2 := by
  intro s hs
  obtain ⟨k, _, rfl⟩ := List.mem_map.mp hs
  exact figS_len _
structure MsgOk (m : MsgV) : Prop where
  (p1 : 1 ≤ m.ps.length) (p3 : m.ps.length ≤ 3) (wl : m.word.length ≤ 14) (sm : (m.ps.map (fun y => y.1.length)).sum ≤ 6) (jl : (Str.join (Str.ofString ":") (m.ps.map (·.1))).length + m.tl.length ≤ 14)
theorem of_ok {m : MsgV} {x : Int} (h : m.of x) : MsgOk m := by
  obtain ⟨h1, h2, h3⟩ := h
  have hl := partsOf_len x
  rw [← h1, List.length_map] at hl
  have hs := StrLaws.sumLen_le (B := 2) (m.ps.map (·.1)) (by rw [h1]; exact partsOf_each x)
  rw [List.length_map] at hs
  have hs2 : ((m.ps.map (·.1)).map (·.length)).sum = (m.ps.map (fun y => y.1.length)).sum := by rw [List.map_map]; rfl
  have ht : m.tl.length ≤ 5 := by rw [h2]; exact tailS_len _
  have j1 := StrLaws.join_length_le (Str.ofString ".") (m.ps.map (·.1))
  have j2 := StrLaws.join_length_le (Str.ofString ":") (m.ps.map (·.1))
  rw [List.length_map, show (Str.ofString ".").length = 1 by decide +kernel] at j1
  rw [List.length_map, show (Str.ofString ":").length = 1 by decide +kernel] at j2
  refine ⟨hl.1, hl.2, ?_, by rw [← hs2]; omega, by omega⟩
  unfold MsgV.word
  rw [Str.length_append]
  omega
theorem MsgsOf.ok {ms : List MsgV} {xs : List Int} (h : MsgsOf ms xs) : ∀ m ∈ ms, MsgOk m := by
  intro m hm
  obtain ⟨i, hi, he⟩ := List.getElem_of_mem hm
  have hix : i < xs.length := h.1 ▸ hi
  exact of_ok (h.2 i m (xs[i]) (by rw [List.getElem?_eq_getElem hi, he]) (List.getElem?_eq_getElem hix))
noncomputable def wordsAt (ls : List Int) (ws : List Str) : Nat → List Str
  | 0 => ws
  | j + 1 => passS (ls.getD j 0 == 1) (wordsAt ls ws j)
theorem wordsAt_len (ls : List Int) (ws : List Str) : ∀ j, (wordsAt ls ws j).length = ws.length
  | 0 => rfl
  | j + 1 => by
    show (passS _ _).length = _
    unfold passS
    rw [List.length_map, rowOf_length, wordsAt_len ls ws j]
theorem turnS_len (x : Str) : (turnS x).length ≤ 2 * x.length + 1 := by
  have hc : (Str.ofString ":").length = 1 := by decide +kernel
  unfold turnS
  split
  · rw [Str.length_append, hc]; omega
  · have h1 : (turnFront x).length ≤ x.length := Txt.slice_le _ _ _
    have h2 := Txt.slice_le (turnFront x) none (some (-1))
    have h3 := Txt.slice_le x (some ((turnFront x).length : Int)) none
    rw [Str.length_append, Str.length_append, hc]; omega
theorem wordsAt_each (ls : List Int) (ws : List Str) (B : Nat) (h : ∀ w ∈ ws, w.length + 1 ≤ B) : ∀ j, ∀ w ∈ wordsAt ls ws j, w.length + 1 ≤ B * 2 ^ j
  | 0 => by simpa [wordsAt] using h
  | j + 1 => by
    intro w hw
    obtain ⟨v, hv, rfl⟩ := List.mem_map.mp (show w ∈ (rowOf _ _).map turnS from hw)
    have h1 := wordsAt_each ls ws B h j v (rowOf_mem.mp hv)
    have h2 := turnS_len v
    have h3 : B * 2 ^ (j + 1) = 2 * (B * 2 ^ j) := by rw [Nat.pow_succ, ← Nat.mul_assoc, Nat.mul_comm]
    omega
theorem src_start {ms : List MsgV} {l : List (Str × Tok)} {T : Str} (hT : T.cps.toList = ms.flatMap MsgV.enc) (hl : l.map (·.1) = signs T) : SrcOk [] l (ms.map MsgV.word) := by
  refine .inr ⟨rfl, ms.map (fun m => (m.word.cps.toList, m.b == 1)), ?_, ?_⟩
  · rw [hl]
    show T.cps.toList.map (fun n => (⟨#[n]⟩ : Str)) = chL _
    rw [hT, List.flatMap_map]; rfl
  · rw [List.map_map]
    refine List.map_congr_left fun m _ => ?_
    exact (tS_of m.word).symm
theorem ne_fresh {H : Heap} {a b : Addr} {o : Obj} (h1 : H.get? a = none) (h2 : H.get? b = some o) : a ≠ b := fun e => by rw [e, h2] at h1; cases h1
theorem lexAdr_led {P : Params} {z : Lex} {ln : Int} {tl : Tok} {pbv sgv : List Value} {n1 n2 : Nat} {b : Addr} (h : b ∈ lexAdr z) : ∃ p ∈ lexLed P z ln tl pbv n1 sgv n2, p.1 = b := by
  simp only [lexAdr, List.mem_cons, List.not_mem_nil, or_false] at h
  simp only [lexLed, List.mem_cons, List.not_mem_nil, or_false, exists_eq_or_imp, exists_eq_left]
  rcases h with h | h | h | h | h | h | h | h | h <;> simp [h]
theorem not_lexAdr {H : Heap} {P : Params} {z : Lex} {ln : Int} {tl : Tok} {pbv sgv : List Value} {n1 n2 : Nat} {b : Addr} {o : Obj} (hf : ∀ p ∈ lexLed P z ln tl pbv n1 sgv n2, H.get? p.1 = none) (hb : H.get? b = some o) (h5 : b ≠ 125) : b ∉ 125 :: lexAdr z := by
  intro hm
  rcases List.mem_cons.mp hm with e | hm
  · exact h5 e
  · obtain ⟨p, hp, e⟩ := lexAdr_led (P := P) (ln := ln) (tl := tl) (pbv := pbv) (sgv := sgv) (n1 := n1) (n2 := n2) hm
    exact ne_fresh (hf p hp) hb e
theorem News.cat_of {g h : Heap} {L : Addr} {a b : List (Addr × Obj)} (N : News g L h a) (M : News g L h b) : News g L h (a ++ b) := fun p hp => (List.mem_append.mp hp).elim (N p) (M p)
theorem led_two {g h h' : Heap} {L a : Addr} {o o1 o2 : Obj} {r : List (Addr × Obj)} (N : News g L h ((a, o) :: (125, o1) :: (111, o2) :: r)) (K : ∀ b o, h.get? b = some o → b ∉ [111, 125] → h'.get? b = some o) (ha : a ≠ 125 ∧ a ≠ 111) (hr : ∀ p ∈ r, p.1 ≠ 125 ∧ p.1 ≠ 111) : News g L h' ((a, o) :: r) := by
  intro p hp
  have hp6 : p ∈ (a, o) :: (125, o1) :: (111, o2) :: r := by
    rcases List.mem_cons.mp hp with h | h
    · rw [h]; exact .head _
    · exact .tail _ (.tail _ (.tail _ h))
  have hne : p.1 ≠ 111 ∧ p.1 ≠ 125 := by
    rcases List.mem_cons.mp hp with h | h
    · rw [h]; exact ⟨ha.2, ha.1⟩
    · exact ⟨(hr p h).2, (hr p h).1⟩
  exact ⟨K _ _ (N p hp6).1 (by simp [hne.1, hne.2]), (N p hp6).2⟩
theorem led_mem {ms : List MsgV} {m : MsgV} (hm : m ∈ ms) {p : Addr × Obj} (hp : p ∈ m.led) : p ∈ ms.flatMap MsgV.led := List.mem_flatMap.mpr ⟨m, hm, hp⟩
end Mine
end
section
open PySem PySem.W PyProof.Rows PySem.Calls PySem.Spec
set_option maxRecDepth 100000
set_option maxHeartbeats 1000000
namespace Mine
theorem reads_strs {h : Heap} : ∀ l : List (Str × Tok), ReadsAll h (strValues l) (l.map (fun y => PyData.str y.1)) []
  | [] => .nil
  | y :: r => by
    have := ReadsAll.cons (Reads.str (h := h) y.1 y.2) (reads_strs (h := h) r)
    simpa [strValues] using this
theorem lay_strs : ∀ l : List Str, (∀ y ∈ l, PyData.strOk y = true) → PyData.canLayAll0 (l.map PyData.str) = true
  | [], _ => by simp [PyData.canLayAll0]
  | n :: r, h => by simp [PyData.canLayAll0, PyData.canLay0, lay_strs r (fun y hy => h y (.tail _ hy)), h n (.head _)]
theorem depth_strs : ∀ l : List Str, PyData.depthAll (l.map PyData.str) = 0
  | [] => by simp [PyData.depthAll]
  | n :: r => by simp [PyData.depthAll, PyData.depth, depth_strs r]
theorem eqv_strs : ∀ l : List Str, PyData.eqvAll (l.map PyData.str) (l.map PyData.str) = true
  | [] => by simp [PyData.eqvAll]
  | n :: r => by simp [PyData.eqvAll, PyData.eqv, eqv_strs r]
noncomputable def dataOf (l : List Str) (x : Str) : PyData := .tuple [.list (l.map PyData.str), .str x]
theorem dataOf_shaped (l : List Str) (x : Str) (h : ∀ y ∈ l, PyData.strOk y = true) (hx : PyData.strOk x = true) : SeqAt.shaped (dataOf l x) = true := by
  simp [dataOf, SeqAt.shaped, PyData.canLay0, PyData.canLayAll0, PyData.depth, PyData.depthAll, lay_strs l h, depth_strs, hx]
theorem dataOf_eqv (l : List Str) (x : Str) : PyData.eqv (dataOf l x) (dataOf l x) = true := by
  simp [dataOf, PyData.eqv, PyData.eqvAll, eqv_strs]
section
variable {prog : Program} {w : World} {A : Around} {E : Value → Shared → Prop} {s : Shared}
theorem reads_tup {a la : Addr} {x : Str} {t : Tok} {l : List (Str × Tok)} {n : Nat} {h : Heap} (ha : h.get? a = some { cls := .type "tuple", data := .seq #[.ref la, .str x t] }) (hl : h.get? la = some (listOf (strValues l).toArray n)) :
    ∃ as, Reads h (.ref a) (dataOf (l.map (·.1)) x) as := by
  have h1 : ReadsAll h (strValues l).toArray.toList ((l.map (·.1)).map PyData.str) [] := by
    have := reads_strs (h := h) l
    rw [List.map_map]
    exact this
  exact ⟨_, reads_tuple_at ha rfl rfl (ReadsAll.cons (reads_list_at hl rfl rfl h1) (ReadsAll.cons (Reads.str x t) .nil))⟩
theorem r_eqTup {a b la lb : Addr} {x : Str} {tx ty : Tok} {l l' : List (Str × Tok)} {na nb : Nat} {Q : Value → Shared → Prop} (ha : s.heap.get? a = some { cls := .type "tuple", data := .seq #[.ref la, .str x tx] }) (hla : s.heap.get? la = some (listOf (strValues l).toArray na))
    (hb : s.heap.get? b = some { cls := .type "tuple", data := .seq #[.ref lb, .str x ty] }) (hlb : s.heap.get? lb = some (listOf (strValues l').toArray nb)) (he : l.map (·.1) = l'.map (·.1)) (hk : ∀ y ∈ l.map (·.1), PyData.strOk y = true) (hx : PyData.strOk x = true) (hu : A.units + 64 < cLine) (h : Q (.bool true) s) :
    wpAny (model prog w) A (compareOp .Eq (.ref a) (.ref b)) Q E s := by
  obtain ⟨as, ra⟩ := reads_tup ha hla
  obtain ⟨bs, rb⟩ := reads_tup hb hlb
  rw [← he] at rb
  exact eq_dataH ra rb (dataOf_shaped _ _ hk hx) (dataOf_shaped _ _ hk hx) hu (by rw [dataOf_eqv]; exact h)
end
end Mine
end
section
open PySem PySem.W PyProof.Rows PySem.Calls PySem.Spec
set_option maxRecDepth 100000
set_option maxHeartbeats 1000000
namespace Mine
/-- names in the stages of the passes -/
noncomputable def form : Nat → List (List Nat) → List Nat → List Nat
  | 0, [a], t => a ++ t
  | 1, [a], t => 58 :: (a ++ t)
  | 2, [a], t => 58 :: 58 :: (a ++ t)
  | _, [a], t => 58 :: 58 :: 58 :: (a ++ t)
  | 0, [a, b], t => a ++ 46 :: b ++ t
  | 1, [a, b], t => a ++ 58 :: b ++ t
  | 2, [a, b], t => 58 :: (a ++ 58 :: b ++ t)
  | _, [a, b], t => 58 :: 58 :: (a ++ 58 :: b ++ t)
  | 0, a :: b :: c :: _, t => (a ++ 46 :: b) ++ 46 :: c ++ t
  | 1, a :: b :: c :: _, t => (a ++ 46 :: b) ++ 58 :: c ++ t
  | 2, a :: b :: c :: _, t => a ++ 58 :: b ++ (58 :: (c ++ t))
  | _, a :: b :: c :: _, t => 58 :: (a ++ 58 :: b ++ (58 :: (c ++ t)))
  | _, [], t => t
noncomputable def keyP : Nat → List (List Nat) → List Nat
  | 0, [a] => a
  | _, [_] => []
  | 0, [_, b] => b
  | 1, [a, _] => a
  | _, [_, _] => []
  | 0, _ :: _ :: c :: _ => c
  | 1, _ :: b :: _ :: _ => b
  | _, a :: _ :: _ :: _ => a
  | _, [] => []
structure FormOk (P : List (List Nat)) (t : List Nat) : Prop where
  (l1 : 1 ≤ P.length) (l3 : P.length ≤ 3) (each : ∀ p ∈ P, 10 ∉ p ∧ 58 ∉ p ∧ 46 ∉ p) (tok : TailOk t)
theorem tok58 (r : List Nat) : TailOk (58 :: r) := .inr ⟨r, .inr rfl⟩
theorem plain_nil : Plain2 [] := ⟨by simp, by simp⟩
theorem step_colon (r : List Nat) : stripS (tS (58 :: r)) = tS [] ∧ turnS (tS (58 :: r)) = tS (58 :: 58 :: r) :=
  ⟨strip_free (q := []) (t := 58 :: r) plain_nil (by simp) (tok58 r), turn_free (q := []) (t := 58 :: r) plain_nil (by simp) (tok58 r)⟩
theorem plain_dot {a b : List Nat} (ha : 10 ∉ a ∧ 58 ∉ a) (hb : 10 ∉ b ∧ 58 ∉ b) : Plain2 (a ++ 46 :: b) := by
  refine ⟨?_, ?_⟩ <;> simp [ha.1, ha.2, hb.1, hb.2]
theorem form_step {P : List (List Nat)} {t : List Nat} (h : FormOk P t) : ∀ j, j < 3 → stripS (tS (form j P t)) = tS (keyP j P) ∧ turnS (tS (form j P t)) = tS (form (j + 1) P t) := by
  obtain ⟨l1, l3, he, ht⟩ := h
  intro j hj
  match P, l1, l3 with
  | [a], _, _ =>
    have ha := he a (by simp)
    match j, hj with
    | 0, _ => exact ⟨strip_free ⟨ha.1, ha.2.1⟩ ha.2.2 ht, turn_free ⟨ha.1, ha.2.1⟩ ha.2.2 ht⟩
    | 1, _ => exact step_colon _
    | 2, _ => exact step_colon _
  | [a, b], _, _ =>
    have ha := he a (by simp)
    have hb := he b (by simp)
    match j, hj with
    | 0, _ => exact ⟨strip_dot (plain_dot ⟨ha.1, ha.2.1⟩ ⟨hb.1, hb.2.1⟩) hb.2.2 ht, turn_dot (plain_dot ⟨ha.1, ha.2.1⟩ ⟨hb.1, hb.2.1⟩) hb.2.2 ht⟩
    | 1, _ =>
      have e : form 1 [a, b] t = a ++ (58 :: (b ++ t)) := by
        show a ++ 58 :: b ++ t = _
        simp
      have e2 : form 2 [a, b] t = 58 :: (a ++ (58 :: (b ++ t))) := by
        show 58 :: (a ++ 58 :: b ++ t) = _
        simp
      rw [e, e2]
      exact ⟨strip_free ⟨ha.1, ha.2.1⟩ ha.2.2 (tok58 _), turn_free ⟨ha.1, ha.2.1⟩ ha.2.2 (tok58 _)⟩
    | 2, _ => exact step_colon _
  | [a, b, c], _, _ =>
    have ha := he a (by simp)
    have hb := he b (by simp)
    have hc := he c (by simp)
    have hab := plain_dot ⟨ha.1, ha.2.1⟩ ⟨hb.1, hb.2.1⟩
    match j, hj with
    | 0, _ => exact ⟨strip_dot (plain_dot hab ⟨hc.1, hc.2.1⟩) hc.2.2 ht, turn_dot (plain_dot hab ⟨hc.1, hc.2.1⟩) hc.2.2 ht⟩
    | 1, _ =>
      have e : form 1 [a, b, c] t = a ++ 46 :: b ++ (58 :: (c ++ t)) := by
        show (a ++ 46 :: b) ++ 58 :: c ++ t = _
        simp
      rw [e]
      exact ⟨strip_dot hab hb.2.2 (tok58 _), turn_dot hab hb.2.2 (tok58 _)⟩
    | 2, _ =>
      have e : form 2 [a, b, c] t = a ++ (58 :: (b ++ (58 :: (c ++ t)))) := by
        show a ++ 58 :: b ++ (58 :: (c ++ t)) = _
        simp
      have e2 : form 3 [a, b, c] t = 58 :: (a ++ (58 :: (b ++ (58 :: (c ++ t))))) := by
        show 58 :: (a ++ 58 :: b ++ (58 :: (c ++ t))) = _
        simp
      rw [e, e2]
      exact ⟨strip_free ⟨ha.1, ha.2.1⟩ ha.2.2 (tok58 _), turn_free ⟨ha.1, ha.2.1⟩ ha.2.2 (tok58 _)⟩
/-- the messages' codes -/
noncomputable def MsgV.P (m : MsgV) : List (List Nat) := m.ps.map (fun y => y.1.cps.toList)
noncomputable def MsgV.t (m : MsgV) : List Nat := m.tl.cps.toList
theorem fig_ok (i : Nat) : 10 ∉ (figS i).cps.toList ∧ 58 ∉ (figS i).cps.toList ∧ 46 ∉ (figS i).cps.toList := by unfold figS; split <;> decide +kernel
theorem tail_ok (i : Nat) : TailOk (tailS i).cps.toList := by
  unfold tailS
  split
  · exact .inl (by decide +kernel)
  · exact .inr ⟨_, .inr (by rw [ofS ": c.a" [58, 32, 99, 46, 97]])⟩
  · exact .inr ⟨_, .inl (by rw [ofS "\n.b:a" [10, 46, 98, 58, 97]])⟩
  · exact .inr ⟨_, .inr (by rw [ofS ":\n\"" [58, 10, 34]])⟩
theorem of_form {m : MsgV} {x : Int} (h : m.of x) : FormOk m.P m.t := by
  have hok := of_ok h
  obtain ⟨h1, h2, h3⟩ := h
  refine ⟨by unfold MsgV.P; rw [List.length_map]; exact hok.p1, by unfold MsgV.P; rw [List.length_map]; exact hok.p3, ?_, by unfold MsgV.t; rw [h2]; exact tail_ok _⟩
  intro p hp
  obtain ⟨y, hy, rfl⟩ := List.mem_map.mp hp
  have : y.1 ∈ partsOf x := by rw [← h1]; exact List.mem_map_of_mem hy
  obtain ⟨k, _, e⟩ := List.mem_map.mp this
  rw [← e]; exact fig_ok _
theorem word_form (m : MsgV) (h : m.ps.length ≤ 3) (h1 : 1 ≤ m.ps.length) : m.word = tS (form 0 m.P m.t) := by
  refine Str.ext' (Array.toList_inj.mp ?_)
  unfold MsgV.word MsgV.P MsgV.t
  rw [ofS "." [46]]
  generalize m.ps = ps at *
  match ps, h, h1 with
  | [a], _, _ =>
    show _ = (tS (a.1.cps.toList ++ _)).cps.toList
    simp [Str.join, Str.cps_append]
  | [a, b], _, _ =>
    show _ = (tS (a.1.cps.toList ++ 46 :: b.1.cps.toList ++ _)).cps.toList
    simp [Str.join, Str.cps_append]
  | [a, b, c], _, _ =>
    show _ = (tS ((a.1.cps.toList ++ 46 :: b.1.cps.toList) ++ 46 :: c.1.cps.toList ++ _)).cps.toList
    simp [Str.join, Str.cps_append]
theorem due_form (m : MsgV) (h : m.ps.length ≤ 3) (h1 : 1 ≤ m.ps.length) : m.due = tS (form 3 m.P m.t) := by
  refine Str.ext' (Array.toList_inj.mp ?_)
  unfold MsgV.due MsgV.P MsgV.t
  generalize m.ps = ps at *
  have c1 : Txt.mul (Str.ofString ":") 1 = tS [58] := by decide +kernel
  have c2 : Txt.mul (Str.ofString ":") 2 = tS [58, 58] := by decide +kernel
  have c3 : Txt.mul (Str.ofString ":") 3 = tS [58, 58, 58] := by decide +kernel
  match ps, h, h1 with
  | [a], _, _ => 
    show (Txt.mul (Str.ofString ":") 3 ++ _ ++ _).cps.toList = (tS (58 :: 58 :: 58 :: (a.1.cps.toList ++ _))).cps.toList
    rw [c3, ofS ":" [58]]
    simp [Str.join, Str.cps_append]
  | [a, b], _, _ =>
    show (Txt.mul (Str.ofString ":") 2 ++ _ ++ _).cps.toList = (tS (58 :: 58 :: (a.1.cps.toList ++ 58 :: b.1.cps.toList ++ _))).cps.toList
    rw [c2, ofS ":" [58]]
    simp [Str.join, Str.cps_append]
  | [a, b, c], _, _ =>
    show (Txt.mul (Str.ofString ":") 1 ++ _ ++ _).cps.toList = (tS (58 :: (a.1.cps.toList ++ 58 :: b.1.cps.toList ++ (58 :: (c.1.cps.toList ++ _))))).cps.toList
    rw [c1, ofS ":" [58]]
    simp [Str.join, Str.cps_append]
theorem pad_key (m : MsgV) (h : m.ps.length ≤ 3) (h1 : 1 ≤ m.ps.length) : m.pad = (tS (keyP 2 m.P), tS (keyP 1 m.P), tS (keyP 0 m.P)) := by
  unfold MsgV.pad MsgV.P
  generalize m.ps = ps at *
  match ps, h, h1 with
  | [a], _, _ =>
    show (Str.ofString "", Str.ofString "", a.1) = (tS [], tS [], tS a.1.cps.toList)
    simp [ofS "" []]
  | [a, b], _, _ =>
    show (Str.ofString "", a.1, b.1) = (tS [], tS a.1.cps.toList, tS b.1.cps.toList)
    simp [ofS "" []]
  | [a, b, c], _, _ =>
    show (a.1, b.1, c.1) = (tS a.1.cps.toList, tS b.1.cps.toList, tS c.1.cps.toList)
    simp
end Mine
end
section
open PySem PySem.W PyProof.Rows PySem.Calls PySem.Spec
set_option maxRecDepth 100000
set_option maxHeartbeats 1000000
namespace Mine
noncomputable def insI (K : Nat → Nat → Bool) (x : Nat) (r : List Nat) : List Nat := r.takeWhile (K x) ++ x :: r.dropWhile (K x)
noncomputable def keyK (left : Bool) (k : Nat → Str) (x v : Nat) : Bool := if left then ltB (k v) (k x) else !ltB (k x) (k v)
noncomputable def rowI (left : Bool) (k : Nat → Str) (σ r : List Nat) : List Nat := σ.foldl (fun r x => insI (keyK left k) x r) r
theorem insS_mapI {left : Bool} {f k : Nat → Str} (hk : ∀ i, stripS (f i) = k i) (x : Nat) (r : List Nat) : insS left (f x) (r.map f) = (insI (keyK left k) x r).map f := by
  have e : insKS left (f x) ∘ f = keyK left k x := by
    funext v
    simp only [Function.comp, insKS, keyK, hk]
  unfold insS insI
  rw [List.takeWhile_map, List.dropWhile_map, e, List.map_append, List.map_cons]
theorem rowOf_mapI {left : Bool} {f k : Nat → Str} (hk : ∀ i, stripS (f i) = k i) (σ : List Nat) : rowOf left (σ.map f) = (rowI left k σ []).map f := by
  have key : ∀ (σ r : List Nat), (σ.map f).foldl (fun r x => insS left x r) (r.map f) = (rowI left k σ r).map f := by
    intro σ
    induction σ with
    | nil => intro r; rfl
    | cons x σ ih => intro r; rw [List.map_cons, List.foldl_cons, insS_mapI hk, ih]; rfl
  exact key σ []
theorem insI_perm (K : Nat → Nat → Bool) (x : Nat) (r : List Nat) : (insI K x r).Perm (x :: r) := by
  unfold insI
  refine List.perm_middle.trans ?_
  rw [List.takeWhile_append_dropWhile]
theorem rowI_perm (left : Bool) (k : Nat → Str) : ∀ σ r : List Nat, (rowI left k σ r).Perm (σ ++ r)
  | [], r => .refl _
  | x :: σ, r => by
    have h := rowI_perm left k σ (insI (keyK left k) x r)
    refine h.trans ?_
    refine ((insI_perm _ x r).append_left σ).trans ?_
    exact List.perm_middle
noncomputable def Rn (left : Bool) (k : Nat → Str) (R : Nat → Nat → Prop) (a b : Nat) : Prop := ltB (k a) (k b) = true ∨ (k a = k b ∧ if left = true then R b a else R a b)
theorem ltB_of_ne {x y : Str} (h : x ≠ y) (h2 : ltB x y = false) : ltB y x = true := by
  cases h3 : ltB y x with
  | true => rfl
  | false => exact absurd (ltB_total h2 h3) h
theorem Rn_le {left : Bool} {k : Nat → Str} {R : Nat → Nat → Prop} {a b : Nat} (h : Rn left k R a b) : ltB (k b) (k a) = false := by
  rcases h with h | ⟨h, _⟩
  · exact ltB_asymm h
  · rw [h]; exact ltB_irrefl _
theorem keyK_mono {left : Bool} {k : Nat → Str} {x a b : Nat} (h : ltB (k b) (k a) = false) (hb : keyK left k x b = true) : keyK left k x a = true := by
  unfold keyK at hb ⊢
  cases left with
  | true => rw [if_pos rfl] at hb ⊢; exact ltB_of_le_lt h hb
  | false =>
    rw [if_neg Bool.false_ne_true] at hb ⊢
    simp only [Bool.not_eq_true'] at hb ⊢
    cases hxa : ltB (k x) (k a) with
    | false => rfl
    | true => rw [ltB_of_lt_le hxa h] at hb; cases hb
theorem drop_all {left : Bool} {k : Nat → Str} {R : Nat → Nat → Prop} {x : Nat} : ∀ {r : List Nat}, r.Pairwise (Rn left k R) → ∀ v ∈ r.dropWhile (keyK left k x), keyK left k x v = false
  | [], _, v, hv => by cases hv
  | a :: r, hp, v, hv => by
    have hp' := List.pairwise_cons.mp hp
    cases ha : keyK left k x a with
    | true => simp only [List.dropWhile, ha] at hv; exact drop_all hp'.2 v hv
    | false =>
      simp only [List.dropWhile, ha] at hv
      rcases List.mem_cons.mp hv with rfl | hv
      · exact ha
      · cases hh : keyK left k x v with
        | false => rfl
        | true => rw [keyK_mono (Rn_le (hp'.1 v hv)) hh] at ha; cases ha
theorem ins_pair {left : Bool} {k : Nat → Str} {R : Nat → Nat → Prop} {y : Nat} {r : List Nat} (hp : r.Pairwise (Rn left k R)) (hr : ∀ x ∈ r, R x y) : (insI (keyK left k) y r).Pairwise (Rn left k R) := by
  have hall := drop_all (x := y) hp
  have hsplit : r.takeWhile (keyK left k y) ++ r.dropWhile (keyK left k y) = r := List.takeWhile_append_dropWhile
  have hp' := hp
  rw [← hsplit, List.pairwise_append] at hp'
  obtain ⟨h1, h2, h3⟩ := hp'
  unfold insI
  rw [List.pairwise_append, List.pairwise_cons]
  refine ⟨h1, ⟨fun v hv => ?_, h2⟩, fun a ha b hb => ?_⟩
  · have hv2 := hall v hv
    have hR := hr v (hsplit ▸ List.mem_append_right _ hv)
    unfold keyK at hv2
    cases left with
    | true =>
      rw [if_pos rfl] at hv2
      by_cases e : k v = k y
      · exact .inr ⟨e.symm, by rw [if_pos rfl]; exact hR⟩
      · exact .inl (ltB_of_ne e hv2)
    | false =>
      rw [if_neg Bool.false_ne_true] at hv2
      exact .inl (by simpa using hv2)
  · rcases List.mem_cons.mp hb with rfl | hb
    · have ha2 := mem_takeWhile_true ha
      have hR := hr a (hsplit ▸ List.mem_append_left _ ha)
      unfold keyK at ha2
      cases left with
      | true => rw [if_pos rfl] at ha2; exact .inl ha2
      | false =>
        rw [if_neg Bool.false_ne_true] at ha2
        have ha3 : ltB (k b) (k a) = false := by simpa using ha2
        by_cases e : k a = k b
        · exact .inr ⟨e, by rw [if_neg Bool.false_ne_true]; exact hR⟩
        · exact .inl (ltB_of_ne (fun q => e q.symm) ha3)
    · exact h3 a ha b hb
theorem row_pair {left : Bool} {k : Nat → Str} {R : Nat → Nat → Prop} : ∀ (σ r : List Nat), r.Pairwise (Rn left k R) → (∀ x ∈ r, ∀ y ∈ σ, R x y) → σ.Pairwise R → (rowI left k σ r).Pairwise (Rn left k R)
  | [], r, h, _, _ => h
  | y :: σ, r, h, h2, h3 => by
    have h3' := List.pairwise_cons.mp h3
    refine row_pair σ (insI (keyK left k) y r) (ins_pair h (fun x hx => h2 x hx y (.head _))) (fun x hx z hz => ?_) h3'.2
    rcases List.mem_cons.mp ((insI_perm _ y r).mem_iff.mp hx) with rfl | hx
    · exact h3'.1 z hz
    · exact h2 x hx z (.tail _ hz)
/-- one pass upon the places -/
theorem pass_mapI {left : Bool} {f f' k : Nat → Str} (hk : ∀ i, stripS (f i) = k i) (hf : ∀ i, turnS (f i) = f' i) {R : Nat → Nat → Prop} {σ : List Nat} (hσ : σ.Pairwise R) :
    ∃ σ' : List Nat, passS left (σ.map f) = σ'.map f' ∧ σ'.Perm σ ∧ σ'.Pairwise (Rn left k R) := by
  refine ⟨rowI left k σ [], ?_, by simpa using rowI_perm left k σ [], row_pair σ [] .nil (fun _ h => nomatch h) hσ⟩
  unfold passS
  rw [rowOf_mapI hk, List.map_map]
  exact List.map_congr_left fun i _ => hf i
end Mine
end
section
open PySem PySem.W PyProof.Rows PySem.Calls PySem.Spec
set_option maxRecDepth 100000
set_option maxHeartbeats 1000000
namespace Mine
/-- ahead, by the odd turns -/
noncomputable def aheadB (a0 a1 a2 b0 b1 b2 : Str) (i j : Nat) (p0 p1 p2 : Bool) : Bool :=
  if a0 ≠ b0 then ltB a0 b0 else if a1 ≠ b1 then (ltB a1 b1 != p2) else if a2 ≠ b2 then (ltB a2 b2 != (p1 != p2)) else (decide (i < j) != (p0 != (p1 != p2)))
theorem ahead_B {a0 a1 a2 b0 b1 b2 : Str} {i j : Nat} {l0 l1 l2 : Int} (h0 : l0 = 0 ∨ l0 = 1) (h1 : l1 = 0 ∨ l1 = 1) (h2 : l2 = 0 ∨ l2 = 1) :
    aheadV a0 a1 a2 b0 b1 b2 i j l0 l1 l2 = aheadB a0 a1 a2 b0 b1 b2 i j (l0 == 1) (l1 == 1) (l2 == 1) := by
  have e0 : (Int.fmod 0 2 == 1) = false := by decide
  have e1 : ((l2 + 0).fmod 2 == 1) = (l2 == 1) := by rcases h2 with rfl | rfl <;> decide
  have e2 : ((l1 + (l2 + 0)).fmod 2 == 1) = ((l1 == 1) != (l2 == 1)) := by rcases h1 with rfl | rfl <;> rcases h2 with rfl | rfl <;> decide
  have e3 : ((l0 + (l1 + (l2 + 0))).fmod 2 == 1) = ((l0 == 1) != ((l1 == 1) != (l2 == 1))) := by rcases h0 with rfl | rfl <;> rcases h1 with rfl | rfl <;> rcases h2 with rfl | rfl <;> decide
  have e4 : decide ((i : Int) < (j : Int)) = decide (i < j) := by simp
  unfold aheadV aheadB
  rw [e0, e1, e2, e3, e4]
  show (if (a0 != b0) = true then (ltB a0 b0 != false) else if (a1 != b1) = true then (ltB a1 b1 != (l2 == 1)) else if (a2 != b2) = true then (ltB a2 b2 != ((l1 == 1) != (l2 == 1))) else _) = _
  simp only [bne_iff_ne, Bool.bne_false]
theorem ltB_flip {x y : Str} (h : x ≠ y) : ltB x y = !ltB y x := by
  cases h1 : ltB y x with
  | true => rw [ltB_asymm h1]; rfl
  | false => rw [ltB_of_ne (fun e => h e.symm) h1]; rfl
theorem aheadB_anti {a0 a1 a2 b0 b1 b2 : Str} {i j : Nat} {p0 p1 p2 : Bool} (hij : i ≠ j) : aheadB a0 a1 a2 b0 b1 b2 i j p0 p1 p2 = !aheadB b0 b1 b2 a0 a1 a2 j i p0 p1 p2 := by
  unfold aheadB
  by_cases e0 : a0 = b0
  · subst e0
    by_cases e1 : a1 = b1
    · subst e1
      by_cases e2 : a2 = b2
      · subst e2
        simp only [ne_eq, not_true_eq_false, if_false]
        have : decide (i < j) = !decide (j < i) := by
          by_cases h : i < j
          · simp [h, Nat.lt_asymm h]
          · have : j < i := by omega
            simp [h, this]
        rw [this]
        cases decide (j < i) <;> cases p0 <;> cases p1 <;> cases p2 <;> rfl
      · have e2' : ¬ b2 = a2 := fun h => e2 h.symm
        simp only [ne_eq, not_true_eq_false, if_false, e2, e2', not_false_eq_true, if_true]
        rw [ltB_flip e2]
        cases ltB b2 a2 <;> cases p1 <;> cases p2 <;> rfl
    · have e1' : ¬ b1 = a1 := fun h => e1 h.symm
      simp only [ne_eq, not_true_eq_false, if_false, e1, e1', not_false_eq_true, if_true]
      rw [ltB_flip e1]
      cases ltB b1 a1 <;> cases p2 <;> rfl
  · have e0' : ¬ b0 = a0 := fun h => e0 h.symm
    simp only [ne_eq, e0, e0', not_false_eq_true, if_true]
    rw [ltB_flip e0]
theorem aheadB_of {k0 k1 k2 : Nat → Str} {x y : Nat} {p0 p1 p2 : Bool} (h : Rn p2 k2 (Rn p1 k1 (Rn p0 k0 (· < ·))) x y) : aheadB (k2 x) (k1 x) (k0 x) (k2 y) (k1 y) (k0 y) x y p0 p1 p2 = true := by
  unfold aheadB
  by_cases e0 : k2 x = k2 y
  · rw [if_neg (by simpa using e0)]
    have h' : if p2 = true then Rn p1 k1 (Rn p0 k0 (· < ·)) y x else Rn p1 k1 (Rn p0 k0 (· < ·)) x y := by
      rcases h with h | ⟨_, h⟩
      · rw [e0, ltB_irrefl] at h; cases h
      · exact h
    by_cases e1 : k1 x = k1 y
    · rw [if_neg (by simpa using e1)]
      have h2 : if (p1 != p2) = true then Rn p0 k0 (· < ·) y x else Rn p0 k0 (· < ·) x y := by
        cases p2 with
        | true =>
          rw [if_pos rfl] at h'
          rcases h' with h' | ⟨_, h'⟩
          · rw [e1, ltB_irrefl] at h'; cases h'
          · cases p1 <;> exact h'
        | false =>
          rw [if_neg Bool.false_ne_true] at h'
          rcases h' with h' | ⟨_, h'⟩
          · rw [e1, ltB_irrefl] at h'; cases h'
          · cases p1 <;> exact h'
      by_cases e2 : k0 x = k0 y
      · rw [if_neg (by simpa using e2)]
        generalize (p1 != p2) = q at *
        cases q with
        | true =>
          rw [if_pos rfl] at h2
          rcases h2 with h2 | ⟨_, h2⟩
          · rw [e2, ltB_irrefl] at h2; cases h2
          · cases p0 with
            | true => rw [if_pos rfl] at h2; simp [h2]
            | false => rw [if_neg Bool.false_ne_true] at h2; simp [Nat.lt_asymm h2, Nat.le_of_lt h2]
        | false =>
          rw [if_neg Bool.false_ne_true] at h2
          rcases h2 with h2 | ⟨_, h2⟩
          · rw [e2, ltB_irrefl] at h2; cases h2
          · cases p0 with
            | true => rw [if_pos rfl] at h2; simp [Nat.lt_asymm h2, Nat.le_of_lt h2]
            | false => rw [if_neg Bool.false_ne_true] at h2; simp [h2]
      · rw [if_pos e2]
        generalize (p1 != p2) = q at *
        cases q with
        | true =>
          rw [if_pos rfl] at h2
          rcases h2 with h2 | ⟨h2, _⟩
          · rw [ltB_asymm h2]; rfl
          · exact absurd h2.symm e2
        | false =>
          rw [if_neg Bool.false_ne_true] at h2
          rcases h2 with h2 | ⟨h2, _⟩
          · rw [h2]; rfl
          · exact absurd h2 e2
    · rw [if_pos e1]
      cases p2 with
      | true =>
        rw [if_pos rfl] at h'
        rcases h' with h' | ⟨h', _⟩
        · rw [ltB_asymm h']; rfl
        · exact absurd h'.symm e1
      | false =>
        rw [if_neg Bool.false_ne_true] at h'
        rcases h' with h' | ⟨h', _⟩
        · rw [h']; rfl
        · exact absurd h' e1
  · rw [if_pos e0]
    rcases h with h | ⟨h, _⟩
    · exact h
    · exact absurd h e0
end Mine
end
section
open PySem PySem.W PyProof.Rows PySem.Calls PySem.Spec
set_option maxRecDepth 100000
set_option maxHeartbeats 1000000
namespace Mine
noncomputable def msgAt (ms : List MsgV) (i : Nat) : List (List Nat) × List Nat := if h : i < ms.length then ((ms[i]).P, (ms[i]).t) else ([[]], [])
noncomputable def fJ (ms : List MsgV) (j i : Nat) : Str := tS (form j (msgAt ms i).1 (msgAt ms i).2)
noncomputable def kJ (ms : List MsgV) (j i : Nat) : Str := tS (keyP j (msgAt ms i).1)
theorem msgAt_ok {ms : List MsgV} {xs : List Int} (h : MsgsOf ms xs) (i : Nat) : FormOk (msgAt ms i).1 (msgAt ms i).2 := by
  unfold msgAt
  split
  · rename_i hi
    have hix : i < xs.length := h.1 ▸ hi
    exact of_form (h.2 i _ (xs[i]) (List.getElem?_eq_getElem hi) (List.getElem?_eq_getElem hix))
  · exact ⟨by decide, by decide, by simp, .inl rfl⟩
section
variable {ms : List MsgV} {xs : List Int} (hms : MsgsOf ms xs)
include hms
theorem words0 : ms.map MsgV.word = (List.range ms.length).map (fJ ms 0) := by
  have hok := hms.ok
  apply List.ext_getElem
  · simp
  · intro i h1 h2
    have hi : i < ms.length := by simpa using h1
    have ho := hok (ms[i]) (List.getElem_mem hi)
    simp only [List.getElem_map, List.getElem_range, fJ, msgAt, dif_pos hi]
    exact word_form _ ho.p3 ho.p1
theorem dues_eq : ∀ i, i < ms.length → (ms.map MsgV.due).getD i (Str.ofString "") = fJ ms 3 i := by
  have hok := hms.ok
  intro i hi
  have ho := hok (ms[i]) (List.getElem_mem hi)
  have e : (ms.map MsgV.due).getD i (Str.ofString "") = (ms[i]).due := by simp [hi]
  rw [e]
  simp only [fJ, msgAt, dif_pos hi]
  exact due_form _ ho.p3 ho.p1
theorem pads_eq : ∀ i, i < ms.length → (ms.map MsgV.pad).getD i noPad = (kJ ms 2 i, kJ ms 1 i, kJ ms 0 i) := by
  have hok := hms.ok
  intro i hi
  have ho := hok (ms[i]) (List.getElem_mem hi)
  have e : (ms.map MsgV.pad).getD i noPad = (ms[i]).pad := by simp [hi]
  rw [e]
  simp only [kJ, msgAt, dif_pos hi]
  exact pad_key _ ho.p3 ho.p1
theorem passes (l0 l1 l2 : Int) : ∃ σ : List Nat, wordsAt [l0, l1, l2] (ms.map MsgV.word) 3 = σ.map (fJ ms 3) ∧ σ.Perm (List.range ms.length) ∧
    σ.Pairwise (Rn (l2 == 1) (kJ ms 2) (Rn (l1 == 1) (kJ ms 1) (Rn (l0 == 1) (kJ ms 0) (· < ·)))) := by
  have hs := fun j (hj : j < 3) i => form_step (msgAt_ok hms i) j hj
  obtain ⟨σ1, e1, p1, r1⟩ := pass_mapI (left := l0 == 1) (f := fJ ms 0) (f' := fJ ms 1) (k := kJ ms 0) (fun i => (hs 0 (by decide) i).1) (fun i => (hs 0 (by decide) i).2) (List.pairwise_lt_range (n := ms.length))
  obtain ⟨σ2, e2, p2, r2⟩ := pass_mapI (left := l1 == 1) (f := fJ ms 1) (f' := fJ ms 2) (k := kJ ms 1) (fun i => (hs 1 (by decide) i).1) (fun i => (hs 1 (by decide) i).2) r1
  obtain ⟨σ3, e3, p3, r3⟩ := pass_mapI (left := l2 == 1) (f := fJ ms 2) (f' := fJ ms 3) (k := kJ ms 2) (fun i => (hs 2 (by decide) i).1) (fun i => (hs 2 (by decide) i).2) r2
  refine ⟨σ3, ?_, p3.trans (p2.trans p1), r3⟩
  show passS (l2 == 1) (passS (l1 == 1) (passS (l0 == 1) (ms.map MsgV.word))) = _
  rw [words0 hms, e1, e2, e3]
theorem place_of {l0 l1 l2 : Int} (h0 : l0 = 0 ∨ l0 = 1) (h1 : l1 = 0 ∨ l1 = 1) (h2 : l2 = 0 ∨ l2 = 1) {σ : List Nat} (hp : σ.Perm (List.range ms.length))
    (hr : σ.Pairwise (Rn (l2 == 1) (kJ ms 2) (Rn (l1 == 1) (kJ ms 1) (Rn (l0 == 1) (kJ ms 0) (· < ·))))) {pre suf : List Nat} {i : Nat} (hs : σ = pre ++ i :: suf) :
    placeIx (ms.map MsgV.pad) l0 l1 l2 i = pre.length := by
  have hnd : σ.Nodup := hp.nodup_iff.mpr List.nodup_range
  have hmem : ∀ x ∈ σ, x < ms.length := fun x hx => List.mem_range.mp (hp.mem_iff.mp hx)
  have hah : ∀ x y, x ∈ σ → y ∈ σ → aheadIx (ms.map MsgV.pad) l0 l1 l2 x y = aheadB (kJ ms 2 x) (kJ ms 1 x) (kJ ms 0 x) (kJ ms 2 y) (kJ ms 1 y) (kJ ms 0 y) x y (l0 == 1) (l1 == 1) (l2 == 1) := by
    intro x y hx hy
    unfold aheadIx aheadNV
    rw [pads_eq hms x (hmem x hx), pads_eq hms y (hmem y hy)]
    exact ahead_B h0 h1 h2
  unfold placeIx
  rw [List.length_map, ← (hp.filter _).length_eq, hs]
  rw [hs] at hr hnd
  have hi : i ∈ σ := by rw [hs]; simp
  rw [List.pairwise_append, List.pairwise_cons] at hr
  rw [List.nodup_append, List.nodup_cons] at hnd
  rw [List.filter_append, List.filter_cons, List.length_append]
  have f1 : pre.filter (aheadSel (ms.map MsgV.pad) l0 l1 l2 i) = pre := by
    rw [List.filter_eq_self]
    intro x hx
    have hxs : x ∈ σ := by rw [hs]; exact List.mem_append_left _ hx
    have hne : x ≠ i := hnd.2.2 x hx i (.head _)
    unfold aheadSel
    rw [hah x i hxs hi, aheadB_of (hr.2.2 x hx i (.head _))]
    simp [hne]
  have f2 : aheadSel (ms.map MsgV.pad) l0 l1 l2 i i = false := by simp [aheadSel]
  have f3 : suf.filter (aheadSel (ms.map MsgV.pad) l0 l1 l2 i) = [] := by
    rw [List.filter_eq_nil_iff]
    intro x hx
    have hxs : x ∈ σ := by rw [hs]; exact List.mem_append_right _ (.tail _ hx)
    have hne : i ≠ x := fun e => hnd.2.1.1 (e ▸ hx)
    unfold aheadSel
    rw [hah x i hxs hi, aheadB_anti (fun e => hne e.symm), aheadB_of (hr.2.1.1 x hx)]
    simp
  rw [f1, f2, f3]; simp
theorem due_fold {l0 l1 l2 : Int} (h0 : l0 = 0 ∨ l0 = 1) (h1 : l1 = 0 ∨ l1 = 1) (h2 : l2 = 0 ∨ l2 = 1) {σ : List Nat} (hp : σ.Perm (List.range ms.length))
    (hr : σ.Pairwise (Rn (l2 == 1) (kJ ms 2) (Rn (l1 == 1) (kJ ms 1) (Rn (l0 == 1) (kJ ms 0) (· < ·))))) :
    dueFold (ms.map MsgV.pad) l0 l1 l2 (ms.map MsgV.due) ms.length = σ.map (fJ ms 3) := by
  have hnd : σ.Nodup := hp.nodup_iff.mpr List.nodup_range
  have hl : σ.length = ms.length := by simpa using hp.length_eq
  have hpl : ∀ q (hq : q < σ.length), placeIx (ms.map MsgV.pad) l0 l1 l2 (σ[q]) = q := by
    intro q hq
    have hs : σ = σ.take q ++ σ[q] :: σ.drop (q + 1) := by rw [List.getElem_cons_drop, List.take_append_drop]
    rw [place_of hms h0 h1 h2 hp hr hs, List.length_take]; omega
  have key : ∀ k, k ≤ ms.length → ∀ q (hq : q < σ.length), σ[q] < k → (dueFold (ms.map MsgV.pad) l0 l1 l2 (ms.map MsgV.due) k)[q]? = some (fJ ms 3 (σ[q])) := by
    intro k
    induction k with
    | zero => intro _ q hq h; omega
    | succ k ih =>
      intro hk q hq h
      have hkσ : k ∈ σ := hp.mem_iff.mpr (List.mem_range.mpr (by omega))
      obtain ⟨r, hr1, hr2⟩ := List.getElem_of_mem hkσ
      have hplr : placeIx (ms.map MsgV.pad) l0 l1 l2 k = r := by rw [← hr2]; exact hpl r hr1
      rw [dueFold_succ, hplr, List.getElem?_set]
      by_cases e : r = q
      · subst e
        rw [if_pos rfl, if_pos (by rw [dueFold_len, List.length_map]; omega), dues_eq hms k (by omega), hr2]
      · rw [if_neg e]
        refine ih (by omega) q hq ?_
        have : σ[q] ≠ k := by
          intro e2
          have hne := List.pairwise_iff_getElem.mp hnd
          rcases Nat.lt_or_gt_of_ne e with hlt | hlt
          · exact hne r q hr1 hq hlt (hr2.trans e2.symm)
          · exact hne q r hq hr1 hlt (e2.trans hr2.symm)
        omega
  apply List.ext_getElem?
  intro q
  by_cases hq : q < σ.length
  · rw [key ms.length (Nat.le_refl _) q hq (List.mem_range.mp (hp.mem_iff.mp (List.getElem_mem hq)))]
    simp [hq]
  · rw [List.getElem?_eq_none (by rw [dueFold_len, List.length_map]; omega), List.getElem?_eq_none (by rw [List.length_map]; omega)]
omit hms in
theorem fig_small (i : Nat) : ∀ c ∈ (figS i).cps.toList, c < 128 := by unfold figS; split <;> decide +kernel
omit hms in
theorem tail_small (i : Nat) : ∀ c ∈ (tailS i).cps.toList, c < 128 := by unfold tailS; split <;> decide +kernel
omit hms in
theorem form_small {P : List (List Nat)} {t : List Nat} (h : ∀ p ∈ P, ∀ c ∈ p, c < 128) (ht : ∀ c ∈ t, c < 128) (l1 : 1 ≤ P.length) (l3 : P.length ≤ 3) : ∀ c ∈ form 3 P t, c < 128 := by
  match P, l1, l3 with
  | [a], _, _ =>
    have ha := h a (by simp)
    intro c hc
    change c ∈ 58 :: 58 :: 58 :: (a ++ t) at hc
    simp only [List.mem_cons, List.mem_append] at hc
    rcases hc with rfl | rfl | rfl | hc | hc
    · decide
    · decide
    · decide
    · exact ha c hc
    · exact ht c hc
  | [a, b], _, _ =>
    have ha := h a (by simp)
    have hb := h b (by simp)
    intro c hc
    change c ∈ 58 :: 58 :: (a ++ 58 :: b ++ t) at hc
    simp only [List.mem_cons, List.mem_append] at hc
    rcases hc with rfl | rfl | (hc | rfl | hc) | hc
    · decide
    · decide
    · exact ha c hc
    · decide
    · exact hb c hc
    · exact ht c hc
  | [a, b, d], _, _ =>
    have ha := h a (by simp)
    have hb := h b (by simp)
    have hd := h d (by simp)
    intro c hc
    change c ∈ 58 :: (a ++ 58 :: b ++ (58 :: (d ++ t))) at hc
    simp only [List.mem_cons, List.mem_append] at hc
    rcases hc with rfl | (hc | rfl | hc) | rfl | hc | hc
    · decide
    · exact ha c hc
    · decide
    · exact hb c hc
    · decide
    · exact hd c hc
    · exact ht c hc
omit hms in
theorem strOk_small {x : Str} (h : ∀ c ∈ x.cps.toList, c < 128) : PyData.strOk x = true := by
  unfold PyData.strOk
  rw [Array.all_eq_true_iff_forall_mem]
  intro c hc
  have := h c (by simpa using hc)
  exact decide_eq_true (Nat.lt_trans this (by decide))
theorem fJ_ok (i : Nat) : PyData.strOk (fJ ms 3 i) = true := by
  refine strOk_small ?_
  have hf := msgAt_ok hms i
  unfold fJ
  rw [tS_list]
  refine form_small ?_ ?_ hf.l1 hf.l3
  · unfold msgAt
    split
    · rename_i hi
      have hix : i < xs.length := hms.1 ▸ hi
      obtain ⟨h1, h2, h3⟩ := hms.2 i _ (xs[i]) (List.getElem?_eq_getElem hi) (List.getElem?_eq_getElem hix)
      intro p hp
      obtain ⟨y, hy, rfl⟩ := List.mem_map.mp hp
      have : y.1 ∈ partsOf (xs[i]) := by rw [← h1]; exact List.mem_map_of_mem hy
      obtain ⟨k, _, e⟩ := List.mem_map.mp this
      rw [← e]; exact fig_small _
    · simp
  · unfold msgAt
    split
    · rename_i hi
      have hix : i < xs.length := hms.1 ▸ hi
      obtain ⟨h1, h2, h3⟩ := hms.2 i _ (xs[i]) (List.getElem?_eq_getElem hi) (List.getElem?_eq_getElem hix)
      show ∀ c ∈ (ms[i]).tl.cps.toList, c < 128
      rw [h2]; exact tail_small _
    · simp
theorem words_ok (l0 l1 l2 : Int) : ∀ y ∈ wordsAt [l0, l1, l2] (ms.map MsgV.word) 3, PyData.strOk y = true := by
  obtain ⟨σ, e, _, _⟩ := passes hms l0 l1 l2
  rw [e]
  intro y hy
  obtain ⟨i, _, rfl⟩ := List.mem_map.mp hy
  exact fJ_ok hms i
/-- the law, without a program in sight -/
theorem plain_law {l0 l1 l2 : Int} (h0 : l0 = 0 ∨ l0 = 1) (h1 : l1 = 0 ∨ l1 = 1) (h2 : l2 = 0 ∨ l2 = 1) :
    wordsAt [l0, l1, l2] (ms.map MsgV.word) 3 = dueFold (ms.map MsgV.pad) l0 l1 l2 (ms.map MsgV.due) ms.length := by
  obtain ⟨σ, e, hp, hr⟩ := passes hms l0 l1 l2
  rw [e, due_fold hms h0 h1 h2 hp hr]
end
end Mine
end
end
section
open PySem PySem.W PyProof.Rows PySem.Calls PySem.Spec
set_option maxRecDepth 100000
set_option maxHeartbeats 8000000
open Mine
local macro_rules | `(tactic| walk_at "call ref") => `(tactic| (k_here; refine Stop.go ?_))
local macro_rules | `(tactic| walk_at "call builtin:len") => `(tactic| (k_here; refine Stop.go ?_))
local macro_rules | `(tactic| walk_at "compareOp Eq ref ref") => `(tactic| (k_here; refine Stop.go ?_))
theorem Mine.law_whole : PySem.Challenge.rw_pg0181_01.Holds := hd (by
  k_go0
  all_goals try k_fold
  k_steps
  unfold Stop
  rename Fr _ _ _ _ => F2
  rename News _ _ _ _ => N2
  rename Below _ _ _ _ => BB
  rename (hd.heap_39 _).In _ => XX
  rename IntsAre _ _ => hI
  rename ¬ ((63 : Nat) : Int) < _ => hlen
  have hlen2 : _ ≤ 63 := Nat.le_of_not_lt (fun h => hlen (Int.ofNat_lt.mpr h))
  k_dflt (refine' wpAny_call (messages_ca BB F2 XX ?kT rfl lifted hI hlen2 ?kd ?ku News.nil ?_))
  case kT => k_asm
  case kd => ktr_room
  case ku => ktr_units
  intro lm nl ms h3 tk3 hms hfr hab F3 N3 K3
  rename_i l9 h1x q1 h2
  obtain ⟨t0, t1, t2, N2⟩ : ∃ t0 t1 t2, News _ _ h2 [(l9, listOf [Value.int _ t0, .int _ t1, .int _ t2].toArray 0), (125, tabObj #[]), (111, tabObj #[])] := ⟨_, _, _, N2⟩
  obtain ⟨l0, l1, l2, hl0, hl1, hl2, N2⟩ : ∃ l0 l1 l2 : Int, l0 = _ ∧ l1 = _ ∧ l2 = _ ∧ News _ _ h2 [(l9, listOf [Value.int l0 t0, .int l1 t1, .int l2 t2].toArray 0), (125, tabObj #[]), (111, tabObj #[])] := ⟨_, _, _, rfl, rfl, rfl, N2⟩
  have h111 := (N2 _ (.tail _ (.tail _ (.head _)))).2
  have hok := hms.ok
  have hmlen : ms.length ≤ 7 := by rw [hms.1]; simp; exact Nat.min_le_left _ _
  have hlm9 : lm ≠ l9 := ne_fresh (hfr _ (.head _)) (N2 _ (.head _)).1
  have hml9 : ∀ m ∈ ms, m.tu ≠ l9 ∧ m.pl ≠ l9 := fun m hm => ⟨ne_fresh (hfr (m.tu, _) (.tail _ (led_mem hm (.head _)))) (N2 _ (.head _)).1, ne_fresh (hfr (m.pl, _) (.tail _ (led_mem hm (.tail _ (.head _))))) (N2 _ (.head _)).1⟩
  have hmt : ∀ p ∈ (lm, listOf (msgRefs ms).toArray nl) :: ms.flatMap MsgV.led, p.1 ≠ 125 ∧ p.1 ≠ 111 := fun p hp => ⟨ne_fresh (hfr p hp) (N2 _ (.tail _ (.head _))).1, ne_fresh (hfr p hp) (N2 _ (.tail _ (.tail _ (.head _)))).1⟩
  have h9n : l9 ≠ 125 ∧ l9 ≠ 111 := ⟨Nat.ne_of_gt q1.1, Nat.ne_of_gt q1.2⟩
  have N4 : News _ _ h3 ((l9, listOf [Value.int l0 t0, .int l1 t1, .int l2 t2].toArray 0) :: (125, tabObj #[]) :: (111, tabObj #[]) :: (lm, listOf (msgRefs ms).toArray nl) :: ms.flatMap MsgV.led) := News.cat_of (a := [_, _, _]) (fun p hp => ⟨K3 _ _ (N2 p hp).1, (N2 p hp).2⟩) N3
  clear N2 N3 K3 F2 hfr
  k_steps
  unfold Stop
  rename Fr _ _ _ _ => F5
  rename News _ _ _ _ => N5
  have hm5 : ∀ m ∈ ms, ∀ p ∈ m.led, _ := fun m hm p hp => (N5 p (.tail _ (.tail _ (.tail _ (.tail _ (led_mem hm hp)))))).1
  k_dflt (refine' wpAny_call (written_ca BB F5 XX ?kT rfl (nl := nl) (ms := ms) (N5 _ (.tail _ (.tail _ (.tail _ (.head _))))).1 hm5 (by omega) (fun m hm => Nat.le_trans (hok m hm).wl (by decide)) (fun m hm => ⟨Nat.le_trans (hok m hm).sm (by decide), Nat.le_trans (hok m hm).p3 (by decide)⟩) ?kd ?ku News.nil ?_))
  case kT => k_asm
  case kd => ktr_room
  case ku => ktr_units
  intro T tT h6 tk6 hT F6 K6
  have N6 : News _ _ h6 _ := fun p hp => ⟨K6 _ _ (N5 p hp).1, (N5 p hp).2⟩
  clear N5 K6 hm5
  have hTl : T.length ≤ 10000 := by
    have h1 : T.length = T.cps.toList.length := by simp [Str.length]
    have h2 := encs_len (ms := ms) (B := 14) (fun m hm => (hok m hm).wl)
    rw [h1, hT]; exact Nat.le_trans h2 (Nat.le_trans (Nat.mul_le_mul_right _ hmlen) (by decide))
  k_steps
  unfold Stop
  rename Fr _ _ _ _ => F5
  k_dflt (refine' wpAny_call (reader_ca BB F5 XX ?kT rfl (tx := T) (by omega) codeHd ?kd ?ku (news_sub N6 ?sub) ?_))
  case kT => k_asm
  case kd => ktr_room
  case ku => ktr_units
  case sub =>
    intro p hp
    simp only [List.mem_cons, List.not_mem_nil, or_false] at hp
    rcases hp with rfl | rfl
    · exact .tail _ (.tail _ (.head _))
    · exact .tail _ (.head _)
  intro z l n0 tl h7 tk7 Z hz hl7 F7 N7 K7 fr7 g111
  have N8 := led_two N6 K7 h9n (fun p hp => hmt p hp)
  have hnl : ∀ p ∈ (l9, listOf [Value.int l0 t0, .int l1 t1, .int l2 t2].toArray 0) :: (lm, listOf (msgRefs ms).toArray nl) :: ms.flatMap MsgV.led, p.1 ∉ 125 :: lexAdr z := by
    intro p hp
    rcases List.mem_cons.mp hp with h | h
    · rw [h]; exact not_lexAdr fr7 (N6 _ (.head _)).1 h9n.1
    · exact not_lexAdr fr7 (N6 p (.tail _ (.tail _ (.tail _ h)))).1 (hmt p h).1
  clear N6 K7
  have hml : (msgRefs ms).length = ms.length := by simp [msgRefs]
  k_steps
  unfold Stop
  refine r_len (us := msgRefs ms) (N8 _ (.tail _ (.head _))).1 (by omega) ?_
  rw [hml]
  k_steps
  unfold Stop
  rename Fr _ _ _ _ => F5
  rename CodeHd _ (127, 125).1 _ => hC2
  k_dflt (refine' wpAny_call (told_ca BB F5 XX ?kT rfl Z (ln := 1) (tl := tl) (n1 := 0) (n2 := n0) (pb := []) (sg := l) (tv := [(l0, t0), (l1, t1), (l2, t2)]) (words := wordsAt [l0, l1, l2] (ms.map MsgV.word)) (n := ms.length) (N8 _ (.head _)).1 (hnl _ (.head _)) hC2 (src_start hT hl7) (by decide) ?hsg hz ?hwn ?hwl ?hws (by omega) ?kd ?ku N7 ?_))
  case kT => k_asm
  case kd => ktr_room
  case ku => ktr_units
  case hsg => 
    have h1 := congrArg List.length hl7
    rw [List.length_map] at h1
    have h2 : (signs T).length = T.length := by simp [signs, Str.length]
    exact Nat.le_trans (Nat.le_of_eq (h1.trans h2)) hTl
  case hwn => exact fun j _ => by rw [wordsAt_len, List.length_map]
  case hwl =>
    intro j hj w hw
    have h1 := wordsAt_each [l0, l1, l2] (ms.map MsgV.word) 15 (fun w hw => by
      obtain ⟨m, hm, rfl⟩ := List.mem_map.mp hw
      exact Nat.succ_le_succ (hok m hm).wl) j w hw
    have h2 : 2 ^ j ≤ 2 ^ 3 := Nat.pow_le_pow_right (by decide) hj
    exact Nat.le_trans (Nat.le_of_succ_le h1) (Nat.le_trans (Nat.mul_le_mul_left 15 h2) (by decide))
  case hws =>
    intro j hj
    match j, hj with
    | 0, _ => rfl
    | 1, _ => rfl
    | 2, _ => rfl
  intro tup acc l2x nl2 t9 h10 tk10 ps9 hat hl10 F10 N10 K10
  obtain ⟨ps8, g111⟩ := g111
  have n111 : (111 : Addr) ∉ 125 :: lexAdr z := fun h => (List.mem_cons.mp h).elim (by decide) (lex_not_below Z (Nat.lt_trans (by decide) hz))
  have g111 := K10 _ _ g111 n111
  have N11 : News _ _ h10 _ := fun p hp => ⟨K10 _ _ (N8 p hp).1 (hnl p hp), (N8 p hp).2⟩
  clear N8 N7 K10 hnl fr7
  have hm11 : ∀ m ∈ ms, ∀ p ∈ m.led, _ := fun m hm p hp => (N11 p (.tail _ (.tail _ (led_mem hm hp)))).1
  k_steps
  unfold Stop
  rename Fr _ _ _ _ => F5
  k_dflt (refine' wpAny_call (due_ca BB F5 XX ?kT rfl (lm := lm) (lt := l9) (nl := nl) (n3 := 0) (ms := ms) (l0 := l0) (l1 := l1) (l2 := l2) (N11 _ (.tail _ (.head _))).1 hm11 ⟨hlm9, hml9⟩ (by omega) (fun m hm => ⟨(hok m hm).p1, (hok m hm).p3⟩) (fun m hm => ⟨Nat.le_trans (hok m hm).sm (by decide), Nat.le_trans (hok m hm).jl (by decide)⟩) ?kd ?ku (news_sub N11 (fun p hp => by rw [List.mem_singleton.mp hp]; exact .head _)) ?_))
  case kT => k_asm
  case kd => ktr_room
  case ku => ktr_units
  intro du dl ndl h12 tk12 hdl hdf F12 N12 K12
  have N14 : News _ _ h12 [(du, listOf (strValues dl).toArray ndl), (tup, { cls := Value.type "tuple", data := Data.seq #[.ref acc, .str (Str.ofString "") t9] }), (acc, listOf (strValues l2x).toArray nl2), (125, tabObj ps9)] := News.cat_of (a := [_]) (news_sub N12 (fun p hp => by rw [List.mem_singleton.mp hp]; exact .head _)) (fun p hp => ⟨K12 _ _ (N10 p hp).1, (N10 p hp).2⟩)
  have htd : du ≠ tup := ne_fresh hdf (N10 _ (.head _)).1
  have hta : du ≠ acc := ne_fresh hdf (N10 _ (.tail _ (.head _))).1
  have g125 := K12 _ _ (N10 _ (.tail _ (.tail _ (.head _)))).1
  have g111 := K12 _ _ g111
  have N16 := News.cat_of (b := [(111, tabObj ps8)]) N14 (fun p hp => by rw [List.mem_singleton.mp hp]; exact ⟨g111, h111⟩)
  simp only [List.cons_append, List.nil_append] at N16
  clear N10 N11 N12 K12 hm11 N14
  k_steps
  unfold Stop
  rename Fr _ _ _ _ => F15
  rename News _ _ _ _ => N15
  have hb01 : ∀ x : Int, x.fmod 2 = 0 ∨ x.fmod 2 = 1 := fun x => by
    have h1 := Int.fmod_nonneg_of_pos x (b := 2) (by decide)
    have h2 := Int.fmod_lt_of_pos x (b := 2) (by decide)
    omega
  have e0 : l0 = 0 ∨ l0 = 1 := by rw [hl0]; exact hb01 _
  have e1 : l1 = 0 ∨ l1 = 1 := by rw [hl1]; exact hb01 _
  have e2 : l2 = 0 ∨ l2 = 1 := by rw [hl2]; exact hb01 _
  have heq : l2x.map (·.1) = dl.map (·.1) := by rw [hl10, hdl]; exact plain_law hms e0 e1 e2
  have hwo : ∀ y ∈ l2x.map (·.1), PyData.strOk y = true := by rw [hl10]; exact words_ok hms l0 l1 l2
  k_dflt (refine' r_eqTup (N15 _ (.tail _ (.tail _ (.head _)))).1 (N15 _ (.tail _ (.tail _ (.tail _ (.head _))))).1 (N15 _ (.head _)).1 (N15 _ (.tail _ (.head _))).1 heq hwo (by decide +kernel) ?hu ?_)
  case hu => ktr_units
  refine ⟨?good, ⟨⟨ps9, (N15 _ (.tail _ (.tail _ (.tail _ (.tail _ (.head _)))))).1⟩, ⟨ps8, (N15 _ (.tail _ (.tail _ (.tail _ (.tail _ (.tail _ (.head _))))))).1⟩, trivial⟩⟩
  k_steps
  )
end
end
theorem PySem.Challenge.cw_pg0181_01_holds : PySem.Challenge.rw_pg0181_01.Holds :=
  Mine.law_whole
