/-
  Long packets are refused, others are read: laws.FnWireLong answers true, for every packet of the given size and every bound.
-/
import Derived.Test.YtgnficcjnijdbaaGreatRows
import Derived.ChangeSlices
import Derived.ShutString
import Derived.Test.YtgnficcjnijdbaaGreatMWL4
import Derived.Test.YtgnficcjnijdbaaGreatMWL5
import Derived.Test.YtgnficcjnijdbaaGreatMWL6
import Derived.Test.YtgnficcjnijdbaaGreatMWL7
set_option linter.unusedVariables false
set_option linter.unusedSimpArgs false
set_option maxHeartbeats 20000000
set_option maxRecDepth 5000
namespace Go.Proofs.YtgnficcjnijdbaaGreat
open Go.RowKit Go.Great Go.Proofs.YtgnficcjnijdbaaGreatW.PrintWords Go.Proofs.YtgnficcjnijdbaaGreatW.PrintLast Go.Proofs.YtgnficcjnijdbaaGreatW.PrintMore Go.Proofs.YtgnficcjnijdbaaGreat.KK
theorem UnextQ.below {sets : Array Value → Array Value} {tp : TypeId} {x : Nat} {w w' : World} (h : UnextQ sets tp x w) (hb : Below w.heap.size w w') : UnextQ sets tp x w' :=
 fun W q P hW hq hP hxq hqw => h W q P (hb.trans (hW.mono hb.size)) hq hP hxq (Nat.le_trans hb.size hqw)
theorem zEG (p : Pk) (h : p.f0 = 200) (hx : p.f16.size ≤ 1000000) {pl : List UInt8} {sets : Array Value → Array Value} {tp t : TypeId} {zs : Array Value} {F : Nat} (E : zHu p.f16 pl sets tp t zs F) (hpl : zBQ p.f16 p.f2 p.f3 p.f4 p.f8 = pl)
  (hP : sets ((z24 200 p.f1).setIfInBounds 23 (.string p.f16)) = pkC p none 0 none 0 none 0) (h9 : p.f9.f7 = []) (h10 : p.f10 = []) (h11 : p.f11 = [])
  (b g o s : Nat) (W : World) (hq : W.heap[b]? = some (.cells #[.string ⟨#[]⟩, .nilIface] 185 (0, 0))) (h1 : b ≠ g) (h2 : b ≠ s) (hB : RBuf W g o s (some (zA1 p))) :
  Calls Tryz.prog 194 #[.pointer (some ⟨b, 0, none⟩), .pointer (some ⟨g, o, none⟩)] W (zMq p 181 b g o W) := by
 have e : zA1 p = str (tl p.f16) ++ pl := by rw [← hpl]; unfold zA1; rw [h]; rfl
 rw [e] at hB
 refine (zGn p.f16 pl sets tp t zs F E b g o s W hq h1 h2 hB hx).mono ?_
 rintro e w' ⟨x, rfl, _, hxl, hk, hun, hu⟩
 exact ⟨rfl, fun V hV => zFb p.f1 V p.f16 p sets tp x b ((hV.block b (zAC hk)).trans hk) (hun.below hV) (Nat.lt_of_lt_of_le hxl hV.size) hP h9 h10 h11, hu⟩
theorem zDN (x : ByteArray) : zAd 200 x = zMp (zDm x) := rfl
theorem zFc (p : Pk) (s : Sound p) (h : p.f0 = 200) : zBW p 181 185 #[.string ⟨#[]⟩, .nilIface] 194 where
 meth := fun _ _ => by kernel_rfl
 ent := enters_of Tryz.func194 (by kernel_rfl) rfl
 fill := fun b g o s' W hq h1 h2 hB => by
  have hx := s.txt
  unfold zB8 at hx
  rcases zOr p.f16 with ⟨a0, a1, a2, a3, a4⟩ | ⟨a0, a1, a2, a3, a4⟩ | ⟨a0, a1, a2, a3, a4⟩ | ⟨a0, a1, a2, a3, a4⟩ | ⟨a0, a1, a2, a3, a4⟩ | ⟨a0, a1, a2, a3, a4⟩
  ·have hm : zAd p.f0 p.f16 = [1, 2, 3, 16] := by rw [h, zDN, zLR a0]; rfl
   have hp : p = (⟨200, p.f1, p.f2, p.f3, e0, 0, 0, 0, e0, ⟨0, 0, 0, 0, 0, 0, 0, []⟩, [], [], 0, 0, e0, e0, p.f16⟩ : Pk) := by
    have h1 : p = (⟨p.f0, p.f1, p.f2, p.f3, e0, 0, 0, 0, e0, ⟨0, 0, 0, 0, 0, 0, 0, []⟩, [], [], 0, 0, e0, e0, p.f16⟩ : Pk) := s.ok.only.trans (by unfold zBL; rw [hm]; rfl)
    rw [h] at h1
    exact h1
   have hP : (fun P => (P.setIfInBounds 2 (.string p.f2)).setIfInBounds 3 (.string p.f3)) ((z24 200 p.f1).setIfInBounds 23 (.string p.f16)) = pkC (⟨200, p.f1, p.f2, p.f3, e0, 0, 0, 0, e0, ⟨0, 0, 0, 0, 0, 0, 0, []⟩, [], [], 0, 0, e0, e0, p.f16⟩ : Pk) none 0 none 0 none 0 := by kernel_rfl
   rw [← hp] at hP
   exact zEG p h (by omega) (zGl p.f16 p.f2 p.f3 a0 a1 a2 a3 a4 (by omega) (by omega)) (zCx p.f2 p.f3 p.f4 p.f8 a0) hP (by rw [hp]) (by rw [hp]) (by rw [hp]) b g o s' W hq h1 h2 hB
  ·have hm : zAd p.f0 p.f16 = [1, 2, 3, 16] := by rw [h, zDN, zLS a0 a1]; rfl
   have hp : p = (⟨200, p.f1, p.f2, p.f3, e0, 0, 0, 0, e0, ⟨0, 0, 0, 0, 0, 0, 0, []⟩, [], [], 0, 0, e0, e0, p.f16⟩ : Pk) := by
    have h1 : p = (⟨p.f0, p.f1, p.f2, p.f3, e0, 0, 0, 0, e0, ⟨0, 0, 0, 0, 0, 0, 0, []⟩, [], [], 0, 0, e0, e0, p.f16⟩ : Pk) := s.ok.only.trans (by unfold zBL; rw [hm]; rfl)
    rw [h] at h1
    exact h1
   have hP : (fun P => (P.setIfInBounds 2 (.string p.f2)).setIfInBounds 3 (.string p.f3)) ((z24 200 p.f1).setIfInBounds 23 (.string p.f16)) = pkC (⟨200, p.f1, p.f2, p.f3, e0, 0, 0, 0, e0, ⟨0, 0, 0, 0, 0, 0, 0, []⟩, [], [], 0, 0, e0, e0, p.f16⟩ : Pk) none 0 none 0 none 0 := by kernel_rfl
   rw [← hp] at hP
   exact zEG p h (by omega) (zEZ p.f16 p.f2 p.f3 a0 a1 a2 a3 a4 (by omega) (by omega)) (zCW p.f2 p.f3 p.f4 p.f8 a0 a1) hP (by rw [hp]) (by rw [hp]) (by rw [hp]) b g o s' W hq h1 h2 hB
  ·have hm : zAd p.f0 p.f16 = [1, 2, 16] := by rw [h, zDN, zLT a0 a1 a2]; rfl
   have hp : p = (⟨200, p.f1, p.f2, e0, e0, 0, 0, 0, e0, ⟨0, 0, 0, 0, 0, 0, 0, []⟩, [], [], 0, 0, e0, e0, p.f16⟩ : Pk) := by
    have h1 : p = (⟨p.f0, p.f1, p.f2, e0, e0, 0, 0, 0, e0, ⟨0, 0, 0, 0, 0, 0, 0, []⟩, [], [], 0, 0, e0, e0, p.f16⟩ : Pk) := s.ok.only.trans (by unfold zBL; rw [hm]; rfl)
    rw [h] at h1
    exact h1
   have hP : (fun P => P.setIfInBounds 2 (.string p.f2)) ((z24 200 p.f1).setIfInBounds 23 (.string p.f16)) = pkC (⟨200, p.f1, p.f2, e0, e0, 0, 0, 0, e0, ⟨0, 0, 0, 0, 0, 0, 0, []⟩, [], [], 0, 0, e0, e0, p.f16⟩ : Pk) none 0 none 0 none 0 := by kernel_rfl
   rw [← hp] at hP
   exact zEG p h (by omega) (zHv p.f16 p.f2 a0 a1 a2 a3 a4 (by omega)) (zDT p.f2 p.f3 p.f4 p.f8 a0 a1 a2) hP (by rw [hp]) (by rw [hp]) (by rw [hp]) b g o s' W hq h1 h2 hB
  ·have hm : zAd p.f0 p.f16 = [1, 4, 16] := by rw [h, zDN, zLU a0 a1 a2 a3]; rfl
   have hp : p = (⟨200, p.f1, e0, e0, p.f4, 0, 0, 0, e0, ⟨0, 0, 0, 0, 0, 0, 0, []⟩, [], [], 0, 0, e0, e0, p.f16⟩ : Pk) := by
    have h1 : p = (⟨p.f0, p.f1, e0, e0, p.f4, 0, 0, 0, e0, ⟨0, 0, 0, 0, 0, 0, 0, []⟩, [], [], 0, 0, e0, e0, p.f16⟩ : Pk) := s.ok.only.trans (by unfold zBL; rw [hm]; rfl)
    rw [h] at h1
    exact h1
   have hP : (fun P => P.setIfInBounds 4 (.string p.f4)) ((z24 200 p.f1).setIfInBounds 23 (.string p.f16)) = pkC (⟨200, p.f1, e0, e0, p.f4, 0, 0, 0, e0, ⟨0, 0, 0, 0, 0, 0, 0, []⟩, [], [], 0, 0, e0, e0, p.f16⟩ : Pk) none 0 none 0 none 0 := by kernel_rfl
   rw [← hp] at hP
   exact zEG p h (by omega) (zGm p.f16 p.f4 a0 a1 a2 a3 a4 (by omega)) (zCy p.f2 p.f3 p.f4 p.f8 a0 a1 a2 a3) hP (by rw [hp]) (by rw [hp]) (by rw [hp]) b g o s' W hq h1 h2 hB
  ·have hm : zAd p.f0 p.f16 = [1, 4, 16] := by rw [h, zDN, zLV a0 a1 a2 a3 a4]; rfl
   have hp : p = (⟨200, p.f1, e0, e0, p.f4, 0, 0, 0, e0, ⟨0, 0, 0, 0, 0, 0, 0, []⟩, [], [], 0, 0, e0, e0, p.f16⟩ : Pk) := by
    have h1 : p = (⟨p.f0, p.f1, e0, e0, p.f4, 0, 0, 0, e0, ⟨0, 0, 0, 0, 0, 0, 0, []⟩, [], [], 0, 0, e0, e0, p.f16⟩ : Pk) := s.ok.only.trans (by unfold zBL; rw [hm]; rfl)
    rw [h] at h1
    exact h1
   have hP : (fun P => P.setIfInBounds 4 (.string p.f4)) ((z24 200 p.f1).setIfInBounds 23 (.string p.f16)) = pkC (⟨200, p.f1, e0, e0, p.f4, 0, 0, 0, e0, ⟨0, 0, 0, 0, 0, 0, 0, []⟩, [], [], 0, 0, e0, e0, p.f16⟩ : Pk) none 0 none 0 none 0 := by kernel_rfl
   rw [← hp] at hP
   exact zEG p h (by omega) (zK1 p.f16 p.f4 a0 a1 a2 a3 a4 (by omega)) (zEL p.f2 p.f3 p.f4 p.f8 a0 a1 a2 a3 a4) hP (by rw [hp]) (by rw [hp]) (by rw [hp]) b g o s' W hq h1 h2 hB
  ·have hm : zAd p.f0 p.f16 = [1, 8, 16] := by rw [h, zDN, zLW a0 a1 a2 a3 a4]; rfl
   have hp : p = (⟨200, p.f1, e0, e0, e0, 0, 0, 0, p.f8, ⟨0, 0, 0, 0, 0, 0, 0, []⟩, [], [], 0, 0, e0, e0, p.f16⟩ : Pk) := by
    have h1 : p = (⟨p.f0, p.f1, e0, e0, e0, 0, 0, 0, p.f8, ⟨0, 0, 0, 0, 0, 0, 0, []⟩, [], [], 0, 0, e0, e0, p.f16⟩ : Pk) := s.ok.only.trans (by unfold zBL; rw [hm]; rfl)
    rw [h] at h1
    exact h1
   have hP : (fun P => P.setIfInBounds 8 (.string p.f8)) ((z24 200 p.f1).setIfInBounds 23 (.string p.f16)) = pkC (⟨200, p.f1, e0, e0, e0, 0, 0, 0, p.f8, ⟨0, 0, 0, 0, 0, 0, 0, []⟩, [], [], 0, 0, e0, e0, p.f16⟩ : Pk) none 0 none 0 none 0 := by kernel_rfl
   rw [← hp] at hP
   exact zEG p h (by omega) (zLm p.f16 p.f8 a0 a1 a2 a3 a4 (by omega)) (zEi p.f2 p.f3 p.f4 p.f8 a0 a1 a2 a3 a4) hP (by rw [hp]) (by rw [hp]) (by rw [hp]) b g o s' W hq h1 h2 hB
theorem zD3 (p : Pk) (s : Sound p) (h : p.f0 = 201) : zBW p 186 188 #[.nilIface] 198 where
 meth := fun _ _ => by kernel_rfl
 ent := enters_of Tryz.func198 (by kernel_rfl) rfl
 fill := fun b g o s' W hq h1 h2 hB => by
  have hx := s.txt
  unfold zB8 at hx
  have e : zA1 p = tl p.f8 := by unfold zA1; rw [h]; rfl
  rw [e] at hB
  have hp : p = (⟨201, p.f1, e0, e0, e0, 0, 0, 0, p.f8, ⟨0, 0, 0, 0, 0, 0, 0, []⟩, [], [], 0, 0, e0, e0, e0⟩ : Pk) := by
   have h1 : p = (⟨p.f0, p.f1, e0, e0, e0, 0, 0, 0, p.f8, ⟨0, 0, 0, 0, 0, 0, 0, []⟩, [], [], 0, 0, e0, e0, e0⟩ : Pk) := s.ok.only.trans (by unfold zBL; rw [show zAd p.f0 p.f16 = [1, 8] from by rw [h]; rfl]; rfl)
   rw [h] at h1
   exact h1
  have hP : (fun P : Array Value => P.setIfInBounds 8 (.string p.f8)) (z24 201 p.f1) = pkC (⟨201, p.f1, e0, e0, e0, 0, 0, 0, p.f8, ⟨0, 0, 0, 0, 0, 0, 0, []⟩, [], [], 0, 0, e0, e0, e0⟩ : Pk) none 0 none 0 none 0 := by kernel_rfl
  rw [← hp] at hP
  refine (zK2 p.f8 (by omega) b g o s' W hq h1 h2 hB).mono ?_
  rintro e w' ⟨x, rfl, _, hxl, hk, hun, hu⟩
  exact ⟨rfl, fun V hV => zD2 p.f1 V p _ _ x b ((hV.block b (zAC hk)).trans hk) (hun.below hV) (Nat.lt_of_lt_of_le hxl hV.size) hP (by rw [hp]) (by rw [hp]) (by rw [hp]), hu⟩
def zLn : Array Value := #[.int .u8 0, .int .u32 0, .slice none 0 0, .int .i64 0, .nilIface]
def zO0 (q g s : Nat) (t id : Int) (B : List UInt8) (w : World) (e : Ending) (w' : World) : Prop :=
 e = .returned .nilIface ∧ RBuf w' q 2 s (some B) ∧ w'.cell? ⟨q, 1, none⟩ = some (.int .u32 id) ∧ UpdB (fun k => k = g ∨ k = q) w w'
theorem zM9 (q g s : Nat) (t id : Int) (B : List UInt8) (w : World) (ht : T27 t) (i0 : 0 ≤ id) (i1 : id ≤ 4294967295) (hq : w.heap[q]? = some (.cells zLn 85 (0, 0))) (hqg : q ≠ g) (hqs : q ≠ s) (hb : RBuf w g 0 s (some (bt t :: (zAQ id ++ B)))) :
  Calls Tryz.prog 60 #[.pointer (some ⟨q, 0, none⟩), .pointer (some ⟨g, 0, none⟩)] w (zO0 q g s t id B w) := by
 have hql := zAC hq
 have hlt := hb.lt
 have e8 : c8 (some (bt t :: (zAQ id ++ B))) = (t, some (zAQ id ++ B)) := by
  have h1 : c8 (some (bt t :: (zAQ id ++ B))) = (((bt t).toNat : Int), some (zAQ id ++ B)) := rfl
  rw [h1, T27.bt ht]
 have C8 := Lib.hid (zE7 g 0 s _ w hb)
 have E8 := Lib.hid e8
 have E32 := Lib.hid (zBI id B i0 i1)
 have HQ := Lib.hid hq
 clear hq hb e8 ht i0 i1
 go_enter Tryz.func60, Tryz.ntmps60
 go_wp2_with fail
 refine C8.out.mono ?_
 rw [E8.out]
 rintro e w1 ⟨rfl, hb1, hu1⟩
 have z1 := hu1.size
 have C32 := Lib.hid (zC6 g 0 s _ w1 hb1)
 have q1 := (hu1.block q hql hqg).trans HQ.out
 have Q1 := Lib.hid q1
 have U1 := Lib.hid hu1
 clear hb1 hu1 q1 C8 E8 HQ
 go_wp2_with fail
 refine C32.out.mono ?_
 rw [E32.out]
 rintro e w2 ⟨rfl, hb2, hu2⟩
 have z2 := hu2.size
 have q2 : w2.heap[q]? = some (.cells #[.int .u8 0, .int .u32 0, .slice none 0 0, .int .i64 0, .nilIface] 85 (0, 0)) := (hu2.block q (by omega) hqg).trans Q1.out
 have U2 : UpdB (fun k => k = g ∨ k = q) w w2 := (U1.out.trans hu2).updB (.inl rfl)
 obtain ⟨p, n, c, off, h0, h1, hsg, hon, hnc, hn, h2, hl, hL⟩ := hb2.ex
 have hlt2 := hb2.lt
 have k0 : w2.cell? ⟨q, 0, none⟩ = some (.int .u8 0) := by rw [zAA q2]; rfl
 have k1 : w2.cell? ⟨q, 1, none⟩ = some (.int .u32 0) := by rw [zAA q2]; rfl
 have k2 : w2.cell? ⟨q, 2, none⟩ = some (.slice none 0 0) := by rw [zAA q2]; rfl
 have k3 : w2.cell? ⟨q, 3, none⟩ = some (.int .i64 0) := by rw [zAA q2]; rfl
 have k4 : w2.cell? ⟨q, 4, none⟩ = some .nilIface := by rw [zAA q2]; rfl
 have fq := zAP q2
 have f0 := fq 0
 have f1 := fq 1
 have f2 := fq 2
 have f3 := fq 3
 have f4 := fq 4
 obtain ⟨W3, hW3⟩ : ∃ W, ((((w2.setCell ⟨q, 0, none⟩ (.int .u8 t)).setCell ⟨q, 1, none⟩ (.int .u32 id)).setCell ⟨q, 2, none⟩ (.slice none 0 0)).setCell ⟨q, 3, none⟩ (.int .i64 0)).setCell ⟨q, 4, none⟩ .nilIface = W := ⟨_, rfl⟩
 have o3 : ∀ k, k ≠ q → W3.heap[k]? = w2.heap[k]? := fun k hk => by
  rw [← hW3, Below.heap_setCell _ _ _ _ hk, Below.heap_setCell _ _ _ _ hk, Below.heap_setCell _ _ _ _ hk, Below.heap_setCell _ _ _ _ hk, Below.heap_setCell _ _ _ _ hk]
 have b3 : W3.heap[q]? = some (.cells #[.int .u8 t, .int .u32 id, .slice none 0 0, .int .i64 0, .nilIface] 85 (0, 0)) := by
  rw [← hW3]
  have a1 : (w2.setCell ⟨q, 0, none⟩ (.int .u8 t)).heap[q]? = some (.cells #[.int .u8 t, .int .u32 0, .slice none 0 0, .int .i64 0, .nilIface] 85 (0, 0)) := zAT q2 _
  have a2 : ((w2.setCell ⟨q, 0, none⟩ (.int .u8 t)).setCell ⟨q, 1, none⟩ (.int .u32 id)).heap[q]? = some (.cells #[.int .u8 t, .int .u32 id, .slice none 0 0, .int .i64 0, .nilIface] 85 (0, 0)) := zAT a1 _
  have a3 : (((w2.setCell ⟨q, 0, none⟩ (.int .u8 t)).setCell ⟨q, 1, none⟩ (.int .u32 id)).setCell ⟨q, 2, none⟩ (.slice none 0 0)).heap[q]? = some (.cells #[.int .u8 t, .int .u32 id, .slice none 0 0, .int .i64 0, .nilIface] 85 (0, 0)) := zAT a2 _
  have a4 : ((((w2.setCell ⟨q, 0, none⟩ (.int .u8 t)).setCell ⟨q, 1, none⟩ (.int .u32 id)).setCell ⟨q, 2, none⟩ (.slice none 0 0)).setCell ⟨q, 3, none⟩ (.int .i64 0)).heap[q]? = some (.cells #[.int .u8 t, .int .u32 id, .slice none 0 0, .int .i64 0, .nilIface] 85 (0, 0)) := zAT a3 _
  exact zAT a4 _
 have u3 : UpdB (fun k => k = g ∨ k = q) w W3 := by rw [← hW3]; exact ((((U2.setCell (.inr rfl) _).setCell (.inr rfl) _).setCell (.inr rfl) _).setCell (.inr rfl) _).setCell (.inr rfl) _
 have z3 : W3.heap.size = w2.heap.size := by rw [← hW3]; simp [World.setCell]
 have g0 : W3.cell? ⟨g, 0, none⟩ = some (.slice (some ⟨s, p, none⟩) n c) := (cell_kept (o3 g (Ne.symm hqg))).trans h0
 have g1 : W3.cell? ⟨g, 1, none⟩ = some (.int .i64 ((off : Nat) : Int)) := (cell_kept (o3 g (Ne.symm hqg))).trans h1
 have g2 : W3.cell? ⟨g, 2, none⟩ = some .nilIface := (cell_kept (o3 g (Ne.symm hqg))).trans h2
 have m2 : W3.cell? ⟨q, 2, none⟩ = some (.slice none 0 0) := by rw [zAA b3]; rfl
 have m3 : W3.cell? ⟨q, 3, none⟩ = some (.int .i64 0) := by rw [zAA b3]; rfl
 have m4 : W3.cell? ⟨q, 4, none⟩ = some .nilIface := by rw [zAA b3]; rfl
 have fr := zAP b3
 have r2 := fr 2
 have r3 := fr 3
 have r4 := fr 4
 obtain ⟨W4, hW4⟩ : ∃ W, ((W3.setCell ⟨q, 2, none⟩ (.slice (some ⟨s, p, none⟩) n c)).setCell ⟨q, 3, none⟩ (.int .i64 ((off : Nat) : Int))).setCell ⟨q, 4, none⟩ .nilIface = W := ⟨_, rfl⟩
 have o4 : ∀ k, k ≠ q → W4.heap[k]? = W3.heap[k]? := fun k hk => by
  rw [← hW4, Below.heap_setCell _ _ _ _ hk, Below.heap_setCell _ _ _ _ hk, Below.heap_setCell _ _ _ _ hk]
 have b4 : W4.heap[q]? = some (.cells #[.int .u8 t, .int .u32 id, .slice (some ⟨s, p, none⟩) n c, .int .i64 ((off : Nat) : Int), .nilIface] 85 (0, 0)) := by
  rw [← hW4]
  have a1 : (W3.setCell ⟨q, 2, none⟩ (.slice (some ⟨s, p, none⟩) n c)).heap[q]? = some (.cells #[.int .u8 t, .int .u32 id, .slice (some ⟨s, p, none⟩) n c, .int .i64 0, .nilIface] 85 (0, 0)) := zAT b3 _
  have a2 : ((W3.setCell ⟨q, 2, none⟩ (.slice (some ⟨s, p, none⟩) n c)).setCell ⟨q, 3, none⟩ (.int .i64 ((off : Nat) : Int))).heap[q]? = some (.cells #[.int .u8 t, .int .u32 id, .slice (some ⟨s, p, none⟩) n c, .int .i64 ((off : Nat) : Int), .nilIface] 85 (0, 0)) := zAT a1 _
  exact zAT a2 _
 have u4 : UpdB (fun k => k = g ∨ k = q) w W4 := by rw [← hW4]; exact ((u3.setCell (.inr rfl) _).setCell (.inr rfl) _).setCell (.inr rfl) _
 have z4 : W4.heap.size = W3.heap.size := by rw [← hW4]; simp [World.setCell]
 have l2 : W4.cell? ⟨g, 2, none⟩ = some .nilIface := (cell_kept (o4 g (Ne.symm hqg))).trans g2
 have F := Lib.hid (show zO0 q g s t id B w (.returned .nilIface) W4 from
  ⟨rfl, ⟨⟨p, n, c, off, by rw [zAA b4]; rfl, by rw [zAA b4]; rfl, ⟨Ne.symm hqs, by omega⟩, hon, hnc, hn, by rw [zAA b4]; rfl, hl, (hL.kept (o3 s (Ne.symm hqs))).kept (o4 s (Ne.symm hqs))⟩, zAP b4⟩, by rw [zAA b4]; rfl, u4⟩)
 have X3 := Lib.hid hW3
 have X4 := Lib.hid hW4
 clear hb2 hu2 q2 U2 hL o3 b3 u3 fr fq o4 b4 u4 z3 z4 hl hW3 hW4 C32 E32 Q1 U1 z1 z2 hon hnc hn hsg hlt hlt2
 go_wp2_with fail
 go_ret
 rw [X3.out, X4.out]
 exact F.out
def zO1 (q rr s0 : Nat) (L l : List UInt8) (id : Int) (B : List UInt8) (w : World) (e : Ending) (w' : World) : Prop :=
 e = .returned .nilIface ∧ (∃ s, w.heap.size ≤ s ∧ RBuf w' q 2 s (some B)) ∧ w'.cell? ⟨q, 1, none⟩ = some (.int .u32 id) ∧ Rd w' rr s0 (L.drop (4 + l.length)) ∧ UpdB (fun k => k = rr ∨ k = q) w w'
theorem zMa (q rr s : Nat) (t id : Int) (B L l : List UInt8) (M : Int) (w : World) (ht : T27 t) (i0 : 0 ≤ id) (i1 : id ≤ 4294967295) (hq : w.heap[q]? = some (.cells zLn 85 (0, 0))) (hr : Rd w rr s L) (hL : L.length ≤ 1000000000) (hM0 : 0 ≤ M) (hM : M ≤ 1000000000) (hrs : rr ≠ s) (hqr : q ≠ rr) (hqs : q ≠ s)
  (hg : zB5 M L = some l) (hl : l = bt t :: (zAQ id ++ B)) :
  Calls Tryz.prog 32 #[.pointer (some ⟨q, 0, none⟩), .pointer (some ⟨rr, 0, none⟩), .slice none 0 0, .int .u32 M] w (zO1 q rr s L l id B w) := by
 have C := Lib.hid (zCN rr s L M w hr hL hM0 hM hrs)
 have hrl : rr < w.heap.size := by obtain ⟨p, c, hb, _⟩ := hr; exact zAC hb
 have hsl : s < w.heap.size := by obtain ⟨p, c, hb, _, _, h⟩ := hr; exact h
 have hql := zAC hq
 have Q := Lib.hid hq
 have hll : l.length ≤ 1000000000 := Nat.le_trans (zE8 hg) hL
 have RF := Lib.hid (fun (g s : Nat) (W : World) h1 h2 h3 h4 => zM9 q g s t id B W ht i0 i1 h1 h2 h3 h4)
 have HL := Lib.hid hl
 clear hr hL hM0 hM hq ht i0 i1 hl
 go_enter Tryz.func32, Tryz.ntmps32
 go_wp2_with fail
 refine C.out.mono ?_
 rw [hg]
 rintro e w1 ⟨hu, h, c, rfl, hc, hwh, hhw, hlie, hrd⟩
 have hq1 := (hu.block q hql hqr).trans Q.out
 have U := Lib.hid hu
 have LI := Lib.hid hlie
 have Q1 := Lib.hid hq1
 have RD := Lib.hid hrd
 have z1 := hu.size
 clear hu C hlie hq1 Q hrd
 go_wp2_with fail
 refine (zAZ _ _ _ _).mono ?_
 rintro e w2 ⟨rfl, hw2⟩
 have hb2 := RBuf.new LI.out hhw hc hll
 have hbel := (Below.refl w1.heap.size w1).alloc (Nat.le_refl _) (.cells #[.slice (some ⟨h, 0, none⟩) l.length c, .int .i64 0, .nilIface] 83)
 rw [hw2] at hb2 hbel
 have hq2 := (hbel.block q (by omega)).trans Q1.out
 rw [HL.out] at hb2
 have E := Lib.hid (RF.out _ _ w2 hq2 (by omega) (by omega) hb2)
 have R2 := Lib.hid (RD.out.kept (hbel.block rr (by omega)) (hbel.block s (by omega)) hbel.size)
 have U2 : UpdB (fun k => k = rr ∨ k = q) w w2 := (U.out.mono (fun k e => .inl e)).trans ⟨hbel.os, hbel.tape, hbel.output, hbel.size, fun k hk _ => hbel.block k hk⟩
 have V2 := Lib.hid U2
 have ZB := Lib.hid hbel.size
 clear hw2 hb2 hbel hq2 U2 RF Q1 LI U RD
 go_wp2_with fail
 refine E.out.mono ?_
 rintro e w3 ⟨rfl, hb3, hid3, hu3⟩
 have F := Lib.hid (show zO1 q rr s L l id B w (.returned .nilIface) w3 from by
  have hu := V2.out
  have hz := hu.size
  have zb := ZB.out
  exact ⟨rfl, ⟨_, hwh, hb3⟩, hid3, R2.out.kept (hu3.block rr (by omega) (by omega)) (hu3.block s (by omega) (by omega)) hu3.size, ⟨hu3.os.trans hu.os, hu3.tape.trans hu.tape, hu3.output.trans hu.output, Nat.le_trans hu.size hu3.size, fun k hk e => (hu3.block k (by omega) (by omega)).trans (hu.block k hk e)⟩⟩)
 clear hb3 hid3 hu3 E V2 R2
 go_wp2_with fail
 go_ret
 exact F.out
theorem zBk (p : Pk) (tp t : TypeId) (zs : Array Value) (F : Nat) (T : zBW p tp t zs F) (hnew : ∀ w : World, Calls Tryz.prog 30 #[.int .i64 p.f0] w fun e w' => e = .returned (.iface tp (.pointer (some ⟨w.heap.size, 0, none⟩))) ∧ w.alloc (.cells zs t) = w')
  (ht : T27 p.f0) (h12 : ¬ (p.f0 = 1 ∨ p.f0 = 2)) (i0 : 0 ≤ p.f1) (i1 : p.f1 ≤ 4294967295) (s : ByteArray) (M : Int) (w : World) (hi : ∀ w : World, (Instr.index 9 (.string s) (.int .i64 4)).run Tryz.prog w = .ok (.int .u8 p.f0) w) (h4 : 4 < s.size) (hs : s.size ≤ 1000000000) (hM0 : 0 ≤ M) (hM : M ≤ 1000000000)
  (hg : zB5 M (tl s) = some (inner p)) :
  Calls Tryz.prog 11 #[.string s, .int .u32 M] w (zLg p w) := by
 have hr9 := T27.range ht
 have hx1 : (p.f0 == 1) = false := by simp; omega
 have hx2 : (p.f0 == 2) = false := by simp; omega
 rw [zHi h12] at hg
 have RQ := Lib.hid (fun (q rr s : Nat) (L : List UInt8) (W : World) h1 h2 h3 h4 h5 h6 h7 => zMa q rr s p.f0 p.f1 (zA1 p) L _ M W ht i0 i1 h1 h2 h3 hM0 hM h4 h5 h6 h7 rfl)
 have RN := Lib.hid hnew
 have HM := T.meth
 have HC := T.ent
 have HF := Lib.hid T.fill
 have hcv : IntKind.i64.wrap p.f0 = p.f0 := IntWalk.i64_in _ (by omega)
 have HG := Lib.hid hg
 clear T hnew ht h12 i0 i1 hg hr9
 generalize hty0 : p.f0 = ty at *
 clear hty0
 have hmf : ∀ (fn : Fn) (first cap : Array Value) (w : World), (Instr.makeFunc fn first cap).run Tryz.prog w = .ok (.func fn first cap) w := fun _ _ _ _ => rfl
 have kb := fun W => Lib.run_convert_string_bytes (P := Tryz.prog) W 9 56 5 s Tryz.underlying9 Tryz.underlying56 Tryz.underlying5
 have i4 : (4 : Int) < (s.size : Int) := by omega
 obtain ⟨W0, hW0⟩ : ∃ W, (w.alloc (.cells pZero 29)).alloc (.cells #[.int .i64 0] 3) = W := ⟨_, rfl⟩
 have s0 : W0.heap.size = w.heap.size + 1 + 1 := by rw [← hW0]; simp
 have X0 := Lib.hid hW0
 have S0 := Lib.hid s0
 clear hW0 s0
 go_enter_defers Tryz.func11, Tryz.ntmps11
 go_wp2_with (first
  | (refine wpList_allocTo rfl (some 4) rfl (.pointer (some ⟨w.heap.size, 0, none⟩)) (.cells pZero 29) (by as_aux_lemma => kernel_rfl) ?_)
  | (refine zBB 12 rfl ?_; rw [X0.out]))
 have hrr : (Lib.bytesWorld W0 5 s).heap.size = w.heap.size + 1 + 1 + 1 := by rw [Lib.bytesWorld_size, S0.out]
 obtain ⟨hR, hz0, hz1, hbe, hsz⟩ := zBi w W0 s X0.out
 rw [hrr, S0.out]
 unfold zCO at hR hz0 hz1 hbe hsz
 clear hrr
 generalize (Lib.bytesWorld W0 5 s).alloc (.cells #[.slice (some ⟨w.heap.size + 1 + 1, 0, none⟩) s.size (grownCap W0 s.size 0 5)] 76) = W1 at hR hz0 hz1 hbe hsz ⊢
 have R1 := Lib.hid hR
 have Z0 := Lib.hid hz0
 have Z1 := Lib.hid hz1
 have B1 := Lib.hid hbe
 have S1 := Lib.hid hsz
 clear hR hz0 hz1 hbe hsz kb X0 S0
 refine (RN.out W1).mono ?_
 rintro e w9 ⟨rfl, hw9⟩
 have z9 : w9.heap.size = W1.heap.size + 1 := by rw [← hw9]; simp
 have hb9 : Below W1.heap.size W1 w9 := by rw [← hw9]; exact (Below.refl _ _).alloc (Nat.le_refl _) _
 have hx9 : w9.heap[W1.heap.size]? = some (.cells zs t (0, 0)) := by rw [← hw9]; exact heap_alloc_new _ _
 have e1 := S1.out
 have R9 := Lib.hid (R1.out.kept (hb9.block _ (by omega)) (hb9.block _ (by omega)) hb9.size)
 have Z09 := Lib.hid ((hb9.block _ (by omega)).trans Z0.out)
 have Z19 := Lib.hid ((hb9.block _ (by omega)).trans Z1.out)
 have B9 := Lib.hid (B1.out.trans (hb9.mono (by omega)))
 have K9 := Lib.hid hx9
 have e1' : W1.heap.size = w.heap.size + 1 + 1 + 1 + 1 := e1
 clear hb9 R1 Z0 Z1 B1 S1 e1 hx9 hw9 RN
 obtain ⟨x, hx⟩ : ∃ x, x = W1.heap.size := ⟨_, rfl⟩
 rw [← hx] at e1' z9 K9 ⊢
 clear hx
 obtain ⟨W2, hW2⟩ : ∃ W, w9.alloc (.cells zLn 85) = W := ⟨_, rfl⟩
 have hz2 : W2.heap.size = x + 1 + 1 := by rw [← hW2]; simp [z9]
 have hb2 : Below w9.heap.size w9 W2 := by rw [← hW2]; exact (Below.refl _ _).alloc (Nat.le_refl _) _
 have hq2 : W2.heap[x + 1]? = some (.cells zLn 85 (0, 0)) := by rw [← hW2, ← z9]; exact heap_alloc_new _ _
 have X2 := Lib.hid hW2
 have Q2 := Lib.hid hq2
 have B2 := Lib.hid hb2
 have Z2 := Lib.hid hz2
 have Z9 := Lib.hid z9
 have E1 := Lib.hid e1'
 clear hW2 hz2 hb2 hq2 z9 e1'
 go_wp2_with (refine wpList_allocTo rfl (some 10) rfl (.pointer (some ⟨x + 1, 0, none⟩)) (.cells zLn 85) (by rw [← Z9.out]; as_aux_lemma => kernel_rfl) ?_; rw [X2.out])
 have hb2 := B2.out
 have z9 := Z9.out
 have e1' := E1.out
 have hz2 := Z2.out
 have hR2 : Rd W2 (w.heap.size + 1 + 1 + 1) (w.heap.size + 1 + 1) (tl s) := R9.out.kept (hb2.block _ (by omega)) (hb2.block _ (by omega)) hb2.size
 refine (RQ.out (x + 1) (w.heap.size + 1 + 1 + 1) (w.heap.size + 1 + 1) (tl s) W2 Q2.out hR2 (by rw [zAH]; exact hs) (by omega) (by omega) (by omega) HG.out).mono ?_
 rintro e w3 ⟨rfl, ⟨s3, hs3, hb3⟩, hid3, _, hu3⟩
 have z3 := hu3.size
 have y0 : w3.heap[w.heap.size]? = some (.cells pZero 29 (0, 0)) := by rw [hu3.block _ (by omega) (by omega), hb2.block _ (by omega)]; exact Z09.out
 have y1 : w3.heap[w.heap.size + 1]? = some (.cells #[.int .i64 0] 3 (0, 0)) := by rw [hu3.block _ (by omega) (by omega), hb2.block _ (by omega)]; exact Z19.out
 have yx : w3.heap[x]? = some (.cells zs t (0, 0)) := by rw [hu3.block _ (by omega) (by omega), hb2.block _ (by omega)]; exact K9.out
 have yb : Below w.heap.size w w3 := (B9.out.trans (hb2.mono (by omega))).trans ⟨hu3.os, hu3.tape, hu3.output, hu3.size, fun k hk => hu3.block k (by omega) (by omega)⟩
 have xs : x ≠ s3 := by omega
 have D3 := Lib.hid (HF.out x (x + 1) 2 s3 w3 yx (by omega) xs hb3)
 have Y0 := Lib.hid y0
 have Y1 := Lib.hid y1
 have YB := Lib.hid yb
 have I3 := Lib.hid hid3
 clear y0 y1 yb yx hb3 hid3 hu3 hR2 hb2 z9 hz2 RQ HF HG R9 Z09 Z19 B9 K9 X2 Q2 B2 e1'
 go_wp2_with fail
 refine D3.out.mono ?_
 rintro e w5 ⟨rfl, hp5, hu5⟩
 have e1' := E1.out
 have hz2 := Z2.out
 have z5 := hu5.size
 have q1 : w5.cell? ⟨x + 1, 1, none⟩ = some (.int .u32 p.f1) := (hu5.low 1 (by omega)).trans I3.out
 have y0 := (hu5.block w.heap.size (by omega) (by omega)).trans Y0.out
 have y1 := (hu5.block (w.heap.size + 1) (by omega) (by omega)).trans Y1.out
 have yb : Below w.heap.size w w5 := YB.out.trans ⟨hu5.os, hu5.tape, hu5.output, hu5.size, fun k hk => hu5.block k (by omega) (by omega)⟩
 have C3 := Lib.hid (hp5 w5 (Below.refl _ _))
 have zz := Lib.hid (show w.heap.size + 1 < w5.heap.size by omega)
 have Y05 := Lib.hid y0
 have Y15 := Lib.hid y1
 have YB5 := Lib.hid yb
 clear hp5 hu5 y0 y1 yb D3 Y0 Y1 YB I3 z3 z5 e1' hz2 xs hs3
 generalize hid0 : p.f1 = id at *
 clear hid0
 go_wp2_with fail
 refine C3.out.mono ?_
 rintro e w4 ⟨P, rfl, hP, hb4⟩
 have zz := zz.out
 have z4 := hb4.size
 have z4' : w5.heap.size ≤ w4.heap.size := z4
 have hP9 := hP.now
 have pone := hP9.one
 have pinf := zE9 hP9.size
 have PS := Lib.hid (show P.size = pZero.size from hP9.size)
 have y0 : w4.heap[w.heap.size]? = some (.cells pZero 29 (0, 0)) := by rw [hb4.block _ (by show w.heap.size < w5.heap.size; omega)]; exact Y05.out
 have y1 : w4.heap[w.heap.size + 1]? = some (.cells #[.int .i64 0] 3 (0, 0)) := by rw [hb4.block _ (by show w.heap.size + 1 < w5.heap.size; omega)]; exact Y15.out
 have yb : Below w.heap.size w w4 := YB5.out.trans (hb4.mono (by omega))
 obtain ⟨W5, hW5⟩ : ∃ W, w4.setRow w.heap.size P = W := ⟨_, rfl⟩
 obtain ⟨W6, hW6⟩ : ∃ W, W5.setRow w.heap.size P = W := ⟨_, rfl⟩
 have a5 : W5.heap[w.heap.size]? = some (.cells P 29 (0, 0)) := by rw [← hW5]; exact zAg y0
 have b5 : W5.heap[w.heap.size + 1]? = some (.cells #[.int .i64 0] 3 (0, 0)) := by rw [← hW5, setRow_other _ _ _ _ (by omega)]; exact y1
 have t5 : Below w.heap.size w W5 := by rw [← hW5]; exact ⟨yb.os, yb.tape, yb.output, by rw [setRow_size]; exact yb.size, fun k hk => by rw [setRow_other _ _ _ _ (by omega)]; exact yb.block k hk⟩
 have a6 : W6.heap[w.heap.size]? = some (.cells P 29 (0, 0)) := by rw [← hW6]; exact zAg a5
 have b6 : W6.heap[w.heap.size + 1]? = some (.cells #[.int .i64 0] 3 (0, 0)) := by rw [← hW6, setRow_other _ _ _ _ (by omega)]; exact b5
 have t6 : Below w.heap.size w W6 := by rw [← hW6]; exact ⟨t5.os, t5.tape, t5.output, by rw [setRow_size]; exact t5.size, fun k hk => by rw [setRow_other _ _ _ _ (by omega)]; exact t5.block k hk⟩
 have c6 : W6.cell? ⟨w.heap.size + 1, 0, none⟩ = some (.int .i64 0) := by rw [zAA b6]; rfl
 have f6 : W6.frozen? ⟨w.heap.size + 1, 0, none⟩ = false := zAP b6 0
 have hP7 : PkV (W6.setCell ⟨w.heap.size + 1, 0, none⟩ (.int .i64 0)) P p := by
  refine hP _ ?_ (fun k hk _ => ?_)
  ·rw [show (W6.setCell ⟨w.heap.size + 1, 0, none⟩ (.int .i64 0)).heap.size = W6.heap.size from by simp [World.setCell], ← hW6, setRow_size, ← hW5, setRow_size]
   exact Nat.le_refl _
  ·have hk' : w5.heap.size ≤ k := hk
   rw [Below.heap_setCell _ _ _ _ (by show k ≠ w.heap.size + 1; omega), ← hW6, setRow_other _ _ _ _ (by omega), ← hW5, setRow_other _ _ _ _ (by omega)]
 have V0 := Lib.hid y0
 have X5 := Lib.hid hW5
 have X6 := Lib.hid hW6
 have A5 := Lib.hid a5
 have A6 := Lib.hid a6
 have T6 := Lib.hid t6
 have P7 := Lib.hid hP7
 have PI := Lib.hid pinf
 have PO := Lib.hid pone
 clear y0 y1 yb a5 b5 t5 a6 b6 t6 hW5 hW6 hb4 C3 Y05 Y15 YB5 q1 hP hP9 hP7 pone pinf
 go_wp2_with (first
  | (refine wpList_store_row rfl 29 _ _ rfl w.heap.size P rfl rfl 29 pZero V0.out PI.out PS.out.symm PO.out ?_; rw [X5.out])
  | (refine wpList_load_row rfl 29 _ rfl w.heap.size rfl 29 P (0, 0) _ A5.out Tryz.underlying29 rfl PI.out ?_)
  | (refine wpList_store_row rfl 29 _ _ rfl w.heap.size P rfl rfl 29 P A5.out PI.out rfl PO.out ?_; rw [X6.out]))
 refine leaves_cons (f := 28) (args := #[.pointer (some ⟨w.heap.size, 0, none⟩), .pointer (some ⟨w.heap.size + 1, 0, none⟩)]) (by simp) (by simp [go_sem]) ?_
 refine (zC7 _ _ _).mono ?_
 rintro e u' w'' ⟨rfl, rfl, rfl⟩
 have r1 : (W6.setCell ⟨w.heap.size + 1, 0, none⟩ (.int .i64 0)).heap[w.heap.size]? = some (.cells P 29 (0, 0)) := by rw [Below.heap_setCell _ _ _ _ (by show w.heap.size ≠ w.heap.size + 1; omega)]; exact A6.out
 have r2 : (W6.setCell ⟨w.heap.size + 1, 0, none⟩ (.int .i64 0)).cell? ⟨w.heap.size + 1, 0, none⟩ = some (.int .i64 0) := zBT c6
 have hfin : Below w.heap.size w (W6.setCell ⟨w.heap.size + 1, 0, none⟩ (.int .i64 0)) := T6.out.setCell (by simp) _
 have hP7 := P7.out
 generalize W6.setCell ⟨w.heap.size + 1, 0, none⟩ (.int .i64 0) = W7 at *
 have hl : (loadVar 3 ⟨w.heap.size + 1, 0, none⟩).run Tryz.prog W7 = .ok (.int .i64 0) W7 := by simp [go_sem, r2]
 exact ⟨_, results_cc Tryz.results11 _ _ w.heap.size (w.heap.size + 1) 29 P (0, 0) _ _ rfl rfl r1 Tryz.underlying29 rfl PI.out hl, P, rfl, hP7, hfin⟩
theorem zLo (M : Int) (p : Pk) (s : Sound p) (r : List UInt8) (hM : ((inner p).length : Int) ≤ M) : zB5 M (zAw p ++ r) = some (inner p) := by
 have hi := s.inner_len
 rw [zCV, List.append_assoc]
 unfold zB5
 rw [zC8 _ _ (by omega) (by omega), if_neg (by rw [List.length_append, zAj]; omega), if_neg (by omega), if_neg (by omega), if_neg (by rw [List.length_append, List.length_append, zAj]; omega)]
 rw [List.drop_append_of_le_length (by rw [zAj]; exact Nat.le_refl _), List.drop_of_length_le (by rw [zAj]; exact Nat.le_refl _), List.nil_append, Int.toNat_natCast, List.take_left]
theorem zK3 (M : Int) (p : Pk) (s : Sound p) (r : List UInt8) (hM : M < ((inner p).length : Int)) : zB5 M (zAw p ++ r) = none := by
 have hi := s.inner_len
 rw [zCV, List.append_assoc]
 unfold zB5
 rw [zC8 _ _ (by omega) (by omega), if_neg (by rw [List.length_append, zAj]; omega), if_neg (by omega), if_pos hM]
theorem zMs (p : Pk) (s : Sound p) (b : ByteArray) (r : List UInt8) (hb : tl b = zAw p ++ r) : (∀ w : World, (Instr.index 9 (.string b) (.int .i64 4)).run Tryz.prog w = .ok (.int .u8 p.f0) w) ∧ 4 < b.size := by
 have e : (tl b)[4]? = some (bt p.f0) := by
  rw [hb, zCV]
  unfold inner
  rfl
 have h := zNb b _ e
 rw [T27.bt s.ok.ty] at h
 refine ⟨h, ?_⟩
 have h2 := (List.getElem?_eq_some_iff.1 e).1
 rwa [zAH] at h2
theorem zMb (p : Pk) (s : Sound p) (h12 : ¬ (p.f0 = 1 ∨ p.f0 = 2)) (b : ByteArray) (r : List UInt8) (hb : tl b = zAw p ++ r) (hs : b.size ≤ 1000000000) (M : Int) (hM0 : 0 ≤ M) (hM : M ≤ 1000000000) (hle : ((inner p).length : Int) ≤ M) (w : World) :
  Calls Tryz.prog 11 #[.string b, .int .u32 M] w (zLg p w) := by
 obtain ⟨hi, h4⟩ := zMs p s b r hb
 have hg : zB5 M (tl b) = some (inner p) := by rw [hb]; exact zLo M p s r hle
 have ht := s.ok.ty
 obtain ⟨_, ⟨i0, i1⟩, _⟩ := s.g
 have hc := ht
 unfold T27 at hc
 rcases hc with h | h | h | h | h | h | h | h | h | h | h | h | h | h | h | h | h | h | h | h | h | h | h | h | h | h | h
 ·exact absurd (.inl h) h12
 ·exact absurd (.inr h) h12
 ·exact zAr p _ _ _ _ (zKV p s h) (fun w => by rw [h]; exact zIo w) ht h12 (by unfold zBf; omega) i0 i1 b M w hi h4 hs hM0 hM hg
 ·exact zAr p _ _ _ _ (zIt p s h) (fun w => by rw [h]; exact zGd w) ht h12 (by unfold zBf; omega) i0 i1 b M w hi h4 hs hM0 hM hg
 ·exact zAr p _ _ _ _ (zKU p s h) (fun w => by rw [h]; exact zIp w) ht h12 (by unfold zBf; omega) i0 i1 b M w hi h4 hs hM0 hM hg
 ·exact zAr p _ _ _ _ (zJA p s h) (fun w => by rw [h]; exact zHj w) ht h12 (by unfold zBf; omega) i0 i1 b M w hi h4 hs hM0 hM hg
 ·exact zAr p _ _ _ _ (zIv p s h) (fun w => by rw [h]; exact zHk w) ht h12 (by unfold zBf; omega) i0 i1 b M w hi h4 hs hM0 hM hg
 ·exact zAr p _ _ _ _ (zIu p s h) (fun w => by rw [h]; exact zHl w) ht h12 (by unfold zBf; omega) i0 i1 b M w hi h4 hs hM0 hM hg
 ·exact zAr p _ _ _ _ (zGj p s h) (fun w => by rw [h]; exact zF1 w) ht h12 (by unfold zBf; omega) i0 i1 b M w hi h4 hs hM0 hM hg
 ·exact zAr p _ _ _ _ (zF7 p s h) (fun w => by rw [h]; exact zEy w) ht h12 (by unfold zBf; omega) i0 i1 b M w hi h4 hs hM0 hM hg
 ·exact zAr p _ _ _ _ (zGh p s h) (fun w => by rw [h]; exact zF2 w) ht h12 (by unfold zBf; omega) i0 i1 b M w hi h4 hs hM0 hM hg
 ·exact zAr p _ _ _ _ (zGg p s h) (fun w => by rw [h]; exact zF3 w) ht h12 (by unfold zBf; omega) i0 i1 b M w hi h4 hs hM0 hM hg
 ·exact zAr p _ _ _ _ (zHp p s h) (fun w => by rw [h]; exact zGe w) ht h12 (by unfold zBf; omega) i0 i1 b M w hi h4 hs hM0 hM hg
 ·exact zAr p _ _ _ _ (zIx p s h) (fun w => by rw [h]; exact zHm w) ht h12 (by unfold zBf; omega) i0 i1 b M w hi h4 hs hM0 hM hg
 ·exact zAr p _ _ _ _ (zIw p s h) (fun w => by rw [h]; exact zHn w) ht h12 (by unfold zBf; omega) i0 i1 b M w hi h4 hs hM0 hM hg
 ·exact zAr p _ _ _ _ (zF5 p s h) (fun w => by rw [h]; exact zEz w) ht h12 (by unfold zBf; omega) i0 i1 b M w hi h4 hs hM0 hM hg
 ·exact zAr p _ _ _ _ (zKT p s h) (fun w => by rw [h]; exact zIq w) ht h12 (by unfold zBf; omega) i0 i1 b M w hi h4 hs hM0 hM hg
 ·exact zAr p _ _ _ _ (zHq p s h) (fun w => by rw [h]; exact zGf w) ht h12 (by unfold zBf; omega) i0 i1 b M w hi h4 hs hM0 hM hg
 ·exact zAr p _ _ _ _ (zF6 p s h) (fun w => by rw [h]; exact zFA w) ht h12 (by unfold zBf; omega) i0 i1 b M w hi h4 hs hM0 hM hg
 ·exact zAr p _ _ _ _ (zGi p s h) (fun w => by rw [h]; exact zF4 w) ht h12 (by unfold zBf; omega) i0 i1 b M w hi h4 hs hM0 hM hg
 ·exact zBk p _ _ _ _ (zHr p s h) (fun w => by rw [h]; exact zIr w) ht h12 i0 i1 b M w hi h4 hs hM0 hM hg
 ·exact zBk p _ _ _ _ (zHo p s h) (fun w => by rw [h]; exact zIs w) ht h12 i0 i1 b M w hi h4 hs hM0 hM hg
 ·exact zBk p _ _ _ _ (zKZ p s h) (fun w => by rw [h]; exact zLh w) ht h12 i0 i1 b M w hi h4 hs hM0 hM hg
 ·exact zBk p _ _ _ _ (zK0 p s h) (fun w => by rw [h]; exact zLi w) ht h12 i0 i1 b M w hi h4 hs hM0 hM hg
 ·exact zBk p _ _ _ _ (zIy p s h) (fun w => by rw [h]; exact zKS w) ht h12 i0 i1 b M w hi h4 hs hM0 hM hg
 ·exact zBk p _ _ _ _ (zD3 p s h) (fun w => by rw [h]; exact zDq w) ht h12 i0 i1 b M w hi h4 hs hM0 hM hg
 ·exact zAr p _ _ _ _ (zFc p s h) (fun w => by rw [h]; exact zFB w) ht h12 (by unfold zBf; omega) i0 i1 b M w hi h4 hs hM0 hM hg
theorem zLp (p : Pk) (s : Sound p) (h12 : ¬ (p.f0 = 1 ∨ p.f0 = 2)) (b : ByteArray) (r : List UInt8) (hb : tl b = zAw p ++ r) (hs : b.size ≤ 1000000000) (M : Int) (hM0 : 0 ≤ M) (hM : M ≤ 1000000000) (hlt : M < ((inner p).length : Int)) (w : World) :
  Calls Tryz.prog 11 #[.string b, .int .u32 M] w fun e w' => e = .returned (.tuple #[.agg pZero, .int .i64 1]) ∧ Below w.heap.size w w' := by
 obtain ⟨hi, h4⟩ := zMs p s b r hb
 have hg : zB5 M (tl b) = none := by rw [hb]; exact zK3 M p s r hlt
 have hr := T27.range s.ok.ty
 have n1 : (p.f0 == 1) = false := by simp; omega
 have n2 : (p.f0 == 2) = false := by simp; omega
 by_cases hR : zBf p.f0
 ·exact zJe _ M p.f0 w hi h4 hs hM0 hM hg hr.1 hr.2 n1 n2 hR
 ·exact zJd _ M p.f0 w hi h4 hs hM0 hM hg hr.1 hr.2 n1 n2 hR
theorem zLq (p : Pk) (s : Sound p) {w : World} {P Q : Array Value} (hP : PkV w P p) (hQ : PkV w Q p) : Calls Tryz.prog 12 #[.agg P, .agg Q] w fun r w' => r = .returned (.bool true) ∧ Below w.heap.size w w' := by
 obtain ⟨A1, c1, A2, c2, A3, c3, rfl, h1, h2, h3⟩ := hP
 obtain ⟨B1, d1, B2, d2, B3, d3, rfl, g1, g2, g3⟩ := hQ
 have h9 := zDp s.ok.told
 refine (zMo p p A1 c1 A2 c2 A3 c3 B1 d1 B2 d2 B3 d3 w h1 g1 h2 g2 h3 g3 (by omega) (by have := s.ok.n10; omega) (by have := s.ok.n11; omega) (fun e he => by have := zDp (s.ok.ntold e he); omega)).mono ?_
 rintro e w' ⟨rfl, hb⟩
 exact ⟨by rw [eqB_iff.2 rfl], hb⟩
theorem zLr (p : Pk) (A1 : Option Addr) (c1 : Nat) (A2 : Option Addr) (c2 : Nat) (A3 : Option Addr) (c3 : Nat) (t : Int) (w : World) (k1 : SlE w A1 c1 p.f9.f7) (k2 : SlN w A2 c2 p.f10) (k3 : SlE w A3 c3 p.f11) (g : zE1 p) (t0 : 0 ≤ t) (t1 : t ≤ 65535) :
  Calls Tryz.prog 5 #[.agg (pkC p A1 c1 A2 c2 A3 c3), .int .u16 t] w fun r w' => r = .returned (.bool true) ∧ Below w.heap.size w w' := by
 obtain ⟨hb0, k0⟩ := zOX w (pkC p A1 c1 A2 c2 A3 c3)
 generalize hW0 : w.alloc (.cells (pkC p A1 c1 A2 c2 A3 c3) 29) = W0 at *
 have C := zOY p A1 c1 A2 c2 A3 c3 W0 (k1.below hb0) (k2.below hb0) (k3.below hb0)
 have PC := Lib.hid (fun (fp : zM0 p) (W : World) h1 h2 h3 => zM2 p A1 c1 A2 c2 A3 c3 W h1 h2 h3 fp)
 have WC := Lib.hid (fun (s : Sound p) (W : World) h1 h2 h3 => zL3 p s A1 c1 A2 c2 A3 c3 W h1 h2 h3)
 have PI : (Tryz.prog.info? 29).map (·.size) = some (pkC p A1 c1 A2 c2 A3 c3).size := zAo
 have hP0 : (pkC p A1 c1 A2 c2 A3 c3)[0]? = some (.int .i64 p.f0) := rfl
 have PV := Lib.hid (fun (W : World) (h1 : SlE W A1 c1 p.f9.f7) (h2 : SlN W A2 c2 p.f10) (h3 : SlE W A3 c3 p.f11) => (⟨A1, c1, A2, c2, A3, c3, rfl, h1, h2, h3⟩ : PkV W (pkC p A1 c1 A2 c2 A3 c3) p))
 generalize pkC p A1 c1 A2 c2 A3 c3 = P at *
 have HP0 := Lib.hid hP0
 clear hP0
 have C := Lib.hid C
 have X0 := Lib.hid hW0
 have B0 := Lib.hid hb0
 have K0 := Lib.hid k0
 have R0 := Lib.hid (And.intro (k1.below hb0) (And.intro (k2.below hb0) (k3.below hb0)))
 have T := Lib.hid (And.intro t0 t1)
 have PI := Lib.hid PI
 clear hW0 hb0 k0 k1 k2 k3 t0 t1
 go_enter Tryz.func5, Tryz.ntmps5
 go_wp2_with (first
  | (refine wpList_boxTo rfl 29 _ rfl (some 2) rfl w.heap.size rfl P rfl ?_; rw [X0.out])
  | refine wpList_load_row rfl 29 _ rfl w.heap.size rfl 29 P (0, 0) _ K0.out Tryz.underlying29 rfl PI.out ?_)
 refine C.out.mono ?_
 rintro r w1 ⟨⟨fit, rfl, hfit⟩, hb1⟩
 have z0 := zAC K0.out
 have k1 := (hb1.block _ z0).trans K0.out
 have hB1 : Below w.heap.size w w1 := B0.out.trans (hb1.mono B0.out.size)
 have r1 := And.intro (R0.out.1.below hb1) (And.intro (R0.out.2.1.below hb1) (R0.out.2.2.below hb1))
 have B1 := Lib.hid hB1
 have K1 := Lib.hid k1
 have R1 := Lib.hid r1
 clear hb1 hB1 k1 r1 C X0 B0 K0 R0 z0
 cases fit with
 | false =>
  go_wp2_with fail
  go_ret
  exact ⟨rfl, B1.out⟩
 | true =>
  have Q := Lib.hid (PC.out (hfit rfl) w1 R1.out.1 R1.out.2.1 R1.out.2.2)
  clear hfit PC
  go_wp2_with (refine wpList_load_row rfl 29 _ rfl w.heap.size rfl 29 P (0, 0) _ K1.out Tryz.underlying29 rfl PI.out ?_)
  refine Q.out.mono ?_
  rintro r w2 ⟨⟨r, rfl, hyes⟩, hb2⟩
  have z1 := zAC K1.out
  have k2 := (hb2.block _ z1).trans K1.out
  have hB2 : Below w.heap.size w w2 := B1.out.trans (hb2.mono B1.out.size)
  have B2 := Lib.hid hB2
  have K2 := Lib.hid k2
  have R2 := Lib.hid (And.intro (R1.out.1.below hb2) (And.intro (R1.out.2.1.below hb2) (R1.out.2.2.below hb2)))
  clear hb2 hB2 k2 Q B1 K1 R1 z1
  cases r with
  | false =>
   go_wp2_with fail
   go_ret
   exact ⟨rfl, B2.out⟩
  | true =>
   have S : Sound p := ⟨hyes rfl, g⟩
   have c2 : w2.cell? ⟨w.heap.size, 0, none⟩ = some (.int .i64 p.f0) := by rw [zAA K2.out]; exact HP0.out
   have WR := Lib.hid (WC.out S w2 R2.out.1 R2.out.2.1 R2.out.2.2)
   clear hyes WC g
   by_cases h1 : p.f0 = 1
   ·have e1 : (p.f0 == 1) = true := by simp; omega
    clear h1 S PV WR R2
    generalize p.f0 = ty at *
    go_wp2_with fail
    go_ret
    exact ⟨rfl, B2.out⟩
   have e1 : (p.f0 == 1) = false := by simp; omega
   by_cases h2 : p.f0 = 2
   ·have e2 : (p.f0 == 2) = true := by simp; omega
    clear h1 h2 S PV WR R2
    generalize p.f0 = ty at *
    go_wp2_with fail
    go_ret
    exact ⟨rfl, B2.out⟩
   have e2 : (p.f0 == 2) = false := by simp; omega
   by_cases h5 : t < 5
   ·clear h1 h2 S PV WR R2
    generalize p.f0 = ty at *
    go_wp2_with fail
    go_ret
    exact ⟨rfl, B2.out⟩
   have hbig := zL4 p S
   have hin := S.inner_len
   have hil : (zAw p).length = 4 + (inner p).length := by rw [zCV, List.length_append, zAj]
   have hsz : (bs (zAw p)).size = (zAw p).length := by simp [bs, ByteArray.size]
   have hb12 : ¬ (p.f0 = 1 ∨ p.f0 = 2) := by omega
   have RA := Lib.hid (fun (w : World) h => zMb p S hb12 (bs (zAw p)) [] (by rw [zMd, List.append_nil]) (by rw [hsz]; omega) t T.out.1 (by have := T.out; omega) h w)
   have RO := Lib.hid (fun (w : World) h => zLp p S hb12 (bs (zAw p)) [] (by rw [zMd, List.append_nil]) (by rw [hsz]; omega) t T.out.1 (by have := T.out; omega) h w)
   have SS := Lib.hid (fun (W : World) (P Q : Array Value) (h : PkV W P p) (h' : PkV W Q p) => zLq p S h h')
   have PV2 := Lib.hid (PV.out w2 R2.out.1 R2.out.2.1 R2.out.2.2)
   clear h1 h2 hb12 S PV R2 HP0
   generalize p.f0 = ty at *
   generalize zAw p = L at *
   generalize (inner p).length = il at *
   have ut : IntKind.i64.wrap t = t := by have := T.out; unfold IntKind.wrap; simp [IntKind.signed, IntKind.bits]; omega
   have uu : IntKind.u32.wrap t = t := by have := T.out; unfold IntKind.wrap; simp [IntKind.signed, IntKind.bits]; omega
   have uw : IntKind.i64.wrap ((L.length : Int) - 4) = (L.length : Int) - 4 := by unfold IntKind.wrap; simp [IntKind.signed, IntKind.bits]; omega
   go_wp2_with (refine wpList_load_row rfl 29 _ rfl w.heap.size rfl 29 P (0, 0) _ K2.out Tryz.underlying29 rfl PI.out ?_)
   refine WR.out.mono ?_
   rintro r w3 ⟨rfl, hb3⟩
   have B3 := Lib.hid (B2.out.trans (hb3.mono B2.out.size))
   have K3 := Lib.hid ((hb3.block _ (zAC K2.out)).trans K2.out)
   have PV3 := Lib.hid (PkV.below PV2.out hb3)
   clear hb3 WR B2 K2 PV2 c2
   by_cases hle : ((il : Nat) : Int) ≤ t
   ·have hgt : ¬ t < (L.length : Int) - 4 := by omega
    have RN := Lib.hid (RA.out w3 hle)
    clear RA RO
    go_wp2_with fail
    refine RN.out.mono ?_
    rintro r w4 ⟨Q, rfl, hQ, hb4⟩
    have QS : Q.size = pZero.size := hQ.size
    have QO := hQ.one
    have QI := zE9 hQ.size
    obtain ⟨W5, hW5⟩ : ∃ W, w4.alloc (.cells pZero 29) = W := ⟨_, rfl⟩
    obtain ⟨W6, hW6⟩ : ∃ W, W5.setRow w4.heap.size Q = W := ⟨_, rfl⟩
    have k5 : W5.heap[w4.heap.size]? = some (.cells pZero 29 (0, 0)) := by rw [← hW5]; exact heap_alloc_new _ _
    have k6 : W6.heap[w4.heap.size]? = some (.cells Q 29 (0, 0)) := by rw [← hW6]; exact zAg k5
    have b46 : Below w4.heap.size w4 W6 := by rw [← hW6, ← hW5]; exact zBP (Below.refl _ _) (Nat.le_refl _) _ _ _
    have l3 := zAC K3.out
    have z4 := hb4.size
    have kp : W6.heap[w.heap.size]? = some (.cells P 29 (0, 0)) := (b46.block _ (by omega)).trans ((hb4.block _ l3).trans K3.out)
    have SC := Lib.hid (SS.out W6 P Q (PkV.below (PkV.below PV3.out hb4) b46) (hQ.below b46))
    have X5 := Lib.hid hW5
    have X6 := Lib.hid hW6
    have K5 := Lib.hid k5
    have K6 := Lib.hid k6
    have KP := Lib.hid kp
    have B6 := Lib.hid (B3.out.trans ((hb4.mono B3.out.size).trans (b46.mono (Nat.le_trans B3.out.size z4))))
    have QS := Lib.hid QS
    have QO := Lib.hid QO
    have QI := Lib.hid QI
    clear hW5 hW6 k5 k6 kp b46 z4 l3 hb4 hQ RN B3 K3 PV3 SS hle
    go_wp2_with (first
     | (go_at_call 12; refine SC.out.mono ?_; rintro e w7 ⟨rfl, hb7⟩)
     | (go_at_call 13; refine (zMh _).mono ?_; rintro e w' ⟨rfl, hb⟩)
     | (refine wpList_allocTo rfl (some 7) rfl (.pointer (some ⟨w4.heap.size, 0, none⟩)) (.cells pZero 29) (by as_aux_lemma => kernel_rfl) ?_; rw [X5.out])
     | (refine wpList_store_row rfl 29 _ _ rfl w4.heap.size Q rfl rfl 29 pZero K5.out QI.out QS.out.symm QO.out ?_; rw [X6.out])
     | refine zCj (by rfl) 29 _ rfl w.heap.size rfl 29 P (0, 0) _ KP.out Tryz.underlying29 rfl PI.out ?_
     | refine zCj (by rfl) 29 _ rfl w4.heap.size rfl 29 Q (0, 0) _ K6.out Tryz.underlying29 rfl QI.out ?_)
    go_ret
    exact ⟨rfl, (B6.out.trans (hb7.mono B6.out.size)).trans (hb.mono (Nat.le_trans B6.out.size hb7.size))⟩
   ·have hgt : t < (L.length : Int) - 4 := by omega
    have RN := Lib.hid (RO.out w3 (by omega))
    clear RA RO SS PV3 K3
    go_wp2_with fail
    refine RN.out.mono ?_
    rintro r w4 ⟨rfl, hb4⟩
    have B4 := Lib.hid (B3.out.trans (hb4.mono B3.out.size))
    clear hb4 RN B3
    obtain ⟨W5, hW5⟩ : ∃ W, w4.alloc (.cells pZero 29) = W := ⟨_, rfl⟩
    obtain ⟨W6, hW6⟩ : ∃ W, W5.setRow w4.heap.size pZero = W := ⟨_, rfl⟩
    have k5 : W5.heap[w4.heap.size]? = some (.cells pZero 29 (0, 0)) := by rw [← hW5]; exact heap_alloc_new _ _
    have hb6 : Below w.heap.size w W6 := by rw [← hW6, ← hW5]; exact zBP B4.out B4.out.size _ _ _
    have X5 := Lib.hid hW5
    have X6 := Lib.hid hW6
    have K5 := Lib.hid k5
    have B6 := Lib.hid hb6
    clear hW5 hW6 k5 hb6 B4
    go_wp2_with (first
     | (go_at_call 13; refine (zMh _).mono ?_; rintro e w' ⟨rfl, hb⟩)
     | (refine wpList_allocTo rfl (some 7) rfl (.pointer (some ⟨w4.heap.size, 0, none⟩)) (.cells pZero 29) (by as_aux_lemma => kernel_rfl) ?_; rw [X5.out])
     | (refine wpList_store_row rfl 29 _ _ rfl w4.heap.size pZero rfl rfl 29 pZero K5.out zC0 rfl zDb ?_; rw [X6.out]))
    go_ret
    exact ⟨rfl, B6.out.trans (hb.mono B6.out.size)⟩
theorem zNh (cs : Array Value) (y : Pk) (t : Int) (W : World) (hK : k29.K W y cs.toList) (hG : zE1 y) (ht : 0 ≤ t ∧ t ≤ 65535) :
  Calls Tryz.prog 5 #[.agg cs, .int .u16 t] W fun r w' => r = .returned (.bool true) ∧ Below W.heap.size W w' := by
 obtain ⟨A1, c1, A2, c2, A3, c3, rfl, h1, h2, h3⟩ := zM6 hK
 exact zLr y A1 c1 A2 c2 A3 c3 t W h1 h2 h3 hG ht.1 ht.2
end Go.Proofs.YtgnficcjnijdbaaGreat
namespace Go.Proofs.YtgnficcjnijdbaaGreat
open Go.RowKit Go.Great Go.ChangeShapes Go.WideShapes Go.ChangeAt Go.Proofs.YtgnficcjnijdbaaGreatW.PrintWords Go.Proofs.YtgnficcjnijdbaaGreat.KK
open Go.ChangeMaps (open_string shut_string)
theorem zK4 : ownKnob Tryz.prog.godebug = none := by kernel_rfl
theorem zJC : laidOutB Tryz.prog = true := by kernel_rfl
set_option maxRecDepth 100000 in
theorem zGp (os : Os) (started : os.Started) (H : Type) (enc : TypeId × Value → H) :
  ReturnsInHanded {} Tryz.checked os 5 .any (Rows.fnWireLongSpec.pre6 enc Tryz.prog Tryz.f5 Rows.fnWireLongRow.domain false) (Rows.fnWireLongSpec.post enc Tryz.prog Tryz.f5 false true false false) := by
 refine returnsInHanded_of_change (C := Tryz.checked) zK4 started (by kernel_rfl) Tryz.func5
  (ChangeSpec.witness6 (enc := enc) (C := Tryz.checked) false ⟨#[], #[.agg pZero, .int .u16 0], []⟩ 8 (by kernel_rfl) (by kernel_rfl) (by kernel_rfl) (by kernel_rfl)) ?_
 intro W base args ds gs before hval0 hW hcnd _
 have hval : ∀ (j : Nat) t v, Tryz.f5.params[j]? = some t → args[j]? = some v → Value.okWide Tryz.prog W .any base t v := hval0
 have hW' := hW
 have hlt : ∀ x ∈ before, x.block < W.heap.size := fun x hx => hW.lt x hx
 obtain ⟨p, q, hA0, hV, rfl, hfz, hnd⟩ := hW
 have hA : DataW.TrodAll enc Tryz.prog W 0 (fun _ => true) true Tryz.f5.params.toList args.toList ds p := hA0
 rw [Tryz.params5] at hA hval
 obtain ⟨v0, vs0, d0, ds0, p0, q0, hargs, rfl, rfl, h0, r0⟩ := trodAll_cons hA
 obtain ⟨v1, vs1, d1, ds1, p1, q1, rfl, rfl, rfl, h1, r1⟩ := trodAll_cons r0
 obtain ⟨rfl, rfl, rfl⟩ := trodAll_nil r1
 obtain rfl : args = #[v0, v1] := by cases args; simp_all
 obtain ⟨rfl, rfl⟩ := trodVars_none hV
 simp only [List.append_nil] at hW' hlt
 obtain ⟨cs0, rfl, _⟩ := okWide_struct Tryz.underlying29 (hval 0 29 v0 rfl rfl)
 have t0 := h0
 obtain ⟨fuel0, hf0⟩ := h0
 obtain ⟨y0, hK0, hG0⟩ := opnPacket.out hf0
 obtain ⟨a1, rfl, rfl, rfl, w1⟩ := open_int Tryz.underlying45 (hval 1 45 v1 rfl rfl) h1
 have g1 : 0 ≤ a1 ∧ a1 ≤ 65535 := by
  have h := w1
  simpa [Lit.wf, IntKind.min, IntKind.max, IntKind.signed, IntKind.bits] using h
 clear hA0 hval0
 refine (zNh cs0 y0 a1 W hK0 hG0 g1).mono fun e W' ⟨he, hg⟩ => ?_
 subst he
 exact ⟨_, rfl, zFP (pa := _) (pv := []) hW' (fun _ _ _ => (trodAll_cons_mk (shut_bool Tryz.underlying4 _) trodAll_mk0))
  (fun sp hsp0 => by
   have hsp1 := hsp0
   have s0 := WideElems.Trod_stays zJC (by kernel_rfl) (of_decide_eq_true (by kernel_rfl)) t0 (fun x hx => hg.same (hlt x (by simp [hx]))) (fun x hx => hsp0 x (by simp [hx]))
   have r := (trodAll_cons_mk (s0) (trodAll_cons_mk (shut_int Tryz.underlying45 w1) trodAll_mk0))
   simp only [List.append_nil, List.nil_append] at r
   exact r) (fun _ _ => rfl) (by simp)
  hg (ok_one (by kernel_rfl) rfl (okWide_bool_mk Tryz.underlying4 _))⟩
theorem zHw : Tryz.pinned.checked.prog.funcNamed Rows.fnWireLongRow.func = some 5 := by kernel_rfl
theorem zHx : joinedFacts Tryz.pinned.checked.prog 5 Tryz.f5 Rows.fnWireLongSpec Rows.fnWireLongRow = true := by
 simp only [joinedFacts, Bool.and_eq_true]
 repeat' apply And.intro
 all_goals (as_aux_lemma => kernel_rfl)
theorem zJD : Tryz.f5.isInstance Tryz.pinned.checked.prog Rows.fnWireLongRow.origin Rows.fnWireLongRow.targs := of_decide_eq_true (by kernel_rfl)
theorem zJE : Tryz.f5.isWrapper Tryz.pinned.checked.prog Rows.fnWireLongRow.wrapper Rows.fnWireLongRow.mainSum := by
 unfold Func.isWrapper
 rw [if_neg (by decide +kernel)]
 exact ⟨rfl, rfl⟩
theorem longW_holds : Rows.FnWireLongSaid :=
 OpenClaim.holds_of_wide 5 Tryz.f5 rfl rfl rfl rfl rfl rfl rfl ⟨rfl, rfl, rfl, rfl, rfl⟩ rfl rfl rfl rfl rfl zHw Tryz.func5 zHx zJD zJE
  (fun os started H enc _ => zGp os started H enc)
end Go.Proofs.YtgnficcjnijdbaaGreat
