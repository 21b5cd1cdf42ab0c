/-
  The law's own measure: what it says when it says yes.
-/
import Derived.Test.Qxb6606015aZ2
import Derived.Test.Qxb6606015aZ3
import Derived.Test.Qxb6606015aZ5
import Derived.Test.Qxb6606015aZ6
namespace Go.Proofs.Qxb6606015a
open Go.RowKit
/-- What the law's own measure of its arguments says when it says yes. -/
def ZzPost (n1 n2 n3 n4 n5 n6 : Nat) (e : Ending) : Prop :=
  ∃ r : Bool, e = .returned (.bool r) ∧ (r = true → n1 ≤ 1048576 ∧ n2 ≤ 1048576 ∧ n3 ≤ 1048576 ∧ n4 ≤ 1048576 ∧ n5 ≤ 1048576 ∧ n6 ≤ 1048576)
theorem zz_no (n1 n2 n3 n4 n5 n6 : Nat) : ZzPost n1 n2 n3 n4 n5 n6 (.returned (.bool false)) := ⟨false, rfl, fun h => by cases h⟩
theorem zz_yes {n1 n2 n3 n4 n5 n6 : Nat} (h1 : n1 ≤ 1048576) (h2 : n2 ≤ 1048576) (h3 : n3 ≤ 1048576) (h4 : n4 ≤ 1048576) (h5 : n5 ≤ 1048576) (h6 : n6 ≤ 1048576) : ZzPost n1 n2 n3 n4 n5 n6 (.returned (.bool true)) := ⟨true, rfl, fun _ => ⟨h1, h2, h3, h4, h5, h6⟩⟩

theorem zz_ret {n1 n2 n3 n4 n5 n6 : Nat} {w : World} (t : Array Value) (h : t.getD 16 undef = .bool false) :
    bodyPost Try.prog Try.f6 (fun e w' => ZzPost n1 n2 n3 n4 n5 n6 e ∧ w' = w) .ret ⟨t, []⟩ w := by
  refine bodyPost_ret (v := .bool false) ?_ rfl ⟨zz_no _ _ _ _ _ _, rfl⟩
  simp [results, Try.results6, go_sem]
  simpa using h

set_option maxRecDepth 1000000 in
set_option maxHeartbeats 8000000 in
theorem zzBytes_any {lo : Nat} (a1 a2 a3 a4 a5 a6 a7 a8 : Option Addr) (n1 c1 n2 c2 n3 c3 n4 c4 n5 c5 n6 c6 n7 c7 n8 c8 : Nat) (ks ks' : List KeyD) (rs rs' : List RvD) (cs cs' : List Unit) (w : World)
    (h1 : Elems KeyC 3 lo w a1 n1 c1 ks) (h2 : Elems RvC 5 lo w a2 n2 c2 rs) (h3 : Elems CertC 3 lo w a3 n3 c3 cs)
    (h4 : Elems KeyC 3 lo w a4 n4 c4 ks') (h5 : Elems RvC 5 lo w a5 n5 c5 rs') (h6 : Elems CertC 3 lo w a6 n6 c6 cs') :
    Calls Try.prog 6 #[.slice a1 n1 c1, .slice a2 n2 c2, .slice a3 n3 c3, .slice a4 n4 c4, .slice a5 n5 c5, .slice a6 n6 c6, .slice a7 n7 c7, .slice a8 n8 c8] w fun e w' => ZzPost n1 n2 n3 n4 n5 n6 e ∧ w' = w := by
  have b1 := h1.bound
  have b2 := h2.bound
  have b3 := h3.bound
  have b4 := h4.bound
  have b5 := h5.bound
  have b6 := h6.bound
  have H1 : Hid (Elems KeyC 3 lo w a1 n1 c1 ks) := h1
  have H2 : Hid (Elems RvC 5 lo w a2 n2 c2 rs) := h2
  have H3 : Hid (Elems CertC 3 lo w a3 n3 c3 cs) := h3
  have H4 : Hid (Elems KeyC 3 lo w a4 n4 c4 ks') := h4
  have H5 : Hid (Elems RvC 5 lo w a5 n5 c5 rs') := h5
  have H6 : Hid (Elems CertC 3 lo w a6 n6 c6 cs') := h6
  clear h1 h2 h3 h4 h5 h6
  go_enter Try.func6, Try.ntmps6
  go_wp2
  all_goals first | (go_ret; exact ⟨zz_no _ _ _ _ _ _, rfl⟩) | skip
  go_loop [17, 18] (fun z i => (∃ r, z = .int .i64 r) ∧ ∃ k : Nat, k ≤ n1 ∧ i = .int .i64 k) (fun _ i => n1 - (intOf i).toNat)
  case atStart => exact ⟨⟨_, rfl⟩, 0, Nat.zero_le _, rfl⟩
  case round =>
    obtain ⟨⟨r, rfl⟩, k, hk, rfl⟩ := hrel
    by_cases hlt : k < n1
    · obtain ⟨b, off, f, d, rfl, hbl, hd, ⟨⟨x0, l0, d0, e0, s0⟩, ⟨x1, l1, d1, e1, s1⟩, e2⟩, hc⟩ := H1.out.elem k hlt
      have g0 := hc 0 (by omega)
      have g1 := hc 1 (by omega)
      rw [e0] at g0
      rw [e1] at g1
      simp only [Nat.add_zero] at g0
      clear hc e0 e1 e2 hd s0 s1
      go_wp2
      all_goals first | (go_ret; exact ⟨zz_no _ _ _ _ _ _, rfl⟩) | skip
      go_round
      case rel => exact ⟨⟨_, rfl⟩, k + 1, by omega, by go_num⟩
      case measure => simp [intOf]; omega
    · clear H1
      go_wp2
      all_goals first | (go_ret; exact ⟨zz_no _ _ _ _ _ _, rfl⟩) | skip
      clear hlt hk
      refine loop2 H2.out (fun t ht => zz_ret t ht) ?_
      clear H2
      intro r2 u16_2 u19_2 u20_2 u86_2 u87_2 u88_2 u89_2 u90_2 u91_2 u92_2 u93_2 u94_2 u95_2 u96_2 u97_2 u98_2 u99_2 u100_2 u101_2 u102_2 u103_2 u104_2 u105_2 u106_2 u107_2 u108_2 u109_2 u110_2 u111_2 u112_2 u113_2 u114_2 u115_2 u116_2 u117_2 u118_2 u119_2 u120_2 u121_2 u122_2 u123_2 u124_2 u125_2 u126_2 u127_2 u128_2 u129_2 u130_2 u131_2 u132_2 u133_2 u134_2 u135_2 u136_2 u137_2 u138_2 u139_2 u140_2 u141_2 u142_2 u143_2 u144_2 u145_2 u146_2 u147_2 u148_2 u149_2 u150_2 u151_2 u152_2 u153_2 u154_2 u155_2 u156_2 u157_2 u158_2 u159_2 u160_2 u161_2 u162_2 u163_2 u164_2 u165_2 u166_2 u167_2 u168_2 u169_2 u170_2 u171_2 u172_2 u173_2 u174_2 u175_2 u176_2 u177_2 u178_2 u179_2 u180_2 u181_2 u182_2 u183_2 u184_2 u185_2 u186_2 u187_2 u188_2 u189_2 u190_2 u191_2 u192_2 u193_2 u194_2 u195_2 u196_2 u197_2 u198_2 u199_2 u200_2 u201_2 u202_2 u203_2 u204_2 u205_2 u206_2 u207_2 u208_2 u209_2 u210_2 u211_2 u212_2 u213_2 u214_2 u215_2 u216_2 u217_2 u218_2 u219_2 u220_2 u221_2 u222_2 u223_2 u224_2 u225_2 u226_2 u227_2 u228_2 u229_2 u230_2 u231_2 u232_2 u233_2 u234_2 u235_2 u236_2 u237_2
      go_wp2
      all_goals first | (go_ret; exact ⟨zz_no _ _ _ _ _ _, rfl⟩) | skip
      refine loop3 H3.out (fun t ht => zz_ret t ht) ?_
      clear H3
      intro r3 u16_3 u21_3 u22_3 u247_3 u248_3 u249_3 u250_3 u251_3 u252_3 u253_3 u254_3 u255_3 u256_3 u257_3 u258_3 u259_3 u260_3 u261_3 u262_3 u263_3 u264_3 u265_3 u266_3 u267_3 u268_3 u269_3 u270_3 u271_3 u272_3 u273_3 u274_3 u275_3 u276_3 u277_3 u278_3 u279_3 u280_3 u281_3 u282_3 u283_3 u284_3 u285_3 u286_3 u287_3 u288_3 u289_3 u290_3 u291_3 u292_3 u293_3 u294_3 u295_3 u296_3 u297_3 u298_3 u299_3 u300_3 u301_3 u302_3 u303_3 u304_3 u305_3 u306_3 u307_3 u308_3 u309_3 u310_3 u311_3 u312_3 u313_3 u314_3 u315_3 u316_3 u317_3 u318_3 u319_3 u320_3 u321_3 u322_3 u323_3 u324_3 u325_3 u326_3 u327_3 u328_3 u329_3 u330_3 u331_3 u332_3 u333_3 u334_3 u335_3 u336_3 u337_3 u338_3 u339_3 u340_3 u341_3 u342_3 u343_3 u344_3 u345_3 u346_3 u347_3 u348_3 u349_3 u350_3 u351_3 u352_3 u353_3 u354_3 u355_3 u356_3 u357_3 u358_3 u359_3 u360_3 u361_3 u362_3 u363_3 u364_3 u365_3 u366_3 u367_3 u368_3 u369_3 u370_3 u371_3 u372_3 u373_3 u374_3 u375_3 u376_3 u377_3 u378_3 u379_3 u380_3 u381_3 u382_3 u383_3 u384_3 u385_3 u386_3 u387_3 u388_3 u389_3 u390_3 u391_3 u392_3 u393_3 u394_3 u395_3 u396_3 u397_3 u398_3 u399_3 u400_3 u401_3 u402_3 u403_3 u404_3 u405_3 u406_3 u407_3 u408_3 u409_3 u410_3 u411_3 u412_3 u413_3 u414_3 u415_3 u416_3
      go_wp2
      all_goals first | (go_ret; exact ⟨zz_no _ _ _ _ _ _, rfl⟩) | skip
      go_loop [17, 23] (fun z i => (∃ r, z = .int .i64 r) ∧ ∃ k : Nat, k ≤ n4 ∧ i = .int .i64 k) (fun _ i => n4 - (intOf i).toNat)
      case atStart => exact ⟨⟨_, rfl⟩, 0, Nat.zero_le _, rfl⟩
      case round =>
        obtain ⟨⟨r, rfl⟩, k, hk, rfl⟩ := hrel
        by_cases hlt : k < n4
        · obtain ⟨b, off, f, d, rfl, hbl, hd, ⟨⟨x0, l0, d0, e0, s0⟩, ⟨x1, l1, d1, e1, s1⟩, e2⟩, hc⟩ := H4.out.elem k hlt
          have g0 := hc 0 (by omega)
          have g1 := hc 1 (by omega)
          rw [e0] at g0
          rw [e1] at g1
          simp only [Nat.add_zero] at g0
          clear hc e0 e1 e2 hd s0 s1
          go_wp2
          all_goals first | (go_ret; exact ⟨zz_no _ _ _ _ _ _, rfl⟩) | skip
          go_round
          case rel => exact ⟨⟨_, rfl⟩, k + 1, by omega, by go_num⟩
          case measure => simp [intOf]; omega
        · clear H4
          go_wp2
          all_goals first | (go_ret; exact ⟨zz_no _ _ _ _ _ _, rfl⟩) | skip
          clear hlt hk
          refine loop5 H5.out (fun t ht => zz_ret t ht) ?_
          clear H5
          intro r5 u16_5 u24_5 u25_5 u475_5 u476_5 u477_5 u478_5 u479_5 u480_5 u481_5 u482_5 u483_5 u484_5 u485_5 u486_5 u487_5 u488_5 u489_5 u490_5 u491_5 u492_5 u493_5 u494_5 u495_5 u496_5 u497_5 u498_5 u499_5 u500_5 u501_5 u502_5 u503_5 u504_5 u505_5 u506_5 u507_5 u508_5 u509_5 u510_5 u511_5 u512_5 u513_5 u514_5 u515_5 u516_5 u517_5 u518_5 u519_5 u520_5 u521_5 u522_5 u523_5 u524_5 u525_5 u526_5 u527_5 u528_5 u529_5 u530_5 u531_5 u532_5 u533_5 u534_5 u535_5 u536_5 u537_5 u538_5 u539_5 u540_5 u541_5 u542_5 u543_5 u544_5 u545_5 u546_5 u547_5 u548_5 u549_5 u550_5 u551_5 u552_5 u553_5 u554_5 u555_5 u556_5 u557_5 u558_5 u559_5 u560_5 u561_5 u562_5 u563_5 u564_5 u565_5 u566_5 u567_5 u568_5 u569_5 u570_5 u571_5 u572_5 u573_5 u574_5 u575_5 u576_5 u577_5 u578_5 u579_5 u580_5 u581_5 u582_5 u583_5 u584_5 u585_5 u586_5 u587_5 u588_5 u589_5 u590_5 u591_5 u592_5 u593_5 u594_5 u595_5 u596_5 u597_5 u598_5 u599_5 u600_5 u601_5 u602_5 u603_5 u604_5 u605_5 u606_5 u607_5 u608_5 u609_5 u610_5 u611_5 u612_5 u613_5 u614_5 u615_5 u616_5 u617_5 u618_5 u619_5 u620_5 u621_5 u622_5 u623_5 u624_5 u625_5 u626_5
          go_wp2
          all_goals first | (go_ret; exact ⟨zz_no _ _ _ _ _ _, rfl⟩) | skip
          refine loop6 H6.out (fun t ht => zz_ret t ht) ?_
          clear H6
          intro r6 u16_6 u26_6 u27_6 u636_6 u637_6 u638_6 u639_6 u640_6 u641_6 u642_6 u643_6 u644_6 u645_6 u646_6 u647_6 u648_6 u649_6 u650_6 u651_6 u652_6 u653_6 u654_6 u655_6 u656_6 u657_6 u658_6 u659_6 u660_6 u661_6 u662_6 u663_6 u664_6 u665_6 u666_6 u667_6 u668_6 u669_6 u670_6 u671_6 u672_6 u673_6 u674_6 u675_6 u676_6 u677_6 u678_6 u679_6 u680_6 u681_6 u682_6 u683_6 u684_6 u685_6 u686_6 u687_6 u688_6 u689_6 u690_6 u691_6 u692_6 u693_6 u694_6 u695_6 u696_6 u697_6 u698_6 u699_6 u700_6 u701_6 u702_6 u703_6 u704_6 u705_6 u706_6 u707_6 u708_6 u709_6 u710_6 u711_6 u712_6 u713_6 u714_6 u715_6 u716_6 u717_6 u718_6 u719_6 u720_6 u721_6 u722_6 u723_6 u724_6 u725_6 u726_6 u727_6 u728_6 u729_6 u730_6 u731_6 u732_6 u733_6 u734_6 u735_6 u736_6 u737_6 u738_6 u739_6 u740_6 u741_6 u742_6 u743_6 u744_6 u745_6 u746_6 u747_6 u748_6 u749_6 u750_6 u751_6 u752_6 u753_6 u754_6 u755_6 u756_6 u757_6 u758_6 u759_6 u760_6 u761_6 u762_6 u763_6 u764_6 u765_6 u766_6 u767_6 u768_6 u769_6 u770_6 u771_6 u772_6 u773_6 u774_6 u775_6 u776_6 u777_6 u778_6 u779_6 u780_6 u781_6 u782_6 u783_6 u784_6 u785_6 u786_6 u787_6 u788_6 u789_6 u790_6 u791_6 u792_6 u793_6 u794_6 u795_6 u796_6 u797_6 u798_6 u799_6 u800_6 u801_6 u802_6 u803_6 u804_6 u805_6
          go_wp2
          all_goals first | (go_ret; exact ⟨zz_no _ _ _ _ _ _, rfl⟩) | skip
          go_ret
          exact ⟨zz_yes (by omega) (by omega) (by omega) (by omega) (by omega) (by omega), rfl⟩
end Go.Proofs.Qxb6606015a
